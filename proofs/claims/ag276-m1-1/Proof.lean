import JvmDerived
import JvmDerived.Pilot.@@N@@Statement
import JvmDerived.Pilot.@@N@@Code
set_option linter.unusedVariables false
set_option linter.unusedSimpArgs false
namespace Jvm.RoadKit
open Sem ClassFile Op Lib Jvm.Stand Jvm.Free Jvm.LawKit
section Own
variable {p : Program} {l : Launch} {e : Env} {R : Room} {s : State} {m : MethodId} {args : Array Value} {below : List Frame} {meth : Method} {c : Code} {T : State} {locs : List Loc} {cells slots : Nat}
theorem own_ni0 {a : Addr} : a ∉ ([] : List Addr) := List.not_mem_nil
theorem own_niS {a b : Addr} {ws : List Addr} (h : a ≠ b) (r : a ∉ ws) : a ∉ b :: ws := fun q => (List.mem_cons.mp q).elim h r
theorem own_all0 {P : Addr → Prop} : ∀ x ∈ ([] : List Addr), P x := fun _ q => nomatch q
theorem own_allS {P : Addr → Prop} {b : Addr} {ws : List Addr} (h : P b) (r : ∀ x ∈ ws, P x) : ∀ x ∈ b :: ws, P x := fun x q => (List.mem_cons.mp q).elim (fun e => e ▸ h) (r x)
theorem own_arvL {Z : State} {h : Heap} {a : Addr} {k : ClassId} {ty : FieldType} {n : Int32} {vs vs1 : List Value} {d : Value} (q : vs = vs1) (F : Arv Z h a k ty n vs d) : Arv Z h a k ty n vs1 d := q ▸ F
theorem own_lremM {g : JFrame} {target : State} (X : Stand p l e R s m args below meth c T locs cells slots) (hx : p.tables.exec = Jvm.exec) (hg : g.method = m) {x y : Int64} {rest : List Value} (hd : decode c.code g.pc = .ok (.lrem, 1)) (hs : g.stack = .long y :: .long x :: rest) (hy : y ≠ 0)
    (hr : Steps p.tables e below (T.setTop { g with pc := g.pc + 1, stack := .long (x % y) :: rest }) target) : Steps p.tables e below (T.setTop g) target :=
  XS.lrem X.here hx hg hd hs hy (by rw [lrem_mod]; exact hr)
theorem own_narZ {x : Int32} (h : x = (0 : Int32) ∨ x = (1 : Int32)) : nar .boolean x = x := by rcases h with rfl | rfl <;> decide
theorem own_fitZ {x : Int32} (h : x = (0 : Int32) ∨ x = (1 : Int32)) : fits .boolean (.int x) = true := by rcases h with rfl | rfl <;> decide
theorem own_fldV {Z : State} {h : Heap} {a : Addr} {C n d : String} {v v1 : Value} (q : v = v1) (F : Fld Z h a C n d v) : Fld Z h a C n d v1 := q ▸ F
theorem own_W0 {Z : State} {own : String} {h : Heap} (X : Stand p l e R s m args below meth c T locs cells slots) (eT : T.heap = h) (hZ : Z.Warmed39 s.vm) (hown : s.vm.findClass own = some m.cls) :
    ∃ vm0 k0, Stand p l e R (s.setVm vm0) m args below meth c T locs cells slots ∧ s.Since vm0 k0 ∧ k0 ≤ h.size ∧ Z.Warmed39 (s.setVm vm0).vm ∧ (s.setVm vm0).vm.findClass own = some m.cls :=
  ⟨T.vm, _, X.retabled X.warmed.wide, X.warmed.since h.size, Nat.le_refl _, State.Warmed39.trans (t := s) hZ X.warmed.wide, by rw [show (s.setVm T.vm).vm = T.vm from rfl, X.warmed.alike.findClass]; exact hown⟩
theorem own_fold {Z : State} {own : String} {vm0 vm1 : Vm} {k0 k1 : Nat} (X : Stand p l e R ((s.setVm vm0).setVm vm1) m args below meth c T locs cells slots) (hS : s.Since vm0 k0) (h2 : (s.setVm vm0).Since vm1 k1) (hn : k0 ≤ k1) (hZ : Z.Warmed39 (s.setVm vm0).vm) (hown : (s.setVm vm0).vm.findClass own = some m.cls) :
    Stand p l e R (s.setVm vm1) m args below meth c T locs cells slots ∧ s.Since vm1 k1 ∧ Z.Warmed39 (s.setVm vm1).vm ∧ (s.setVm vm1).vm.findClass own = some m.cls :=
  ⟨X, hS.trans h2 hn, State.Warmed39.trans (t := s.setVm vm0) hZ h2.1, by rw [show (s.setVm vm1).vm = vm1 from rfl, h2.1.alike.findClass]; exact hown⟩
end Own
end Jvm.RoadKit
namespace Jvm.RoadKit
open Sem ClassFile Op Lib Jvm.Stand Jvm.Free Jvm.LawKit
section OwnN
variable {p : Program} {l : Launch} {e : Env} {R : Room} {s : State} {m : MethodId} {args : Array Value} {below : List Frame} {meth : Method} {c : Code} {T : State} {locs : List Loc} {cells slots : Nat} {Z : State} {h : Heap}
/-- Double.doubleToRawLongBits: its payer's answer as one step -/
theorem own_bits (X : Stand p l e R s m args below meth c T locs cells slots) (hx : p.tables.exec = Jvm.exec) (hZ : Z.Warmed39 s.vm) {a0 : Array Value} {own : String} {index : Nat} (hown : s.vm.findClass own = some m.cls)
    (w1 : (Cond.methodLink own index ⟨"java/lang/Double", "doubleToRawLongBits", "(D)J"⟩).before a0 Z = true) (w2 : (Cond.static ⟨"java/lang/Double", "doubleToRawLongBits", "(D)J"⟩).before a0 Z = true) (w3 : (Cond.initialized "java/lang/Double").before a0 Z = true) (w4 : (Cond.native ⟨"java/lang/Double", "doubleToRawLongBits", "(D)J"⟩).before a0 Z = true)
    (eT : T.heap = h) {W : Nat} {g : JFrame} (hg : g.method = m) (hsize : g.locals.size = c.maxLocals) {b : UInt64} {rest : List Value} (hst : g.stack = .double b :: rest) (hW : 2 * g.monitorRoom + (rest.map fun v => v.category).sum ≤ W)
    (hd : decode c.code g.pc = .ok (.invokestatic index, 3)) (hfr : 1 ≤ R.frames) (hlo : W + 15 ≤ R.locals) :
    ∃ T', Stand p l e R s m args below meth c T' locs cells slots ∧ T'.heap = h ∧ ∀ target, Steps p.tables e below (T'.setTop { g with pc := g.pc + 3, stack := .long b.toInt64 :: rest }) target → Steps p.tables e below (T.setTop g) target := by
  have n4 : (Cond.native ⟨"java/lang/Double", "doubleToRawLongBits", "(D)J"⟩).before args s = true := mvT hZ w4
  obtain ⟨mk, methM, hnamed, hmethM, -, -, -, hsig⟩ := Cond.native_spec n4
  have hpd : parseMethodDescriptor "(D)J" = some ⟨[.double], some .long⟩ := by decide +kernel
  obtain ⟨v, vm1, B, hW1, X', ⟨hB, hv⟩, st⟩ := Stand.staticBack (args := args) X hx hown (mvT hZ w1) (mvT hZ w2) (mvT hZ w3) hnamed hmethM hsig (by decide)
    (Jvm.Free.NT.DoubleBits.pays n4 (mvT hZ w2) hfr hlo) hg hsize (Steps.refl _) (argsL := [.double b]) (rest := rest) (lenOf hpd rfl) hst hW hd (fun _ _ => ⟨b, rfl⟩)
  have hv' := hv b rfl
  subst hB hv'
  exact ⟨_, X', eT, fun target k => st.trans k⟩
/-- a private instance method is its own choice -/
theorem own_selp {y : MethodName} {s : State} {args : Array Value} {n : Nat} (hy : y.cls ≠ "java/lang/invoke/MethodHandle" ∧ y.cls ≠ "java/lang/invoke/VarHandle")
    (h1 : (Cond.instantiable y.cls n).before args s = true) (h2 : (Cond.privateMethod y).before args s = true) (h3 : (Cond.instanceMethod y).before args s = true) : (Cond.selects y.cls y y).before args s = true := by
  obtain ⟨c, k, hc, hk, -, hab, -, -⟩ := Cond.instantiable_spec h1
  obtain ⟨mk, mt, hn, hm, -, -⟩ := Cond.instanceMethod_spec h3
  have hf : s.methodFound? y.cls y.name y.desc = some mk := State.methodFound?_of_named hn hy
  have hcl : mk.cls = c := Option.some.inj ((findClass_of_methodNamed hn).symm.trans hc)
  have hs : selectMethod {} s.vm c mk = .method mk := selectMethod_private hm (Cond.privateMethod_at h2 mk mt hn hm)
  simp only [Cond.before, Cond.holds, Cond.value, hc, hf, hn, hs, hcl, hk]
  simpa using (Bool.or_eq_false_iff.mp hab).1
end OwnN
end Jvm.RoadKit
namespace Jvm.OwnFP
open Jvm.FP Jvm.FP.Core Jvm.Free.Fl
/-- a double's worth, in units of the least positive double -/
def zv (x : UInt64) : Int := zval b64 (val64 x)
/-- x is finite and is the number i / D -/
def Ra (i : Int) (D : Nat) (x : UInt64) : Prop := DFin x ∧ zv x * (D : Int) = i * (one64 : Int)
theorem Ra.fin {i : Int} {D : Nat} {x : UInt64} (h : Ra i D x) : Fin64 x := fin64_core.mpr h.1
theorem Ra.nn {i : Int} {D : Nat} {x : UInt64} (h : Ra i D x) : NoNaN64 x := h.fin.noNaN
theorem Ra.ne_nan {i : Int} {D : Nat} {x : UInt64} (h : Ra i D x) : val64 x ≠ .nan := h.1.ne_nan
theorem oz : (0 : Int) < (one64 : Int) := Int.natCast_pos.mpr one64_pos
theorem nan_of {x : UInt64} (h : NoNaN64 x) : val64 x ≠ .nan := (notNaN_iff x).mp (noNaN64_no.mp h)
theorem mulc {a b c : Int} (hc : c ≠ 0) (h : a * c = b * c) : a = b := Int.eq_of_mul_eq_mul_right hc h
theorem al_scale {z D D' i i' o : Int} (h : z * D = i * o) (e : i * D' = i' * D) : z * D' * D = i' * o * D := by
  calc z * D' * D = z * D * D' := by ac_rfl
    _ = i * o * D' := by rw [h]
    _ = i * D' * o := by ac_rfl
    _ = i' * o * D := by rw [e]; ac_rfl
theorem al_mul {x y v D E i j o : Int} (hx : x * D = i * o) (hy : y * E = j * o) (hv : v * (D * E) = i * j * o) : x * y * (D * E) = v * o * (D * E) := by
  calc x * y * (D * E) = (x * D) * (y * E) := by ac_rfl
    _ = (i * o) * (j * o) := by rw [hx, hy]
    _ = (i * j * o) * o := by ac_rfl
    _ = v * (D * E) * o := by rw [hv]
    _ = v * o * (D * E) := by ac_rfl
theorem al_mulr {x y v D E F i j r o : Int} (hx : x * D = i * o) (hy : y * E = j * o) (hv : v * F = r * o) (h : i * j * F = r * (D * E)) : x * y * D * E * F = v * o * D * E * F := by
  calc x * y * D * E * F = (x * D) * (y * E) * F := by ac_rfl
    _ = (i * j * F) * (o * o) := by rw [hx, hy]; ac_rfl
    _ = (r * o) * o * (D * E) := by rw [h]; ac_rfl
    _ = (v * F) * o * (D * E) := by rw [hv]
    _ = v * o * D * E * F := by ac_rfl
theorem al_div {x y v D E F i j r o : Int} (hx : x * D = i * o) (hy : y * E = j * o) (hv : v * F = r * o) (h : i * E * F = r * (j * D)) : x * o * D * E * F = v * y * D * E * F := by
  calc x * o * D * E * F = (x * D) * (o * E * F) := by ac_rfl
    _ = (i * E * F) * (o * o) := by rw [hx]; ac_rfl
    _ = (r * o) * (j * o) * D := by rw [h]; ac_rfl
    _ = (v * F) * (y * E) * D := by rw [hv, hy]
    _ = v * y * D * E * F := by ac_rfl
theorem al_units {V d P Q : Nat} : V * P * d * Q = (V * (d * Q)) * P := by ac_rfl
theorem al_mag {i P D o : Nat} (h : i ≤ P * D) : i * o ≤ P * o * D := by
  calc i * o ≤ P * D * o := Nat.mul_le_mul_right _ h
    _ = P * o * D := by ac_rfl
theorem rep {i : Int} {D k : Nat} (hi : i.natAbs < 9007199254740992) (hD : D = 2 ^ k) (hk : k ≤ 1000) : ∃ V, Ra i D V := by
  have hc : i.natAbs < 2 ^ b64.p := by rw [show (2 : Nat) ^ b64.p = 9007199254740992 by decide +kernel]; exact hi
  have hq2 : b64.qmax = 971 := by decide
  obtain ⟨c', q', h1, h2⟩ := round_exact good_b64 (decide (i < 0)) (c := i.natAbs) (q := -(k : Int)) hc (by rw [qmin_b64]; omega) (by rw [hq2]; omega)
  refine ⟨of64 (round b64 (.fin (decide (i < 0)) i.natAbs (-(k : Int)))), ⟨_, _, _, by rw [val64_of64 (round_fits good_b64 _), h1]⟩, ?_⟩
  unfold zv
  rw [val64_of64 (round_fits good_b64 _), h1]
  show signed (decide (i < 0)) (inUnits c' q' b64.qmin) * _ = _
  rw [h2]
  unfold inUnits
  have e1 : signed (decide (i < 0)) i.natAbs = i := by unfold signed; by_cases h : i < 0 <;> simp [h] <;> omega
  have e2 : (-(k : Int) - b64.qmin).toNat + k = 1074 := by rw [qmin_b64]; omega
  rw [signed_mul, e1, Int.mul_assoc, hD, ← Int.natCast_mul, ← Nat.pow_add, e2]
  rfl
theorem fin_of {x V : UInt64} (hn : val64 x ≠ .nan) (hV : DFin V) (h : zv x = zv V) : DFin x := by
  cases hx : val64 x with
  | nan => exact absurd hx hn
  | fin s c q => exact ⟨s, c, q, hx⟩
  | inf s =>
    exfalso
    have h1 := hV.zval_lt
    unfold zv zval at h
    rw [hx] at h
    have h2 := congrArg Int.natAbs h
    rw [natAbs_signed, natAbs_signed] at h2
    exact absurd h2.symm (Nat.ne_of_lt h1)
theorem Ra.scale {i i' : Int} {D D' : Nat} {x : UInt64} (h : Ra i D x) (hD : 0 < D) (e : i * (D' : Int) = i' * (D : Int)) : Ra i' D' x := by
  exact ⟨h.1, mulc (c := (D : Int)) (by omega) (al_scale h.2 e)⟩
theorem Ra.same {i i' : Int} {D : Nat} {x : UInt64} (h : Ra i D x) (e : i = i') : Ra i' D x := e ▸ h
theorem Ra.add {i j : Int} {D k : Nat} {x y : UInt64} (hx : Ra i D x) (hy : Ra j D y) (h : (i + j).natAbs < 9007199254740992) (hD : D = 2 ^ k) (hk : k ≤ 1000) : Ra (i + j) D (FP.dadd x y) := by
  obtain ⟨V, hV⟩ := rep h hD hk
  have hD0 : (D : Int) ≠ 0 := by rw [hD]; exact Int.ne_of_gt (Int.natCast_pos.mpr (Nat.two_pow_pos k))
  have hs : zval b64 (val64 x) + zval b64 (val64 y) = zval b64 (val64 V) := mulc hD0 (by
    have a := hx.2; have b := hy.2; have c := hV.2
    unfold zv at a b c
    rw [Int.add_mul, a, b, c, Int.add_mul])
  have hz : zv (Core.dadd x y) = zv V := by
    unfold zv
    rw [val64_dadd]
    exact Int.le_antisymm (sum_le good_b64 hx.1 hy.1 (val64_fits x) (val64_fits y) (val64_fits V) hV.ne_nan (Int.le_of_eq hs)) (sum_ge good_b64 hx.1 hy.1 (val64_fits x) (val64_fits y) (val64_fits V) hV.ne_nan (Int.le_of_eq hs.symm))
  exact ⟨fin_of ((notNaN_iff _).mp (dadd_out hx.1.notNaN hy.1)) hV.1 hz, by show zv (Core.dadd x y) * _ = _; rw [hz, hV.2]⟩
theorem fin_negate {x : UInt64} (h : DFin x) : ∃ s c q, negate (val64 x) = .fin s c q := by
  obtain ⟨s, c, q, h⟩ := h; exact ⟨!s, c, q, by rw [h]; rfl⟩
theorem Ra.sub {i j : Int} {D k : Nat} {x y : UInt64} (hx : Ra i D x) (hy : Ra j D y) (h : (i - j).natAbs < 9007199254740992) (hD : D = 2 ^ k) (hk : k ≤ 1000) : Ra (i - j) D (FP.dsub x y) := by
  obtain ⟨V, hV⟩ := rep h hD hk
  have hD0 : (D : Int) ≠ 0 := by rw [hD]; exact Int.ne_of_gt (Int.natCast_pos.mpr (Nat.two_pow_pos k))
  have hs : zval b64 (val64 x) + zval b64 (negate (val64 y)) = zval b64 (val64 V) := mulc hD0 (by
    have a := hx.2; have b := hy.2; have c := hV.2
    unfold zv at a b c
    rw [zval_negate, Int.add_mul, Int.neg_mul, a, b, c, Int.sub_mul]
    omega)
  have hz : zv (Core.dsub x y) = zv V := by
    unfold zv
    rw [val64_dsub]
    exact Int.le_antisymm (sum_le good_b64 hx.1 (fin_negate hy.1) (val64_fits x) (negate_fits (val64_fits y)) (val64_fits V) hV.ne_nan (Int.le_of_eq hs)) (sum_ge good_b64 hx.1 (fin_negate hy.1) (val64_fits x) (negate_fits (val64_fits y)) (val64_fits V) hV.ne_nan (Int.le_of_eq hs.symm))
  exact ⟨fin_of ((notNaN_iff _).mp (dsub_out hx.1.notNaN hy.1)) hV.1 hz, by show zv (Core.dsub x y) * _ = _; rw [hz, hV.2]⟩
theorem qq : (b64.qmin - 2 * b64.qmin).toNat = (-b64.qmin).toNat := by rw [qmin_b64]; decide
/-- a product, held against a double -/
theorem mul_le {x y V : UInt64} (hx : DFin x) (hy : DFin y) (hV : val64 V ≠ .nan) (h : zv x * zv y ≤ zv V * (one64 : Int)) : zv (Core.dmul x y) ≤ zv V := by
  obtain ⟨s, c, q, ex⟩ := hx
  obtain ⟨t, d, r, ey⟩ := hy
  have fx := val64_fits x; have fy := val64_fits y
  rw [ex] at fx; rw [ey] at fy
  obtain ⟨p1, p2, p3⟩ := product_units fx fy
  unfold zv at h ⊢
  rw [val64_dmul, ex, ey, p1]
  rw [ex, ey] at h
  exact zval_round_le good_b64 (val64_fits V) hV (e0 := 2 * b64.qmin) (by rw [qmin_b64]; decide) p2 (by rw [p3, signed_xor, qq, pow_qmin64]; exact h)
theorem mul_ge {x y V : UInt64} (hx : DFin x) (hy : DFin y) (hV : val64 V ≠ .nan) (h : zv V * (one64 : Int) ≤ zv x * zv y) : zv V ≤ zv (Core.dmul x y) := by
  obtain ⟨s, c, q, ex⟩ := hx
  obtain ⟨t, d, r, ey⟩ := hy
  have fx := val64_fits x; have fy := val64_fits y
  rw [ex] at fx; rw [ey] at fy
  obtain ⟨p1, p2, p3⟩ := product_units fx fy
  unfold zv at h ⊢
  rw [val64_dmul, ex, ey, p1]
  rw [ex, ey] at h
  exact zval_round_ge good_b64 (val64_fits V) hV (e0 := 2 * b64.qmin) (by rw [qmin_b64]; decide) p2 (by rw [p3, signed_xor, qq, pow_qmin64]; exact h)
/-- the product's worth, where it is a double's -/
theorem mul_zv {x y V : UInt64} (hx : DFin x) (hy : DFin y) (hV : val64 V ≠ .nan) (h : zv x * zv y = zv V * (one64 : Int)) : zv (Core.dmul x y) = zv V :=
  Int.le_antisymm (mul_le hx hy hV (Int.le_of_eq h)) (mul_ge hx hy hV (Int.le_of_eq h.symm))
theorem Ra.mul {i j : Int} {D E k : Nat} {x y : UInt64} (hx : Ra i D x) (hy : Ra j E y) (h : (i * j).natAbs < 9007199254740992) (hD : D * E = 2 ^ k) (hk : k ≤ 1000) : Ra (i * j) (D * E) (FP.dmul x y) := by
  obtain ⟨V, hV⟩ := rep h hD hk
  have hD0 : ((D * E : Nat) : Int) ≠ 0 := by rw [hD]; exact Int.ne_of_gt (Int.natCast_pos.mpr (Nat.two_pow_pos k))
  have hv := hV.2
  rw [Int.natCast_mul] at hv hD0
  have hs : zv x * zv y = zv V * (one64 : Int) := mulc hD0 (al_mul hx.2 hy.2 hv)
  have hz : zv (Core.dmul x y) = zv V := mul_zv hx.1 hy.1 hV.ne_nan hs
  exact ⟨fin_of ((notNaN_iff _).mp (dmul_out hx.1 hy.1)) hV.1 hz, by show zv (Core.dmul x y) * _ = _; rw [hz, hV.2]⟩
/-- a product written in its least terms -/
theorem Ra.mulr {i j r : Int} {D E F k : Nat} {x y : UInt64} (hx : Ra i D x) (hy : Ra j E y) (hD : 0 < D) (hE : 0 < E) (hr : r.natAbs < 9007199254740992) (hF : F = 2 ^ k) (hk : k ≤ 1000) (h : i * j * (F : Int) = r * ((D : Int) * (E : Int))) : Ra r F (FP.dmul x y) := by
  obtain ⟨V, hV⟩ := rep hr hF hk
  have hF0 : (F : Int) ≠ 0 := by rw [hF]; exact Int.ne_of_gt (Int.natCast_pos.mpr (Nat.two_pow_pos k))
  have hs : zv x * zv y = zv V * (one64 : Int) := by
    exact mulc (c := (D : Int)) (by omega) (mulc (c := (E : Int)) (by omega) (mulc hF0 (al_mulr hx.2 hy.2 hV.2 h)))
  have hz : zv (Core.dmul x y) = zv V := mul_zv hx.1 hy.1 hV.ne_nan hs
  exact ⟨fin_of ((notNaN_iff _).mp (dmul_out hx.1 hy.1)) hV.1 hz, by show zv (Core.dmul x y) * _ = _; rw [hz, hV.2]⟩
theorem zv_abs (x : UInt64) : (zv x).natAbs = zmag b64 (val64 x) := by unfold zv zval; rw [natAbs_signed]
/-- the quotient's parts -/
theorem div_parts {x y : UInt64} (hx : DFin x) (hy : DFin y) (hz : zv y ≠ 0) : ∃ s t c d q r, val64 x = .fin s c q ∧ val64 y = .fin t d r ∧ 0 < d ∧ b64.qmin ≤ q ∧ b64.qmin ≤ r ∧ zmag b64 (val64 x) = c * 2 ^ (q - b64.qmin).toNat ∧ zmag b64 (val64 y) = d * 2 ^ (r - b64.qmin).toNat ∧ val64 (Core.ddiv x y) = roundRatio b64 (s != t) c d (q - r) := by
  obtain ⟨s, c, q, ex⟩ := hx
  obtain ⟨t, d, r, ey⟩ := hy
  have fx := val64_fits x; have fy := val64_fits y
  rw [ex] at fx; rw [ey] at fy
  have hd : d ≠ 0 := fun h => hz (by unfold zv; rw [ey, h]; simp [zval, zmag, sgn, inUnits, signed])
  refine ⟨s, t, c, d, q, r, ex, ey, Nat.pos_of_ne_zero hd, fx.2.1, fy.2.1, by rw [ex]; rfl, by rw [ey]; rfl, ?_⟩
  rw [val64_ddiv, ex, ey]
  show (if d = 0 then _ else roundRatio b64 (s != t) c d (q - r)) = _
  rw [if_neg hd]
theorem div_units {c d V : Nat} {q r e : Int} (hq : b64.qmin ≤ q) (hr : b64.qmin ≤ r) (h1 : e ≤ b64.qmin) (h2 : e ≤ q - r) :
    inUnits c (q - r) e * 2 ^ (r - b64.qmin).toNat = (c * 2 ^ (q - b64.qmin).toNat * one64) * 2 ^ (b64.qmin - e).toNat ∧
      V * 2 ^ (b64.qmin - e).toNat * d * 2 ^ (r - b64.qmin).toNat = (V * (d * 2 ^ (r - b64.qmin).toNat)) * 2 ^ (b64.qmin - e).toNat := by
  refine ⟨?_, al_units⟩
  have hn : b64.qmin < 0 := by rw [qmin_b64]; decide
  unfold inUnits
  rw [← pow_qmin64, Nat.mul_assoc, Nat.mul_assoc, Nat.mul_assoc, ← Nat.pow_add, ← Nat.pow_add, ← Nat.pow_add]
  congr 2
  omega
theorem div_mag_le {x y V : UInt64} (hx : DFin x) (hy : DFin y) (hz : zv y ≠ 0) (hV : val64 V ≠ .nan) (h : (zv x).natAbs * one64 ≤ (zv V).natAbs * (zv y).natAbs) : (zv (Core.ddiv x y)).natAbs ≤ (zv V).natAbs := by
  obtain ⟨s, t, c, d, q, r, ex, ey, hd, hq, hr, mx, my, hv⟩ := div_parts hx hy hz
  rw [zv_abs, zv_abs, hv]
  rw [zv_abs, zv_abs, zv_abs, mx, my] at h
  refine zmag_roundRatio_le good_b64 hd (val64_fits V) hV (e0 := min b64.qmin (q - r)) (by omega) (by omega) ?_
  obtain ⟨u1, u2⟩ := div_units (c := c) (d := d) (V := zmag b64 (val64 V)) hq hr (e := min b64.qmin (q - r)) (by omega) (by omega)
  refine Nat.le_of_mul_le_mul_right (c := 2 ^ (r - b64.qmin).toNat) ?_ (Nat.two_pow_pos _)
  rw [u1, u2]
  exact Nat.mul_le_mul_right _ h
theorem div_mag_ge {x y V : UInt64} (hx : DFin x) (hy : DFin y) (hz : zv y ≠ 0) (h : (zv V).natAbs * (zv y).natAbs ≤ (zv x).natAbs * one64) : (zv V).natAbs ≤ (zv (Core.ddiv x y)).natAbs := by
  obtain ⟨s, t, c, d, q, r, ex, ey, hd, hq, hr, mx, my, hv⟩ := div_parts hx hy hz
  rw [zv_abs, zv_abs, hv]
  rw [zv_abs, zv_abs, zv_abs, mx, my] at h
  refine zmag_roundRatio_ge good_b64 hd (val64_fits V) (e0 := min b64.qmin (q - r)) (by omega) (by omega) ?_
  obtain ⟨u1, u2⟩ := div_units (c := c) (d := d) (V := zmag b64 (val64 V)) hq hr (e := min b64.qmin (q - r)) (by omega) (by omega)
  refine Nat.le_of_mul_le_mul_right (c := 2 ^ (r - b64.qmin).toNat) ?_ (Nat.two_pow_pos _)
  rw [u1, u2]
  exact Nat.mul_le_mul_right _ h
theorem zv_sgn (x : UInt64) : zv x = signed (sgn (val64 x)) (zv x).natAbs := by rw [zv_abs]; rfl
theorem div_sgn {x y : UInt64} (hx : DFin x) (hy : DFin y) (hz : zv y ≠ 0) : sgn (val64 (Core.ddiv x y)) = (sgn (val64 x) != sgn (val64 y)) := by
  obtain ⟨s, t, c, d, q, r, ex, ey, -, -, -, -, -, hv⟩ := div_parts hx hy hz
  rw [hv, sgn_roundRatio, ex, ey]; rfl
theorem sgn_pos {x : UInt64} (h : 0 < zv x) : sgn (val64 x) = false := by
  rw [zv_sgn] at h
  cases hs : sgn (val64 x) with
  | false => rfl
  | true => rw [hs] at h; simp [signed] at h; omega
theorem div_nonneg {x y : UInt64} (hx : DFin x) (hy : DFin y) (h1 : 0 < zv x) (h2 : 0 < zv y) : zv (Core.ddiv x y) = ((zv (Core.ddiv x y)).natAbs : Int) := by
  have h := div_sgn hx hy (Int.ne_of_gt h2)
  rw [sgn_pos h1, sgn_pos h2] at h
  rw [zv_sgn (Core.ddiv x y), h]; simp [signed]
theorem div_ge {x y V : UInt64} (hx : DFin x) (hy : DFin y) (h1 : 0 < zv x) (h2 : 0 < zv y) (hV : 0 ≤ zv V) (h : zv V * zv y ≤ zv x * (one64 : Int)) : zv V ≤ zv (Core.ddiv x y) := by
  have k : (zv V).natAbs * (zv y).natAbs ≤ (zv x).natAbs * one64 := by
    have e1 : ((zv V).natAbs : Int) = zv V := by omega
    have e2 : ((zv y).natAbs : Int) = zv y := by omega
    have e3 : ((zv x).natAbs : Int) = zv x := by omega
    refine Int.ofNat_le.mp ?_
    rw [Int.natCast_mul, Int.natCast_mul, e1, e2, e3]; exact h
  have := div_mag_ge hx hy (Int.ne_of_gt h2) k
  rw [div_nonneg hx hy h1 h2]; omega
theorem div_le {x y V : UInt64} (hx : DFin x) (hy : DFin y) (h1 : 0 < zv x) (h2 : 0 < zv y) (hn : val64 V ≠ .nan) (hV : 0 ≤ zv V) (h : zv x * (one64 : Int) ≤ zv V * zv y) : zv (Core.ddiv x y) ≤ zv V := by
  have k : (zv x).natAbs * one64 ≤ (zv V).natAbs * (zv y).natAbs := by
    have e1 : ((zv V).natAbs : Int) = zv V := by omega
    have e2 : ((zv y).natAbs : Int) = zv y := by omega
    have e3 : ((zv x).natAbs : Int) = zv x := by omega
    refine Int.ofNat_le.mp ?_
    rw [Int.natCast_mul, Int.natCast_mul, e1, e2, e3]; exact h
  have := div_mag_le hx hy (Int.ne_of_gt h2) hn k
  rw [div_nonneg hx hy h1 h2]; omega
theorem signed_inj {s t : Bool} {n : Nat} (hn : n ≠ 0) (h : signed s n = signed t n) : s = t := by
  cases s <;> cases t <;> simp [signed] at h ⊢ <;> omega
theorem xor_back {s t v : Bool} (h : s = (v != t)) : (s != t) = v := by cases s <;> cases t <;> cases v <;> simp_all
/-- the quotient's worth, where it is a double's -/
theorem div_zv {x y V : UInt64} (hx : DFin x) (hy : DFin y) (hz : zv y ≠ 0) (hV : DFin V) (h : zv x * (one64 : Int) = zv V * zv y) : zv (Core.ddiv x y) = zv V := by
  have ha : (zv x).natAbs * one64 = (zv V).natAbs * (zv y).natAbs := by
    have := congrArg Int.natAbs h
    rwa [Int.natAbs_mul, Int.natAbs_mul, Int.natAbs_natCast] at this
  have hm : (zv (Core.ddiv x y)).natAbs = (zv V).natAbs := Nat.le_antisymm (div_mag_le hx hy hz hV.ne_nan (Nat.le_of_eq ha)) (div_mag_ge hx hy hz (Nat.le_of_eq ha.symm))
  rw [zv_sgn (Core.ddiv x y), hm, div_sgn hx hy hz]
  by_cases h0 : (zv V).natAbs = 0
  · rw [h0, Int.natAbs_eq_zero.mp h0]; exact signed_zero _
  · have k : signed (sgn (val64 x)) ((zv x).natAbs * one64) = zv x * (one64 : Int) := by rw [signed_mul, ← zv_sgn]
    rw [ha] at k
    have k2 : signed (sgn (val64 V) != sgn (val64 y)) ((zv V).natAbs * (zv y).natAbs) = zv V * zv y := by rw [signed_xor, ← zv_sgn, ← zv_sgn]
    have e := xor_back (signed_inj (n := (zv V).natAbs * (zv y).natAbs) (Nat.mul_ne_zero h0 (fun q => hz (Int.natAbs_eq_zero.mp q))) (k.trans (h.trans k2.symm)))
    rw [e, ← zv_sgn]
theorem Ra.div {i j r : Int} {D E F k : Nat} {x y : UInt64} (hx : Ra i D x) (hy : Ra j E y) (hD : 0 < D) (hE : 0 < E) (hj : j ≠ 0) (hr : r.natAbs < 9007199254740992) (hF : F = 2 ^ k) (hk : k ≤ 1000) (h : i * (E : Int) * (F : Int) = r * (j * (D : Int))) : Ra r F (FP.ddiv x y) := by
  obtain ⟨V, hV⟩ := rep hr hF hk
  have hF0 : (F : Int) ≠ 0 := by rw [hF]; exact Int.ne_of_gt (Int.natCast_pos.mpr (Nat.two_pow_pos k))
  have hy0 : zv y ≠ 0 := fun q => by
    have := hy.2; rw [q, Int.zero_mul] at this
    exact (Int.mul_ne_zero hj (Int.ne_of_gt oz)) this.symm
  have hs : zv x * (one64 : Int) = zv V * zv y := by
    exact mulc (c := (D : Int)) (by omega) (mulc (c := (E : Int)) (by omega) (mulc hF0 (al_div hx.2 hy.2 hV.2 h)))
  have hz : zv (Core.ddiv x y) = zv V := div_zv hx.1 hy.1 hy0 hV.1 hs
  have hyz : ¬ DZero y := fun q => hy0 (by unfold zv; exact DZero.zval q)
  exact ⟨fin_of ((notNaN_iff _).mp (ddiv_out hx.1.notNaN hy.1 hyz)) hV.1 hz, by show zv (Core.ddiv x y) * _ = _; rw [hz, hV.2]⟩
/-- two quotients of one ratio are of one worth -/
theorem div_alike {x y x' y' : UInt64} (hx : DFin x) (hy : DFin y) (hx' : DFin x') (hy' : DFin y') (hz : zv y ≠ 0) (hz' : zv y' ≠ 0) (h : zv x * zv y' = zv x' * zv y) : zv (Core.ddiv x y) = zv (Core.ddiv x' y') := by
  have ha : (zv x).natAbs * (zv y').natAbs = (zv x').natAbs * (zv y).natAbs := by
    have := congrArg Int.natAbs h
    rwa [Int.natAbs_mul, Int.natAbs_mul] at this
  have hsg := div_sgn hx hy hz
  have hsg' := div_sgn hx' hy' hz'
  obtain ⟨s, t, c, d, q, r, ex, ey, hd, hq, hr, mx, my, hv⟩ := div_parts hx hy hz
  obtain ⟨s', t', c', d', q', r', ex', ey', hd', hq', hr', mx', my', hv'⟩ := div_parts hx' hy' hz'
  have hm : (zv (Core.ddiv x y)).natAbs = (zv (Core.ddiv x' y')).natAbs := by
    rw [zv_abs, zv_abs, zv_abs, zv_abs, mx, my, mx', my'] at ha
    rw [zv_abs, zv_abs, hv, hv']
    have e : roundRatio b64 (s != t) c d (q - r) = roundRatio b64 (s != t) c' d' (q' - r') := by
      refine roundRatio_congr hd hd' ?_
      have g1 : ∃ T, (q - b64.qmin).toNat + (r' - b64.qmin).toNat = (q - r - (q' - r')).toNat + T ∧ (q' - b64.qmin).toNat + (r - b64.qmin).toNat = (q' - r' - (q - r)).toNat + T := ⟨(min ((q - b64.qmin) + (r' - b64.qmin)) ((q' - b64.qmin) + (r - b64.qmin))).toNat, by omega, by omega⟩
      obtain ⟨T, g1, g2⟩ := g1
      refine Nat.eq_of_mul_eq_mul_right (Nat.two_pow_pos T) ?_
      calc c * d' * 2 ^ (q - r - (q' - r')).toNat * 2 ^ T = (c * 2 ^ (q - b64.qmin).toNat) * (d' * 2 ^ (r' - b64.qmin).toNat) := by rw [Nat.mul_assoc, ← Nat.pow_add, ← g1, Nat.pow_add]; ac_rfl
        _ = (c' * 2 ^ (q' - b64.qmin).toNat) * (d * 2 ^ (r - b64.qmin).toNat) := ha
        _ = c' * d * 2 ^ (q' - r' - (q - r)).toNat * 2 ^ T := by rw [Nat.mul_assoc (c' * d), ← Nat.pow_add, ← g2, Nat.pow_add]; ac_rfl
    rw [e]
    rcases roundRatio_cases b64 (s != t) c' d' (q' - r') with ⟨a, b, g⟩ | g <;> rcases roundRatio_cases b64 (s' != t') c' d' (q' - r') with ⟨a', b', g'⟩ | g'
    all_goals first
      | (have := negate_roundRatio b64 (s' != t') c' d' (q' - r')
         by_cases w : (s != t) = (s' != t')
         · rw [w]
         · rw [show (s != t) = !(s' != t') by cases s <;> cases t <;> cases s' <;> cases t' <;> simp_all, ← this]
           rw [g']; rfl)
  rw [zv_sgn (Core.ddiv x y), zv_sgn (Core.ddiv x' y'), hm, hsg, hsg']
  by_cases h0 : (zv (Core.ddiv x' y')).natAbs = 0
  · rw [h0, signed_zero, signed_zero]
  · by_cases hx0 : (zv x').natAbs = 0
    · exfalso; apply h0
      have := div_mag_le (V := (0 : UInt64)) hx' hy' hz' (by rw [val64_zero]; exact Datum.noConfusion) (by rw [hx0, Nat.zero_mul]; exact Nat.zero_le _)
      have z0 : zv 0 = 0 := zval64_zero
      rw [z0] at this; simpa using this
    · congr 1
      have hy1 : (zv y).natAbs ≠ 0 := fun q => hz (Int.natAbs_eq_zero.mp q)
      have k : signed (sgn (val64 x) != sgn (val64 y')) ((zv x').natAbs * (zv y).natAbs) = signed (sgn (val64 x') != sgn (val64 y)) ((zv x').natAbs * (zv y).natAbs) := by
        rw [← ha, signed_xor, ha, signed_xor, ← zv_sgn, ← zv_sgn, ← zv_sgn, ← zv_sgn]; exact h
      have k2 := signed_inj (Nat.mul_ne_zero hx0 hy1) k
      revert k2
      generalize sgn (val64 x) = a; generalize sgn (val64 y) = b; generalize sgn (val64 x') = a'; generalize sgn (val64 y') = b'
      cases a <;> cases b <;> cases a' <;> cases b' <;> simp
/-- comparisons -/
theorem cv_lt {x y : UInt64} (nx : val64 x ≠ .nan) (ny : val64 y ≠ .nan) (h : zv x < zv y) (o : Jvm.ClassFile.CmpOp) : Jvm.Op.cmpValue (FP.dcmp x y) o = -1 := by
  rw [show FP.dcmp x y = some .lt from dcmp_lt.mpr ⟨nx, ny, h⟩]; cases o <;> rfl
theorem cv_eq {x y : UInt64} (nx : val64 x ≠ .nan) (ny : val64 y ≠ .nan) (h : zv x = zv y) (o : Jvm.ClassFile.CmpOp) : Jvm.Op.cmpValue (FP.dcmp x y) o = 0 := by
  rw [show FP.dcmp x y = some .eq from dcmp_eq.mpr ⟨nx, ny, h⟩]; cases o <;> rfl
theorem cv_gt {x y : UInt64} (nx : val64 x ≠ .nan) (ny : val64 y ≠ .nan) (h : zv y < zv x) (o : Jvm.ClassFile.CmpOp) : Jvm.Op.cmpValue (FP.dcmp x y) o = 1 := by
  rw [show FP.dcmp x y = some .gt from dcmp_gt.mpr ⟨nx, ny, h⟩]; cases o <;> rfl
theorem cv_le {x y : UInt64} (nx : val64 x ≠ .nan) (ny : val64 y ≠ .nan) (h : zv x ≤ zv y) (o : Jvm.ClassFile.CmpOp) : ¬ (0 : Int32) < Jvm.Op.cmpValue (FP.dcmp x y) o := by
  rcases Int.lt_or_eq_of_le h with q | q
  · rw [cv_lt nx ny q]; decide
  · rw [cv_eq nx ny q]; decide
theorem cv_ge {x y : UInt64} (nx : val64 x ≠ .nan) (ny : val64 y ≠ .nan) (h : zv y ≤ zv x) (o : Jvm.ClassFile.CmpOp) : ¬ Jvm.Op.cmpValue (FP.dcmp x y) o < (0 : Int32) := by
  rcases Int.lt_or_eq_of_le h with q | q
  · rw [cv_gt nx ny q]; decide
  · rw [cv_eq nx ny q.symm]; decide
theorem cv_lt' {x y : UInt64} (nx : val64 x ≠ .nan) (ny : val64 y ≠ .nan) (h : zv x < zv y) (o : Jvm.ClassFile.CmpOp) : Jvm.Op.cmpValue (FP.dcmp x y) o < (0 : Int32) := by rw [cv_lt nx ny h]; decide
theorem cv_gt' {x y : UInt64} (nx : val64 x ≠ .nan) (ny : val64 y ≠ .nan) (h : zv y < zv x) (o : Jvm.ClassFile.CmpOp) : (0 : Int32) < Jvm.Op.cmpValue (FP.dcmp x y) o := by rw [cv_gt nx ny h]; decide
theorem zv_lt {i j : Int} {D : Nat} {x y : UInt64} (hx : Ra i D x) (hy : Ra j D y) (hD : 0 < D) (h : i < j) : zv x < zv y := by
  refine Int.lt_of_mul_lt_mul_right (a := (D : Int)) ?_ (by omega)
  rw [hx.2, hy.2]; exact Int.mul_lt_mul_of_pos_right h oz
theorem zv_eq {i j : Int} {D : Nat} {x y : UInt64} (hx : Ra i D x) (hy : Ra j D y) (hD : 0 < D) (h : i = j) : zv x = zv y :=
  mulc (c := (D : Int)) (by omega) (by rw [hx.2, hy.2, h])
theorem Ra.lt {i j : Int} {D : Nat} {x y : UInt64} (hx : Ra i D x) (hy : Ra j D y) (hD : 0 < D) (h : i < j) (o : Jvm.ClassFile.CmpOp) : Jvm.Op.cmpValue (FP.dcmp x y) o = -1 := cv_lt hx.ne_nan hy.ne_nan (zv_lt hx hy hD h) o
theorem Ra.gt {i j : Int} {D : Nat} {x y : UInt64} (hx : Ra i D x) (hy : Ra j D y) (hD : 0 < D) (h : j < i) (o : Jvm.ClassFile.CmpOp) : Jvm.Op.cmpValue (FP.dcmp x y) o = 1 := cv_gt hx.ne_nan hy.ne_nan (zv_lt hy hx hD h) o
theorem Ra.eq {i j : Int} {D : Nat} {x y : UInt64} (hx : Ra i D x) (hy : Ra j D y) (hD : 0 < D) (h : i = j) (o : Jvm.ClassFile.CmpOp) : Jvm.Op.cmpValue (FP.dcmp x y) o = 0 := cv_eq hx.ne_nan hy.ne_nan (zv_eq hx hy hD h) o
theorem zv_le {i j : Int} {D : Nat} {x y : UInt64} (hx : Ra i D x) (hy : Ra j D y) (hD : 0 < D) (h : i ≤ j) : zv x ≤ zv y := by
  rcases Int.lt_or_eq_of_le h with q | q
  · exact Int.le_of_lt (zv_lt hx hy hD q)
  · exact Int.le_of_eq (zv_eq hx hy hD q)
theorem Ra.le {i j : Int} {D : Nat} {x y : UInt64} (hx : Ra i D x) (hy : Ra j D y) (hD : 0 < D) (h : i ≤ j) (o : Jvm.ClassFile.CmpOp) : ¬ (0 : Int32) < Jvm.Op.cmpValue (FP.dcmp x y) o := cv_le hx.ne_nan hy.ne_nan (zv_le hx hy hD h) o
theorem Ra.ge {i j : Int} {D : Nat} {x y : UInt64} (hx : Ra i D x) (hy : Ra j D y) (hD : 0 < D) (h : j ≤ i) (o : Jvm.ClassFile.CmpOp) : ¬ Jvm.Op.cmpValue (FP.dcmp x y) o < (0 : Int32) := cv_ge hx.ne_nan hy.ne_nan (zv_le hy hx hD h) o
theorem Ra.lt' {i j : Int} {D : Nat} {x y : UInt64} (hx : Ra i D x) (hy : Ra j D y) (hD : 0 < D) (h : i < j) (o : Jvm.ClassFile.CmpOp) : Jvm.Op.cmpValue (FP.dcmp x y) o < (0 : Int32) := cv_lt' hx.ne_nan hy.ne_nan (zv_lt hx hy hD h) o
theorem Ra.gt' {i j : Int} {D : Nat} {x y : UInt64} (hx : Ra i D x) (hy : Ra j D y) (hD : 0 < D) (h : j < i) (o : Jvm.ClassFile.CmpOp) : (0 : Int32) < Jvm.Op.cmpValue (FP.dcmp x y) o := cv_gt' hx.ne_nan hy.ne_nan (zv_lt hy hx hD h) o
theorem Ra.of_int {i : Int} {x : UInt64} (h : DInt i x) (hf : DFin x) : Ra i 1 x := ⟨hf, by show zval b64 (val64 x) * _ = _; rw [DInt_zval h]; show _ * (1 : Int) = _; rw [Int.mul_one]⟩
theorem Ra.i2d (a : Int32) : Ra a.toInt 1 (FP.i2d a) := Ra.of_int (i2d_int a) (Core.i2d_fin a)
theorem Ra.l2d {a : Int64} (h : a.toInt.natAbs ≤ 9007199254740992) : Ra a.toInt 1 (FP.l2d a) := Ra.of_int (l2d_int h) (Core.l2d_fin a)
/-- a written constant -/
theorem Ra.lit {x : UInt64} {s : Bool} {c D n : Nat} {q i : Int} {k : Nat} (h : val64 x = .fin s c q) (hD : D = 2 ^ k) (hq : q = -((k + n : Nat) : Int)) (hk : k + n ≤ 1074) (e : signed s c = i * ((2 ^ n : Nat) : Int)) : Ra i D x := by
  refine ⟨⟨s, c, q, h⟩, ?_⟩
  unfold zv
  rw [h]
  show signed s (inUnits c q b64.qmin) * _ = _
  unfold inUnits
  have e2 : n + (q - b64.qmin).toNat + k = 1074 := by rw [qmin_b64]; omega
  rw [signed_mul, e, hD, Int.mul_assoc, Int.mul_assoc, ← Int.natCast_mul, ← Int.natCast_mul, ← Nat.pow_add, ← Nat.pow_add, ← Nat.add_assoc, e2]
  rfl
theorem zv_neg (x : UInt64) : zv (FP.dneg x) = -zv x := by unfold zv; rw [Jvm.FP.val64_dneg, zval_negate]
theorem Ra.neg {i : Int} {D : Nat} {x : UInt64} (h : Ra i D x) : Ra (-i) D (FP.dneg x) := by
  obtain ⟨⟨s, c, q, ex⟩, e⟩ := h
  exact ⟨⟨!s, c, q, by rw [Jvm.FP.val64_dneg, ex]; rfl⟩, by rw [zv_neg, Int.neg_mul, e, Int.neg_mul]⟩
/-- exact products of longs -/
theorem lmul_of {x y : Int64} {a b : Int} (hx : x.toInt = a) (hy : y.toInt = b) (h1 : -9223372036854775808 ≤ a * b) (h2 : a * b < 9223372036854775808) : (x * y).toInt = a * b := by
  rw [int64_mul (by rw [hx, hy]; exact h1) (by rw [hx, hy]; exact h2), hx, hy]
theorem ladd_of {x y : Int64} {a b : Int} (hx : x.toInt = a) (hy : y.toInt = b) (h1 : -9223372036854775808 ≤ a + b) (h2 : a + b < 9223372036854775808) : (x + y).toInt = a + b := by
  rw [int64_add (by rw [hx, hy]; exact h1) (by rw [hx, hy]; exact h2), hx, hy]
theorem lsub_of {x y : Int64} {a b : Int} (hx : x.toInt = a) (hy : y.toInt = b) (h1 : -9223372036854775808 ≤ a - b) (h2 : a - b < 9223372036854775808) : (x - y).toInt = a - b := by
  rw [int64_sub (by rw [hx, hy]; exact h1) (by rw [hx, hy]; exact h2), hx, hy]
theorem lneg_of {x : Int64} {a : Int} (hx : x.toInt = a) (h1 : -9223372036854775808 < a) : (-x).toInt = -a := by
  rw [int64_neg (by rw [hx]; exact h1), hx]
theorem i2l_of {x : Int32} {a : Int} (hx : x.toInt = a) : x.toInt64.toInt = a := by rw [Int32.toInt_toInt64, hx]
theorem fin_of_le {x V : UInt64} (hn : val64 x ≠ .nan) (hV : DFin V) (h : (zv x).natAbs ≤ (zv V).natAbs) : DFin x := by
  cases hx : val64 x with
  | nan => exact absurd hx hn
  | fin s c q => exact ⟨s, c, q, hx⟩
  | inf s =>
    exfalso
    have h1 := hV.zval_lt
    rw [zv_abs, zv_abs, hx] at h
    exact absurd (Nat.lt_of_le_of_lt h h1) (Nat.lt_irrefl _)
/-- a bound on the worth bounds the bits -/
theorem mag_of {x : UInt64} {n : Nat} (hx : DFin x) (h : (zv x).natAbs ≤ 2 ^ n * one64) : Mag64 (n + 1024) x := by
  have z := zmag_bits hx.ne_nan
  rw [zv_abs, z] at h
  have hs : unitsOf b64 ((n + 1024) * b64.tails) = b64.tails * 2 ^ (n + 1024 - 1) := unitsOf_start (by omega)
  have ho : 2 ^ n * one64 < b64.tails * 2 ^ (n + 1024 - 1) := by
    rw [tails_b64, ← pow_qmin64, ← Nat.pow_add, ← Nat.pow_add, qmin_b64]
    exact Nat.pow_lt_pow_right (by decide) (by omega)
  have hl : unitsOf b64 (x.toNat % 2 ^ 63) < unitsOf b64 ((n + 1024) * b64.tails) := by rw [hs]; exact Nat.lt_of_le_of_lt h ho
  have hb := unitsOf_lt_iff.mp hl
  rw [tails_b64] at hb
  unfold Mag64
  exact hb
theorem Ra.mag {i : Int} {D n : Nat} {x : UInt64} (h : Ra i D x) (hD : 0 < D) (hi : i.natAbs ≤ 2 ^ n * D) : Mag64 (n + 1024) x := by
  refine mag_of h.1 (Nat.le_of_mul_le_mul_right (c := D) ?_ hD)
  have e := congrArg Int.natAbs h.2
  rw [Int.natAbs_mul, Int.natAbs_mul, Int.natAbs_natCast, Int.natAbs_natCast] at e
  rw [e]
  exact al_mag hi
theorem big_of {x : UInt64} (hx : DFin x) (h : one64 ≤ (zv x).natAbs) : Jvm.RoadKit.Big64 1023 x := by
  have z := zmag_bits hx.ne_nan
  rw [zv_abs, z] at h
  have hs : unitsOf b64 (1023 * b64.tails) = b64.tails * 2 ^ (1023 - 1) := unitsOf_start (by decide)
  have ho : b64.tails * 2 ^ (1023 - 1) = one64 := by rw [tails_b64, ← pow_qmin64, ← Nat.pow_add, qmin_b64]; rfl
  have hl : unitsOf b64 (1023 * b64.tails) ≤ unitsOf b64 (x.toNat % 2 ^ 63) := by rw [hs, ho]; exact h
  have hb := unitsOf_le_iff.mp hl
  rw [tails_b64] at hb
  have hf := (fin_bits x).mp hx
  exact ⟨hb, by omega⟩
theorem Ra.big {i : Int} {x : UInt64} (h : Ra i 1 x) (hi : i ≠ 0) : Jvm.RoadKit.Big64 1023 x := by
  refine big_of h.1 ?_
  have e := congrArg Int.natAbs h.2
  rw [Int.natAbs_mul, Int.natAbs_mul, Int.natAbs_natCast, Int.natAbs_natCast, Nat.mul_one] at e
  rw [e]
  exact Nat.le_mul_of_pos_left _ (Int.natAbs_pos.mpr hi)
theorem ra_zero : Ra 0 1 (0 : UInt64) := ⟨⟨_, _, _, val64_zero⟩, by rw [show zv 0 = 0 from zval64_zero, Int.zero_mul, Int.zero_mul]⟩
theorem ra_one : Ra 1 1 (4607182418800017408 : UInt64) := Ra.lit (s := false) (c := 4503599627370496) (q := -52) (k := 0) (n := 52) (by decide +kernel) rfl (by decide) (by decide) (by decide)
theorem ra_two : Ra 2 1 (4611686018427387904 : UInt64) := Ra.lit (s := false) (c := 4503599627370496) (q := -51) (k := 0) (n := 51) (by decide +kernel) rfl (by decide) (by decide) (by decide)
end Jvm.OwnFP
namespace Jvm.Pilot.@@N@@
open Jvm Jvm.ClassFile Sem Op Lib Jvm.Free Jvm.Stand Jvm.LawKit Jvm.RoadKit Bundle Jvm.Pilot.@@N@@.Jvm.D
theorem d1_0 : decode method_3_code 0 = .ok (.iload_n 0, 1) := by decide +kernel
theorem d1_1 : decode method_3_code 1 = .ok (.ifCond .ne 5, 3) := by decide +kernel
theorem d1_4 : decode method_3_code 4 = .ok (.dconst 1, 1) := by decide +kernel
theorem d1_5 : decode method_3_code 5 = .ok (.dreturn, 1) := by decide +kernel
theorem pn_com_example_leeway_leeway_lp_BasisInverseSolveTransposedPinLaw : plainName "com/example/leeway/leeway/lp/BasisInverseSolveTransposedPinLaw" = true := by first | (simp [plainName, overriddenIn]; done) | decide +kernel
theorem ef_1_I (m : MethodId) (x0 : Int32) : entryFrame m #[(.int x0)] 1 = mkF m 0 #[.val (.int x0)] [] := by first | (simp [entryFrame, mkF, argsToLocals, Value.category]; done) | rfl
def Q_pv0 (Z : State) (i : Int32) (h0 : Heap) (n0 : Nat) (v : Option Value) (h : Heap) (L : List Loc) : Prop := v = some (.double (4607182418800017408 : UInt64)) ∧ Fr n0 L ∧ h = h0
set_option maxRecDepth 65536 in
set_option maxHeartbeats 40000000 in
theorem pv0 (l : Launch) (Z : State) (a0 : Array Value) (hw : ∀ d ∈ tables_1, d.before a0 Z = true) (ws : List Jvm.Cond) (i : Int32) (h0 : Heap) (n0 : Nat) (Z0 : n0 ≤ h0.size) (hc1 : i = (0 : Int32)) :
    MetFree l (⟨"com/example/leeway/leeway/lp/BasisInverseSolveTransposedPinLaw", "pivot", "(I)D"⟩ : MethodName) (head1 (Jvm.Cond.code (⟨"com/example/leeway/leeway/lp/BasisInverseSolveTransposedPinLaw", "pivot", "(I)D"⟩ : MethodName) method_3_code 1 (some .double) :: ws) ({ frames := 0, cells := 0, slots := 0, locals := 0 } : Room)) (fun a U => a = #[(.int i)] ∧ Z.Warmed39 U.vm ∧ U.heap = h0) (fun _ _ _ _ _ => True) (fun _ U o U' => ∃ v L, o = .returned v ∧ Q_pv0 Z i h0 n0 v U'.heap L ∧ FrameEnd U o U' L ({ frames := 0, cells := 0, slots := 0, locals := 0 } : Room).cells ({ frames := 0, cells := 0, slots := 0, locals := 0 } : Room).slots) := by
  refine MetFree.of_bodySF (plainFor_of_name pn_com_example_leeway_leeway_lp_BasisInverseSolveTransposedPinLaw) hisR ?_
  intro p e s m args below meth c s₁ Bd hml0 hP hK
  obtain ⟨rfl, hZ, hh⟩ := hP
  have hx := Bd.exec
  have hby := Bd.bytes
  have hml : c.maxLocals = 1 := hml0
  have hown : s.vm.findClass "com/example/leeway/leeway/lp/BasisInverseSolveTransposedPinLaw" = some m.cls := findClass_of_methodNamed Bd.named
  have hnm := (name_of_methodNamed Bd.named Bd.method).1
  have X0 : Stand p l e ({ frames := 0, cells := 0, slots := 0, locals := 0 } : Room) s m #[(.int i)] below meth c s₁ [] 0 0 := Stand.of_body Bd
  have e0 : s₁.heap = h0 := by rw [← hh, Bd.state]; rfl
  have N0 := Fr.nil n0
  have pre0 : ∀ t, Steps p.tables e below (s₁.setTop (mkF m 0 #[.val (.int i)] [])) t → Steps p.tables e below (s₁.setTop (entryFrame m #[(.int i)] 1)) t := fun t k => castTop (ef_1_I m i) k
  obtain ⟨fs, hr, hrun, hended, hW, hsame⟩ := X0.leave (v := some (.double (4607182418800017408 : UInt64))) (fun h => by rw [Bd.returns] at h; cases h)
  refine ⟨_, _, pre0 _ ?_, hrun, hended, _, _, rfl, ?_, ⟨_, rfl⟩, hW, hsame.mono (by decide) (by decide)⟩
  · show Steps p.tables e below (s₁.setTop (mkF m 0 #[.val (.int i)] [])) _
    refine XS.iloadN X0.here hx rfl (hb hby d1_0) rfl ?_
    refine XS.ifNo X0.here hx rfl (hb hby d1_1) rfl ((if0 _ _).trans (teq hc1).2) ?_
    refine XS.dconst1 X0.here hx rfl (hb hby d1_4) (v := (4607182418800017408 : UInt64)) rfl ?_
    exact retOut X0 hx Bd.returns rfl (Or.inr (Or.inr (Or.inl ⟨rfl, rfl, _, rfl⟩))) (hb hby d1_5) hr
  · show Q_pv0 Z i h0 n0 _ s₁.heap _
    rw [e0]
    exact ⟨rfl, N0, rfl⟩
theorem d1_6 : decode method_3_code 6 = .ok (.iload_n 0, 1) := by decide +kernel
theorem d1_7 : decode method_3_code 7 = .ok (.iconst 1, 1) := by decide +kernel
theorem d1_8 : decode method_3_code 8 = .ok (.if_icmp .ne 7, 3) := by decide +kernel
theorem d1_11 : decode method_3_code 11 = .ok (.ldc2_w 28, 3) := by decide +kernel
theorem d1_14 : decode method_3_code 14 = .ok (.dreturn, 1) := by decide +kernel
def Q_pv1 (Z : State) (i : Int32) (h0 : Heap) (n0 : Nat) (v : Option Value) (h : Heap) (L : List Loc) : Prop := v = some (.double (13830554455654793216 : UInt64)) ∧ Fr n0 L ∧ h = h0
set_option maxRecDepth 65536 in
set_option maxHeartbeats 40000000 in
theorem pv1 (l : Launch) (Z : State) (a0 : Array Value) (hw : ∀ d ∈ tables_1, d.before a0 Z = true) (ws : List Jvm.Cond) (i : Int32) (h0 : Heap) (n0 : Nat) (Z0 : n0 ≤ h0.size) (hc1 : ¬ (i = (0 : Int32))) (hc8 : i = (1 : Int32)) :
    MetFree l (⟨"com/example/leeway/leeway/lp/BasisInverseSolveTransposedPinLaw", "pivot", "(I)D"⟩ : MethodName) (head1 (Jvm.Cond.code (⟨"com/example/leeway/leeway/lp/BasisInverseSolveTransposedPinLaw", "pivot", "(I)D"⟩ : MethodName) method_3_code 1 (some .double) :: ws) ({ frames := 0, cells := 0, slots := 0, locals := 0 } : Room)) (fun a U => a = #[(.int i)] ∧ Z.Warmed39 U.vm ∧ U.heap = h0) (fun _ _ _ _ _ => True) (fun _ U o U' => ∃ v L, o = .returned v ∧ Q_pv1 Z i h0 n0 v U'.heap L ∧ FrameEnd U o U' L ({ frames := 0, cells := 0, slots := 0, locals := 0 } : Room).cells ({ frames := 0, cells := 0, slots := 0, locals := 0 } : Room).slots) := by
  refine MetFree.of_bodySF (plainFor_of_name pn_com_example_leeway_leeway_lp_BasisInverseSolveTransposedPinLaw) hisR ?_
  intro p e s m args below meth c s₁ Bd hml0 hP hK
  obtain ⟨rfl, hZ, hh⟩ := hP
  have hx := Bd.exec
  have hby := Bd.bytes
  have hml : c.maxLocals = 1 := hml0
  have hown : s.vm.findClass "com/example/leeway/leeway/lp/BasisInverseSolveTransposedPinLaw" = some m.cls := findClass_of_methodNamed Bd.named
  have hnm := (name_of_methodNamed Bd.named Bd.method).1
  have X0 : Stand p l e ({ frames := 0, cells := 0, slots := 0, locals := 0 } : Room) s m #[(.int i)] below meth c s₁ [] 0 0 := Stand.of_body Bd
  have e0 : s₁.heap = h0 := by rw [← hh, Bd.state]; rfl
  have N0 := Fr.nil n0
  have pre0 : ∀ t, Steps p.tables e below (s₁.setTop (mkF m 0 #[.val (.int i)] [])) t → Steps p.tables e below (s₁.setTop (entryFrame m #[(.int i)] 1)) t := fun t k => castTop (ef_1_I m i) k
  obtain ⟨fs, hr, hrun, hended, hW, hsame⟩ := X0.leave (v := some (.double (13830554455654793216 : UInt64))) (fun h => by rw [Bd.returns] at h; cases h)
  refine ⟨_, _, pre0 _ ?_, hrun, hended, _, _, rfl, ?_, ⟨_, rfl⟩, hW, hsame.mono (by decide) (by decide)⟩
  · show Steps p.tables e below (s₁.setTop (mkF m 0 #[.val (.int i)] [])) _
    refine XS.iloadN X0.here hx rfl (hb hby d1_0) rfl ?_
    refine XS.ifYes X0.here hx rfl (pc0 := 1) (pc' := 6) rfl (hb hby d1_1) rfl ((if0 _ _).trans (feq hc1).2) (by decide) (by decide) ?_
    refine XS.iloadN X0.here hx rfl (hb hby d1_6) rfl ?_
    refine XS.iconst X0.here hx rfl (hb hby d1_7) ?_
    refine XS.icmpNo X0.here hx rfl (hb hby d1_8) rfl (teq hc8).2 ?_
    show Steps p.tables e below (s₁.setTop (mkF m 11 #[.val (.int i)] [])) _
    refine X0.ldc2DoubleC hx hown (mvT hZ (hw _ (List.mem_of_getElem? (i := 35) rfl))) (g := (mkF m 11 #[.val (.int i)] [])) rfl (hb hby d1_11) _ ?_
    show Steps p.tables e below (s₁.setTop (mkF m 14 #[.val (.int i)] [(.double (13830554455654793216 : UInt64))])) _
    exact retOut X0 hx Bd.returns rfl (Or.inr (Or.inr (Or.inl ⟨rfl, rfl, _, rfl⟩))) (hb hby d1_14) hr
  · show Q_pv1 Z i h0 n0 _ s₁.heap _
    rw [e0]
    exact ⟨rfl, N0, rfl⟩
theorem d1_15 : decode method_3_code 15 = .ok (.iload_n 0, 1) := by decide +kernel
theorem d1_16 : decode method_3_code 16 = .ok (.iconst 2, 1) := by decide +kernel
theorem d1_17 : decode method_3_code 17 = .ok (.if_icmp .ne 7, 3) := by decide +kernel
theorem d1_20 : decode method_3_code 20 = .ok (.ldc2_w 30, 3) := by decide +kernel
theorem d1_23 : decode method_3_code 23 = .ok (.dreturn, 1) := by decide +kernel
def Q_pv2 (Z : State) (i : Int32) (h0 : Heap) (n0 : Nat) (v : Option Value) (h : Heap) (L : List Loc) : Prop := v = some (.double (4611686018427387904 : UInt64)) ∧ Fr n0 L ∧ h = h0
set_option maxRecDepth 65536 in
set_option maxHeartbeats 40000000 in
theorem pv2 (l : Launch) (Z : State) (a0 : Array Value) (hw : ∀ d ∈ tables_1, d.before a0 Z = true) (ws : List Jvm.Cond) (i : Int32) (h0 : Heap) (n0 : Nat) (Z0 : n0 ≤ h0.size) (hc1 : ¬ (i = (0 : Int32))) (hc8 : ¬ (i = (1 : Int32))) (hc17 : i = (2 : Int32)) :
    MetFree l (⟨"com/example/leeway/leeway/lp/BasisInverseSolveTransposedPinLaw", "pivot", "(I)D"⟩ : MethodName) (head1 (Jvm.Cond.code (⟨"com/example/leeway/leeway/lp/BasisInverseSolveTransposedPinLaw", "pivot", "(I)D"⟩ : MethodName) method_3_code 1 (some .double) :: ws) ({ frames := 0, cells := 0, slots := 0, locals := 0 } : Room)) (fun a U => a = #[(.int i)] ∧ Z.Warmed39 U.vm ∧ U.heap = h0) (fun _ _ _ _ _ => True) (fun _ U o U' => ∃ v L, o = .returned v ∧ Q_pv2 Z i h0 n0 v U'.heap L ∧ FrameEnd U o U' L ({ frames := 0, cells := 0, slots := 0, locals := 0 } : Room).cells ({ frames := 0, cells := 0, slots := 0, locals := 0 } : Room).slots) := by
  refine MetFree.of_bodySF (plainFor_of_name pn_com_example_leeway_leeway_lp_BasisInverseSolveTransposedPinLaw) hisR ?_
  intro p e s m args below meth c s₁ Bd hml0 hP hK
  obtain ⟨rfl, hZ, hh⟩ := hP
  have hx := Bd.exec
  have hby := Bd.bytes
  have hml : c.maxLocals = 1 := hml0
  have hown : s.vm.findClass "com/example/leeway/leeway/lp/BasisInverseSolveTransposedPinLaw" = some m.cls := findClass_of_methodNamed Bd.named
  have hnm := (name_of_methodNamed Bd.named Bd.method).1
  have X0 : Stand p l e ({ frames := 0, cells := 0, slots := 0, locals := 0 } : Room) s m #[(.int i)] below meth c s₁ [] 0 0 := Stand.of_body Bd
  have e0 : s₁.heap = h0 := by rw [← hh, Bd.state]; rfl
  have N0 := Fr.nil n0
  have pre0 : ∀ t, Steps p.tables e below (s₁.setTop (mkF m 0 #[.val (.int i)] [])) t → Steps p.tables e below (s₁.setTop (entryFrame m #[(.int i)] 1)) t := fun t k => castTop (ef_1_I m i) k
  obtain ⟨fs, hr, hrun, hended, hW, hsame⟩ := X0.leave (v := some (.double (4611686018427387904 : UInt64))) (fun h => by rw [Bd.returns] at h; cases h)
  refine ⟨_, _, pre0 _ ?_, hrun, hended, _, _, rfl, ?_, ⟨_, rfl⟩, hW, hsame.mono (by decide) (by decide)⟩
  · show Steps p.tables e below (s₁.setTop (mkF m 0 #[.val (.int i)] [])) _
    refine XS.iloadN X0.here hx rfl (hb hby d1_0) rfl ?_
    refine XS.ifYes X0.here hx rfl (pc0 := 1) (pc' := 6) rfl (hb hby d1_1) rfl ((if0 _ _).trans (feq hc1).2) (by decide) (by decide) ?_
    refine XS.iloadN X0.here hx rfl (hb hby d1_6) rfl ?_
    refine XS.iconst X0.here hx rfl (hb hby d1_7) ?_
    refine XS.icmpYes X0.here hx rfl (pc0 := 8) (pc' := 15) rfl (hb hby d1_8) rfl (feq hc8).2 (by decide) (by decide) ?_
    show Steps p.tables e below (s₁.setTop (mkF m 15 #[.val (.int i)] [])) _
    refine XS.iloadN X0.here hx rfl (hb hby d1_15) rfl ?_
    refine XS.iconst X0.here hx rfl (hb hby d1_16) ?_
    refine XS.icmpNo X0.here hx rfl (hb hby d1_17) rfl (teq hc17).2 ?_
    refine X0.ldc2DoubleC hx hown (mvT hZ (hw _ (List.mem_of_getElem? (i := 49) rfl))) (g := (mkF m 20 #[.val (.int i)] [])) rfl (hb hby d1_20) _ ?_
    show Steps p.tables e below (s₁.setTop (mkF m 23 #[.val (.int i)] [(.double (4611686018427387904 : UInt64))])) _
    exact retOut X0 hx Bd.returns rfl (Or.inr (Or.inr (Or.inl ⟨rfl, rfl, _, rfl⟩))) (hb hby d1_23) hr
  · show Q_pv2 Z i h0 n0 _ s₁.heap _
    rw [e0]
    exact ⟨rfl, N0, rfl⟩
theorem d1_24 : decode method_3_code 24 = .ok (.ldc2_w 32, 3) := by decide +kernel
theorem d1_27 : decode method_3_code 27 = .ok (.dreturn, 1) := by decide +kernel
def Q_pv3 (Z : State) (i : Int32) (h0 : Heap) (n0 : Nat) (v : Option Value) (h : Heap) (L : List Loc) : Prop := v = some (.double (13835058055282163712 : UInt64)) ∧ Fr n0 L ∧ h = h0
set_option maxRecDepth 65536 in
set_option maxHeartbeats 40000000 in
theorem pv3 (l : Launch) (Z : State) (a0 : Array Value) (hw : ∀ d ∈ tables_1, d.before a0 Z = true) (ws : List Jvm.Cond) (i : Int32) (h0 : Heap) (n0 : Nat) (Z0 : n0 ≤ h0.size) (hc1 : ¬ (i = (0 : Int32))) (hc8 : ¬ (i = (1 : Int32))) (hc17 : ¬ (i = (2 : Int32))) :
    MetFree l (⟨"com/example/leeway/leeway/lp/BasisInverseSolveTransposedPinLaw", "pivot", "(I)D"⟩ : MethodName) (head1 (Jvm.Cond.code (⟨"com/example/leeway/leeway/lp/BasisInverseSolveTransposedPinLaw", "pivot", "(I)D"⟩ : MethodName) method_3_code 1 (some .double) :: ws) ({ frames := 0, cells := 0, slots := 0, locals := 0 } : Room)) (fun a U => a = #[(.int i)] ∧ Z.Warmed39 U.vm ∧ U.heap = h0) (fun _ _ _ _ _ => True) (fun _ U o U' => ∃ v L, o = .returned v ∧ Q_pv3 Z i h0 n0 v U'.heap L ∧ FrameEnd U o U' L ({ frames := 0, cells := 0, slots := 0, locals := 0 } : Room).cells ({ frames := 0, cells := 0, slots := 0, locals := 0 } : Room).slots) := by
  refine MetFree.of_bodySF (plainFor_of_name pn_com_example_leeway_leeway_lp_BasisInverseSolveTransposedPinLaw) hisR ?_
  intro p e s m args below meth c s₁ Bd hml0 hP hK
  obtain ⟨rfl, hZ, hh⟩ := hP
  have hx := Bd.exec
  have hby := Bd.bytes
  have hml : c.maxLocals = 1 := hml0
  have hown : s.vm.findClass "com/example/leeway/leeway/lp/BasisInverseSolveTransposedPinLaw" = some m.cls := findClass_of_methodNamed Bd.named
  have hnm := (name_of_methodNamed Bd.named Bd.method).1
  have X0 : Stand p l e ({ frames := 0, cells := 0, slots := 0, locals := 0 } : Room) s m #[(.int i)] below meth c s₁ [] 0 0 := Stand.of_body Bd
  have e0 : s₁.heap = h0 := by rw [← hh, Bd.state]; rfl
  have N0 := Fr.nil n0
  have pre0 : ∀ t, Steps p.tables e below (s₁.setTop (mkF m 0 #[.val (.int i)] [])) t → Steps p.tables e below (s₁.setTop (entryFrame m #[(.int i)] 1)) t := fun t k => castTop (ef_1_I m i) k
  obtain ⟨fs, hr, hrun, hended, hW, hsame⟩ := X0.leave (v := some (.double (13835058055282163712 : UInt64))) (fun h => by rw [Bd.returns] at h; cases h)
  refine ⟨_, _, pre0 _ ?_, hrun, hended, _, _, rfl, ?_, ⟨_, rfl⟩, hW, hsame.mono (by decide) (by decide)⟩
  · show Steps p.tables e below (s₁.setTop (mkF m 0 #[.val (.int i)] [])) _
    refine XS.iloadN X0.here hx rfl (hb hby d1_0) rfl ?_
    refine XS.ifYes X0.here hx rfl (pc0 := 1) (pc' := 6) rfl (hb hby d1_1) rfl ((if0 _ _).trans (feq hc1).2) (by decide) (by decide) ?_
    refine XS.iloadN X0.here hx rfl (hb hby d1_6) rfl ?_
    refine XS.iconst X0.here hx rfl (hb hby d1_7) ?_
    refine XS.icmpYes X0.here hx rfl (pc0 := 8) (pc' := 15) rfl (hb hby d1_8) rfl (feq hc8).2 (by decide) (by decide) ?_
    show Steps p.tables e below (s₁.setTop (mkF m 15 #[.val (.int i)] [])) _
    refine XS.iloadN X0.here hx rfl (hb hby d1_15) rfl ?_
    refine XS.iconst X0.here hx rfl (hb hby d1_16) ?_
    refine XS.icmpYes X0.here hx rfl (pc0 := 17) (pc' := 24) rfl (hb hby d1_17) rfl (feq hc17).2 (by decide) (by decide) ?_
    refine X0.ldc2DoubleC hx hown (mvT hZ (hw _ (List.mem_of_getElem? (i := 50) rfl))) (g := (mkF m 24 #[.val (.int i)] [])) rfl (hb hby d1_24) _ ?_
    show Steps p.tables e below (s₁.setTop (mkF m 27 #[.val (.int i)] [(.double (13835058055282163712 : UInt64))])) _
    exact retOut X0 hx Bd.returns rfl (Or.inr (Or.inr (Or.inl ⟨rfl, rfl, _, rfl⟩))) (hb hby d1_27) hr
  · show Q_pv3 Z i h0 n0 _ s₁.heap _
    rw [e0]
    exact ⟨rfl, N0, rfl⟩
def Q_piv (Z : State) (i : Int32) (pw : UInt64) (h0 : Heap) (n0 : Nat) (v : Option Value) (h : Heap) (L : List Loc) : Prop := v = some (.double pw) ∧ Fr n0 L ∧ h = h0
def own_pv (i : Int32) : UInt64 := if i = 0 then (4607182418800017408 : UInt64) else if i = 1 then (13830554455654793216 : UInt64) else if i = 2 then (4611686018427387904 : UInt64) else (13835058055282163712 : UInt64)
theorem piv (l : Launch) (Z : State) (a0 : Array Value) (hw : ∀ d ∈ tables_1, d.before a0 Z = true) (ws : List Jvm.Cond) (i : Int32) (pw : UInt64) (h0 : Heap) (n0 : Nat) (Z0 : n0 ≤ h0.size) (hpw : own_pv i = pw) :
    MetFree l (⟨"com/example/leeway/leeway/lp/BasisInverseSolveTransposedPinLaw", "pivot", "(I)D"⟩ : MethodName) (head1 (Jvm.Cond.code (⟨"com/example/leeway/leeway/lp/BasisInverseSolveTransposedPinLaw", "pivot", "(I)D"⟩ : MethodName) method_3_code 1 (some .double) :: ws) ({ frames := 0, cells := 0, slots := 0, locals := 0 } : Room)) (fun a U => a = #[(.int i)] ∧ Z.Warmed39 U.vm ∧ U.heap = h0) (fun _ _ _ _ _ => True) (fun _ U o U' => ∃ v L, o = .returned v ∧ Q_piv Z i pw h0 n0 v U'.heap L ∧ FrameEnd U o U' L ({ frames := 0, cells := 0, slots := 0, locals := 0 } : Room).cells ({ frames := 0, cells := 0, slots := 0, locals := 0 } : Room).slots) := by
  unfold own_pv at hpw
  by_cases q0 : i = 0
  · rw [if_pos q0] at hpw; subst hpw; exact pv0 l Z a0 hw ws i h0 n0 Z0 (hc1 := q0)
  rw [if_neg q0] at hpw
  by_cases q1 : i = 1
  · rw [if_pos q1] at hpw; subst hpw; exact pv1 l Z a0 hw ws i h0 n0 Z0 (hc1 := q0) (hc8 := q1)
  rw [if_neg q1] at hpw
  by_cases q2 : i = 2
  · rw [if_pos q2] at hpw; subst hpw; exact pv2 l Z a0 hw ws i h0 n0 Z0 (hc1 := q0) (hc8 := q1) (hc17 := q2)
  rw [if_neg q2] at hpw; subst hpw; exact pv3 l Z a0 hw ws i h0 n0 Z0 (hc1 := q0) (hc8 := q1) (hc17 := q2)
theorem d2_0 : decode prog_85_method_1_code 0 = .ok (.aload_n 0, 1) := by decide +kernel
theorem d2_1 : decode prog_85_method_1_code 1 = .ok (.invokespecial 1, 3) := by decide +kernel
theorem d2_4 : decode prog_85_method_1_code 4 = .ok (.aload_n 0, 1) := by decide +kernel
theorem d2_5 : decode prog_85_method_1_code 5 = .ok (.bipush 16, 2) := by decide +kernel
theorem d2_7 : decode prog_85_method_1_code 7 = .ok (.newarray .int, 2) := by decide +kernel
theorem d2_9 : decode prog_85_method_1_code 9 = .ok (.putfield 7, 3) := by decide +kernel
theorem so_BasisInverse_pivots_pivotRows {Z : State} {a0 : Array Value} (hw : ∀ d ∈ tables_1, d.before a0 Z = true) : Jvm.RoadKit.slotOf Z "com/example/leeway/leeway/lp/BasisInverse" "pivots" "[D" ≠ Jvm.RoadKit.slotOf Z "com/example/leeway/leeway/lp/BasisInverse" "pivotRows" "[I" := slot_ne (Or.inl (hw _ (List.mem_of_getElem? (i := 18) rfl))) (Or.inl (hw _ (List.mem_of_getElem? (i := 16) rfl))) (by decide) (t := (.array .double)) (t' := (.array .int)) (by decide) (by decide)
theorem so_BasisInverse_termStart_pivotRows {Z : State} {a0 : Array Value} (hw : ∀ d ∈ tables_1, d.before a0 Z = true) : Jvm.RoadKit.slotOf Z "com/example/leeway/leeway/lp/BasisInverse" "termStart" "[I" ≠ Jvm.RoadKit.slotOf Z "com/example/leeway/leeway/lp/BasisInverse" "pivotRows" "[I" := slot_ne (Or.inl (hw _ (List.mem_of_getElem? (i := 20) rfl))) (Or.inl (hw _ (List.mem_of_getElem? (i := 16) rfl))) (by decide) (t := (.array .int)) (t' := (.array .int)) (by decide) (by decide)
theorem so_BasisInverse_termRows_pivotRows {Z : State} {a0 : Array Value} (hw : ∀ d ∈ tables_1, d.before a0 Z = true) : Jvm.RoadKit.slotOf Z "com/example/leeway/leeway/lp/BasisInverse" "termRows" "[I" ≠ Jvm.RoadKit.slotOf Z "com/example/leeway/leeway/lp/BasisInverse" "pivotRows" "[I" := slot_ne (Or.inl (hw _ (List.mem_of_getElem? (i := 22) rfl))) (Or.inl (hw _ (List.mem_of_getElem? (i := 16) rfl))) (by decide) (t := (.array .int)) (t' := (.array .int)) (by decide) (by decide)
theorem so_BasisInverse_termValues_pivotRows {Z : State} {a0 : Array Value} (hw : ∀ d ∈ tables_1, d.before a0 Z = true) : Jvm.RoadKit.slotOf Z "com/example/leeway/leeway/lp/BasisInverse" "termValues" "[D" ≠ Jvm.RoadKit.slotOf Z "com/example/leeway/leeway/lp/BasisInverse" "pivotRows" "[I" := slot_ne (Or.inl (hw _ (List.mem_of_getElem? (i := 24) rfl))) (Or.inl (hw _ (List.mem_of_getElem? (i := 16) rfl))) (by decide) (t := (.array .double)) (t' := (.array .int)) (by decide) (by decide)
theorem so_BasisInverse_count_pivotRows {Z : State} {a0 : Array Value} (hw : ∀ d ∈ tables_1, d.before a0 Z = true) : Jvm.RoadKit.slotOf Z "com/example/leeway/leeway/lp/BasisInverse" "count" "I" ≠ Jvm.RoadKit.slotOf Z "com/example/leeway/leeway/lp/BasisInverse" "pivotRows" "[I" := slot_ne (Or.inl (hw _ (List.mem_of_getElem? (i := 31) rfl))) (Or.inl (hw _ (List.mem_of_getElem? (i := 16) rfl))) (by decide) (t := .int) (t' := (.array .int)) (by decide) (by decide)
theorem d2_12 : decode prog_85_method_1_code 12 = .ok (.aload_n 0, 1) := by decide +kernel
theorem d2_13 : decode prog_85_method_1_code 13 = .ok (.bipush 16, 2) := by decide +kernel
theorem d2_15 : decode prog_85_method_1_code 15 = .ok (.newarray .double, 2) := by decide +kernel
theorem d2_17 : decode prog_85_method_1_code 17 = .ok (.putfield 13, 3) := by decide +kernel
theorem so_BasisInverse_pivotRows_pivots {Z : State} {a0 : Array Value} (hw : ∀ d ∈ tables_1, d.before a0 Z = true) : Jvm.RoadKit.slotOf Z "com/example/leeway/leeway/lp/BasisInverse" "pivotRows" "[I" ≠ Jvm.RoadKit.slotOf Z "com/example/leeway/leeway/lp/BasisInverse" "pivots" "[D" := slot_ne (Or.inl (hw _ (List.mem_of_getElem? (i := 16) rfl))) (Or.inl (hw _ (List.mem_of_getElem? (i := 18) rfl))) (by decide) (t := (.array .int)) (t' := (.array .double)) (by decide) (by decide)
theorem so_BasisInverse_termStart_pivots {Z : State} {a0 : Array Value} (hw : ∀ d ∈ tables_1, d.before a0 Z = true) : Jvm.RoadKit.slotOf Z "com/example/leeway/leeway/lp/BasisInverse" "termStart" "[I" ≠ Jvm.RoadKit.slotOf Z "com/example/leeway/leeway/lp/BasisInverse" "pivots" "[D" := slot_ne (Or.inl (hw _ (List.mem_of_getElem? (i := 20) rfl))) (Or.inl (hw _ (List.mem_of_getElem? (i := 18) rfl))) (by decide) (t := (.array .int)) (t' := (.array .double)) (by decide) (by decide)
theorem so_BasisInverse_termRows_pivots {Z : State} {a0 : Array Value} (hw : ∀ d ∈ tables_1, d.before a0 Z = true) : Jvm.RoadKit.slotOf Z "com/example/leeway/leeway/lp/BasisInverse" "termRows" "[I" ≠ Jvm.RoadKit.slotOf Z "com/example/leeway/leeway/lp/BasisInverse" "pivots" "[D" := slot_ne (Or.inl (hw _ (List.mem_of_getElem? (i := 22) rfl))) (Or.inl (hw _ (List.mem_of_getElem? (i := 18) rfl))) (by decide) (t := (.array .int)) (t' := (.array .double)) (by decide) (by decide)
theorem so_BasisInverse_termValues_pivots {Z : State} {a0 : Array Value} (hw : ∀ d ∈ tables_1, d.before a0 Z = true) : Jvm.RoadKit.slotOf Z "com/example/leeway/leeway/lp/BasisInverse" "termValues" "[D" ≠ Jvm.RoadKit.slotOf Z "com/example/leeway/leeway/lp/BasisInverse" "pivots" "[D" := slot_ne (Or.inl (hw _ (List.mem_of_getElem? (i := 24) rfl))) (Or.inl (hw _ (List.mem_of_getElem? (i := 18) rfl))) (by decide) (t := (.array .double)) (t' := (.array .double)) (by decide) (by decide)
theorem so_BasisInverse_count_pivots {Z : State} {a0 : Array Value} (hw : ∀ d ∈ tables_1, d.before a0 Z = true) : Jvm.RoadKit.slotOf Z "com/example/leeway/leeway/lp/BasisInverse" "count" "I" ≠ Jvm.RoadKit.slotOf Z "com/example/leeway/leeway/lp/BasisInverse" "pivots" "[D" := slot_ne (Or.inl (hw _ (List.mem_of_getElem? (i := 31) rfl))) (Or.inl (hw _ (List.mem_of_getElem? (i := 18) rfl))) (by decide) (t := .int) (t' := (.array .double)) (by decide) (by decide)
theorem d2_20 : decode prog_85_method_1_code 20 = .ok (.aload_n 0, 1) := by decide +kernel
theorem d2_21 : decode prog_85_method_1_code 21 = .ok (.bipush 17, 2) := by decide +kernel
theorem d2_23 : decode prog_85_method_1_code 23 = .ok (.newarray .int, 2) := by decide +kernel
theorem d2_25 : decode prog_85_method_1_code 25 = .ok (.putfield 17, 3) := by decide +kernel
theorem so_BasisInverse_pivotRows_termStart {Z : State} {a0 : Array Value} (hw : ∀ d ∈ tables_1, d.before a0 Z = true) : Jvm.RoadKit.slotOf Z "com/example/leeway/leeway/lp/BasisInverse" "pivotRows" "[I" ≠ Jvm.RoadKit.slotOf Z "com/example/leeway/leeway/lp/BasisInverse" "termStart" "[I" := slot_ne (Or.inl (hw _ (List.mem_of_getElem? (i := 16) rfl))) (Or.inl (hw _ (List.mem_of_getElem? (i := 20) rfl))) (by decide) (t := (.array .int)) (t' := (.array .int)) (by decide) (by decide)
theorem so_BasisInverse_pivots_termStart {Z : State} {a0 : Array Value} (hw : ∀ d ∈ tables_1, d.before a0 Z = true) : Jvm.RoadKit.slotOf Z "com/example/leeway/leeway/lp/BasisInverse" "pivots" "[D" ≠ Jvm.RoadKit.slotOf Z "com/example/leeway/leeway/lp/BasisInverse" "termStart" "[I" := slot_ne (Or.inl (hw _ (List.mem_of_getElem? (i := 18) rfl))) (Or.inl (hw _ (List.mem_of_getElem? (i := 20) rfl))) (by decide) (t := (.array .double)) (t' := (.array .int)) (by decide) (by decide)
theorem so_BasisInverse_termRows_termStart {Z : State} {a0 : Array Value} (hw : ∀ d ∈ tables_1, d.before a0 Z = true) : Jvm.RoadKit.slotOf Z "com/example/leeway/leeway/lp/BasisInverse" "termRows" "[I" ≠ Jvm.RoadKit.slotOf Z "com/example/leeway/leeway/lp/BasisInverse" "termStart" "[I" := slot_ne (Or.inl (hw _ (List.mem_of_getElem? (i := 22) rfl))) (Or.inl (hw _ (List.mem_of_getElem? (i := 20) rfl))) (by decide) (t := (.array .int)) (t' := (.array .int)) (by decide) (by decide)
theorem so_BasisInverse_termValues_termStart {Z : State} {a0 : Array Value} (hw : ∀ d ∈ tables_1, d.before a0 Z = true) : Jvm.RoadKit.slotOf Z "com/example/leeway/leeway/lp/BasisInverse" "termValues" "[D" ≠ Jvm.RoadKit.slotOf Z "com/example/leeway/leeway/lp/BasisInverse" "termStart" "[I" := slot_ne (Or.inl (hw _ (List.mem_of_getElem? (i := 24) rfl))) (Or.inl (hw _ (List.mem_of_getElem? (i := 20) rfl))) (by decide) (t := (.array .double)) (t' := (.array .int)) (by decide) (by decide)
theorem so_BasisInverse_count_termStart {Z : State} {a0 : Array Value} (hw : ∀ d ∈ tables_1, d.before a0 Z = true) : Jvm.RoadKit.slotOf Z "com/example/leeway/leeway/lp/BasisInverse" "count" "I" ≠ Jvm.RoadKit.slotOf Z "com/example/leeway/leeway/lp/BasisInverse" "termStart" "[I" := slot_ne (Or.inl (hw _ (List.mem_of_getElem? (i := 31) rfl))) (Or.inl (hw _ (List.mem_of_getElem? (i := 20) rfl))) (by decide) (t := .int) (t' := (.array .int)) (by decide) (by decide)
theorem d2_28 : decode prog_85_method_1_code 28 = .ok (.aload_n 0, 1) := by decide +kernel
theorem d2_29 : decode prog_85_method_1_code 29 = .ok (.bipush 64, 2) := by decide +kernel
theorem d2_31 : decode prog_85_method_1_code 31 = .ok (.newarray .int, 2) := by decide +kernel
theorem d2_33 : decode prog_85_method_1_code 33 = .ok (.putfield 20, 3) := by decide +kernel
theorem so_BasisInverse_pivotRows_termRows {Z : State} {a0 : Array Value} (hw : ∀ d ∈ tables_1, d.before a0 Z = true) : Jvm.RoadKit.slotOf Z "com/example/leeway/leeway/lp/BasisInverse" "pivotRows" "[I" ≠ Jvm.RoadKit.slotOf Z "com/example/leeway/leeway/lp/BasisInverse" "termRows" "[I" := slot_ne (Or.inl (hw _ (List.mem_of_getElem? (i := 16) rfl))) (Or.inl (hw _ (List.mem_of_getElem? (i := 22) rfl))) (by decide) (t := (.array .int)) (t' := (.array .int)) (by decide) (by decide)
theorem so_BasisInverse_pivots_termRows {Z : State} {a0 : Array Value} (hw : ∀ d ∈ tables_1, d.before a0 Z = true) : Jvm.RoadKit.slotOf Z "com/example/leeway/leeway/lp/BasisInverse" "pivots" "[D" ≠ Jvm.RoadKit.slotOf Z "com/example/leeway/leeway/lp/BasisInverse" "termRows" "[I" := slot_ne (Or.inl (hw _ (List.mem_of_getElem? (i := 18) rfl))) (Or.inl (hw _ (List.mem_of_getElem? (i := 22) rfl))) (by decide) (t := (.array .double)) (t' := (.array .int)) (by decide) (by decide)
theorem so_BasisInverse_termStart_termRows {Z : State} {a0 : Array Value} (hw : ∀ d ∈ tables_1, d.before a0 Z = true) : Jvm.RoadKit.slotOf Z "com/example/leeway/leeway/lp/BasisInverse" "termStart" "[I" ≠ Jvm.RoadKit.slotOf Z "com/example/leeway/leeway/lp/BasisInverse" "termRows" "[I" := slot_ne (Or.inl (hw _ (List.mem_of_getElem? (i := 20) rfl))) (Or.inl (hw _ (List.mem_of_getElem? (i := 22) rfl))) (by decide) (t := (.array .int)) (t' := (.array .int)) (by decide) (by decide)
theorem so_BasisInverse_termValues_termRows {Z : State} {a0 : Array Value} (hw : ∀ d ∈ tables_1, d.before a0 Z = true) : Jvm.RoadKit.slotOf Z "com/example/leeway/leeway/lp/BasisInverse" "termValues" "[D" ≠ Jvm.RoadKit.slotOf Z "com/example/leeway/leeway/lp/BasisInverse" "termRows" "[I" := slot_ne (Or.inl (hw _ (List.mem_of_getElem? (i := 24) rfl))) (Or.inl (hw _ (List.mem_of_getElem? (i := 22) rfl))) (by decide) (t := (.array .double)) (t' := (.array .int)) (by decide) (by decide)
theorem so_BasisInverse_count_termRows {Z : State} {a0 : Array Value} (hw : ∀ d ∈ tables_1, d.before a0 Z = true) : Jvm.RoadKit.slotOf Z "com/example/leeway/leeway/lp/BasisInverse" "count" "I" ≠ Jvm.RoadKit.slotOf Z "com/example/leeway/leeway/lp/BasisInverse" "termRows" "[I" := slot_ne (Or.inl (hw _ (List.mem_of_getElem? (i := 31) rfl))) (Or.inl (hw _ (List.mem_of_getElem? (i := 22) rfl))) (by decide) (t := .int) (t' := (.array .int)) (by decide) (by decide)
theorem d2_36 : decode prog_85_method_1_code 36 = .ok (.aload_n 0, 1) := by decide +kernel
theorem d2_37 : decode prog_85_method_1_code 37 = .ok (.bipush 64, 2) := by decide +kernel
theorem d2_39 : decode prog_85_method_1_code 39 = .ok (.newarray .double, 2) := by decide +kernel
theorem d2_41 : decode prog_85_method_1_code 41 = .ok (.putfield 23, 3) := by decide +kernel
theorem so_BasisInverse_pivotRows_termValues {Z : State} {a0 : Array Value} (hw : ∀ d ∈ tables_1, d.before a0 Z = true) : Jvm.RoadKit.slotOf Z "com/example/leeway/leeway/lp/BasisInverse" "pivotRows" "[I" ≠ Jvm.RoadKit.slotOf Z "com/example/leeway/leeway/lp/BasisInverse" "termValues" "[D" := slot_ne (Or.inl (hw _ (List.mem_of_getElem? (i := 16) rfl))) (Or.inl (hw _ (List.mem_of_getElem? (i := 24) rfl))) (by decide) (t := (.array .int)) (t' := (.array .double)) (by decide) (by decide)
theorem so_BasisInverse_pivots_termValues {Z : State} {a0 : Array Value} (hw : ∀ d ∈ tables_1, d.before a0 Z = true) : Jvm.RoadKit.slotOf Z "com/example/leeway/leeway/lp/BasisInverse" "pivots" "[D" ≠ Jvm.RoadKit.slotOf Z "com/example/leeway/leeway/lp/BasisInverse" "termValues" "[D" := slot_ne (Or.inl (hw _ (List.mem_of_getElem? (i := 18) rfl))) (Or.inl (hw _ (List.mem_of_getElem? (i := 24) rfl))) (by decide) (t := (.array .double)) (t' := (.array .double)) (by decide) (by decide)
theorem so_BasisInverse_termStart_termValues {Z : State} {a0 : Array Value} (hw : ∀ d ∈ tables_1, d.before a0 Z = true) : Jvm.RoadKit.slotOf Z "com/example/leeway/leeway/lp/BasisInverse" "termStart" "[I" ≠ Jvm.RoadKit.slotOf Z "com/example/leeway/leeway/lp/BasisInverse" "termValues" "[D" := slot_ne (Or.inl (hw _ (List.mem_of_getElem? (i := 20) rfl))) (Or.inl (hw _ (List.mem_of_getElem? (i := 24) rfl))) (by decide) (t := (.array .int)) (t' := (.array .double)) (by decide) (by decide)
theorem so_BasisInverse_termRows_termValues {Z : State} {a0 : Array Value} (hw : ∀ d ∈ tables_1, d.before a0 Z = true) : Jvm.RoadKit.slotOf Z "com/example/leeway/leeway/lp/BasisInverse" "termRows" "[I" ≠ Jvm.RoadKit.slotOf Z "com/example/leeway/leeway/lp/BasisInverse" "termValues" "[D" := slot_ne (Or.inl (hw _ (List.mem_of_getElem? (i := 22) rfl))) (Or.inl (hw _ (List.mem_of_getElem? (i := 24) rfl))) (by decide) (t := (.array .int)) (t' := (.array .double)) (by decide) (by decide)
theorem so_BasisInverse_count_termValues {Z : State} {a0 : Array Value} (hw : ∀ d ∈ tables_1, d.before a0 Z = true) : Jvm.RoadKit.slotOf Z "com/example/leeway/leeway/lp/BasisInverse" "count" "I" ≠ Jvm.RoadKit.slotOf Z "com/example/leeway/leeway/lp/BasisInverse" "termValues" "[D" := slot_ne (Or.inl (hw _ (List.mem_of_getElem? (i := 31) rfl))) (Or.inl (hw _ (List.mem_of_getElem? (i := 24) rfl))) (by decide) (t := .int) (t' := (.array .double)) (by decide) (by decide)
theorem d2_44 : decode prog_85_method_1_code 44 = .ok (.return_, 1) := by decide +kernel
theorem pn_com_example_leeway_leeway_lp_BasisInverse : plainName "com/example/leeway/leeway/lp/BasisInverse" = true := by first | (simp [plainName, overriddenIn]; done) | decide +kernel
theorem ef_2_R (m : MethodId) (x0 : Addr) : entryFrame m #[(.ref x0)] 1 = mkF m 0 #[.val (.ref x0)] [] := by first | (simp [entryFrame, mkF, argsToLocals, Value.category]; done) | rfl
def Q_ini (Z : State) (o0 : Addr) (h0 : Heap) (n0 : Nat) (v : Option Value) (h : Heap) (L : List Loc) : Prop := (∃ (b2 : Addr) (b19 : Addr) (b38 : Addr) (b59 : Addr) (b82 : Addr) (k2 : ClassId) (k19 : ClassId) (k38 : ClassId) (k59 : ClassId) (k82 : ClassId), v = none ∧ Fr n0 L ∧ Keep h0 h [o0] ∧ h0.size ≤ b2 ∧ h0.size ≤ b19 ∧ h0.size ≤ b38 ∧ h0.size ≤ b59 ∧ h0.size ≤ b82 ∧ b2 ≠ b19 ∧ b2 ≠ b38 ∧ b2 ≠ b59 ∧ b2 ≠ b82 ∧ b19 ≠ b38 ∧ b19 ≠ b59 ∧ b19 ≠ b82 ∧ b38 ≠ b59 ∧ b38 ≠ b82 ∧ b59 ≠ b82 ∧ Exa Z h o0 "com/example/leeway/leeway/lp/BasisInverse" ∧ Fld Z h o0 "com/example/leeway/leeway/lp/BasisInverse" "pivotRows" "[I" (.ref b2) ∧ Fld Z h o0 "com/example/leeway/leeway/lp/BasisInverse" "pivots" "[D" (.ref b19) ∧ Fld Z h o0 "com/example/leeway/leeway/lp/BasisInverse" "termStart" "[I" (.ref b38) ∧ Fld Z h o0 "com/example/leeway/leeway/lp/BasisInverse" "termRows" "[I" (.ref b59) ∧ Fld Z h o0 "com/example/leeway/leeway/lp/BasisInverse" "termValues" "[D" (.ref b82) ∧ Fld Z h o0 "com/example/leeway/leeway/lp/BasisInverse" "count" "I" (.int (0 : Int32)) ∧ Arv Z h b2 k2 .int (16 : Int32) [(.int (0 : Int32)), (.int (0 : Int32)), (.int (0 : Int32)), (.int (0 : Int32))] (.int (0 : Int32)) ∧ Arv Z h b19 k19 .double (16 : Int32) [(.double (0 : UInt64)), (.double (0 : UInt64)), (.double (0 : UInt64)), (.double (0 : UInt64))] (.double (0 : UInt64)) ∧ Arv Z h b38 k38 .int (17 : Int32) [(.int (0 : Int32)), (.int (0 : Int32)), (.int (0 : Int32)), (.int (0 : Int32))] (.int (0 : Int32)) ∧ Arv Z h b59 k59 .int (64 : Int32) [(.int (0 : Int32)), (.int (0 : Int32)), (.int (0 : Int32)), (.int (0 : Int32))] (.int (0 : Int32)) ∧ Arv Z h b82 k82 .double (64 : Int32) [(.double (0 : UInt64)), (.double (0 : UInt64)), (.double (0 : UInt64)), (.double (0 : UInt64))] (.double (0 : UInt64)))
set_option maxRecDepth 65536 in
set_option maxHeartbeats 40000000 in
theorem ini (l : Launch) (Z : State) (a0 : Array Value) (hw : ∀ d ∈ tables_1, d.before a0 Z = true) (ws : List Jvm.Cond) (o0 : Addr) (h0 : Heap) (n0 : Nat) (Z0 : n0 ≤ h0.size) (g_o0 : n0 ≤ o0) (E_o0 : Exa Z h0 o0 "com/example/leeway/leeway/lp/BasisInverse") (F_pivotRows_o0 : Fld Z h0 o0 "com/example/leeway/leeway/lp/BasisInverse" "pivotRows" "[I" .null) (F_pivots_o0 : Fld Z h0 o0 "com/example/leeway/leeway/lp/BasisInverse" "pivots" "[D" .null) (F_termStart_o0 : Fld Z h0 o0 "com/example/leeway/leeway/lp/BasisInverse" "termStart" "[I" .null) (F_termRows_o0 : Fld Z h0 o0 "com/example/leeway/leeway/lp/BasisInverse" "termRows" "[I" .null) (F_termValues_o0 : Fld Z h0 o0 "com/example/leeway/leeway/lp/BasisInverse" "termValues" "[D" .null) (F_count_o0 : Fld Z h0 o0 "com/example/leeway/leeway/lp/BasisInverse" "count" "I" (.int (0 : Int32))) :
    MetFree l (⟨"com/example/leeway/leeway/lp/BasisInverse", "<init>", "()V"⟩ : MethodName) (head1 (Jvm.Cond.code (⟨"com/example/leeway/leeway/lp/BasisInverse", "<init>", "()V"⟩ : MethodName) prog_85_method_1_code 1 none :: ws) ({ frames := 1, cells := 5, slots := 177, locals := 12 } : Room)) (fun a U => a = #[(.ref o0)] ∧ Z.Warmed39 U.vm ∧ U.heap = h0) (fun _ _ _ _ _ => True) (fun _ U o U' => ∃ v L, o = .returned v ∧ Q_ini Z o0 h0 n0 v U'.heap L ∧ FrameEnd U o U' L ({ frames := 1, cells := 5, slots := 177, locals := 12 } : Room).cells ({ frames := 1, cells := 5, slots := 177, locals := 12 } : Room).slots) := by
  refine MetFree.of_bodySF (plainFor_of_name pn_com_example_leeway_leeway_lp_BasisInverse) hisR ?_
  intro p e s m args below meth c s₁ Bd hml0 hP hK
  obtain ⟨rfl, hZ, hh⟩ := hP
  have hx := Bd.exec
  have hby := Bd.bytes
  have hml : c.maxLocals = 1 := hml0
  have hown : s.vm.findClass "com/example/leeway/leeway/lp/BasisInverse" = some m.cls := findClass_of_methodNamed Bd.named
  have hnm := (name_of_methodNamed Bd.named Bd.method).1
  have X0 : Stand p l e ({ frames := 1, cells := 5, slots := 177, locals := 12 } : Room) s m #[(.ref o0)] below meth c s₁ [] 0 0 := Stand.of_body Bd
  have e0 : s₁.heap = h0 := by rw [← hh, Bd.state]; rfl
  have N0 := Fr.nil n0
  have pre0 : ∀ t, Steps p.tables e below (s₁.setTop (mkF m 0 #[.val (.ref o0)] [])) t → Steps p.tables e below (s₁.setTop (entryFrame m #[(.ref o0)] 1)) t := fun t k => castTop (ef_2_R m o0) k
  obtain ⟨T1, X1, e1, st1⟩ := initO X0 hx hZ hown (hw _ (List.mem_of_getElem? (i := 12) rfl)) (hw _ (List.mem_of_getElem? (i := 13) rfl)) (hw _ (List.mem_of_getElem? (i := 14) rfl)) e0 (g := (mkF m 1 #[.val (.ref o0)] [(.ref o0)])) rfl (by rw [hml]; rfl) rfl (hb hby d2_1) (by decide) (W := 0) (by show 2 * 0 + _ ≤ _; exact Nat.le_of_eq rfl) (by decide)
  obtain ⟨T2, h2, k2, X2, e2, E2, A2, st2⟩ := newP X1 hx hZ (hw _ (List.mem_of_getElem? (i := 5) rfl)) e1 (g := (mkF m 7 #[.val (.ref o0)] [(.int (16 : Int32)), (.ref o0)])) rfl (hb hby d2_7) rfl (by decide) (cap := 16) (by decide) (by decide) (by decide) (by decide)
  obtain ⟨b2, g2⟩ : ∃ z, z = h0.size := ⟨_, rfl⟩
  rw [← g2] at A2 st2
  have ne_o0_b2 : o0 ≠ b2 := Nat.ne_of_lt (Nat.lt_of_lt_of_le E_o0.lt (Nat.le_of_eq g2.symm))
  have g_b2 : n0 ≤ b2 := Nat.le_trans Z0 (Nat.le_of_eq g2.symm)
  have sz_b2 : h0.size ≤ b2 := Nat.le_trans (Keep.refl h0 [o0]).1 (Nat.le_of_eq g2.symm)
  have f3 := E_o0.ext E2
  have f4 := F_pivotRows_o0.ext E2
  have f5 := F_pivots_o0.ext E2
  have f6 := F_termStart_o0.ext E2
  have f7 := F_termRows_o0.ext E2
  have f8 := F_termValues_o0.ext E2
  have f9 := F_count_o0.ext E2
  have K2 : Keep h0 h2 [o0] := (Keep.refl h0 [o0]).ext E2
  have Zs2 := Nat.le_trans Z0 E2.1
  have V2 : Arv Z h2 b2 k2 .int (16 : Int32) [(.int (0 : Int32)), (.int (0 : Int32)), (.int (0 : Int32)), (.int (0 : Int32))] (.int (0 : Int32)) := (Arv.new A2 (by decide)).pad (pad_rep [] (.int (0 : Int32)) 4)
  obtain ⟨T10, h10, X10, e10, W10, st10⟩ := putF X2 hx hZ hown (host := "") (Or.inl (hw _ (List.mem_of_getElem? (i := 15) rfl))) Via.refl e2 f4 f3 (Or.inl (hw _ (List.mem_of_getElem? (i := 16) rfl))) (hw _ (List.mem_of_getElem? (i := 7) rfl)) (ty := (.array .int)) (by decide) rfl rfl (g := (mkF m 9 #[.val (.ref o0)] [(.ref b2), (.ref o0)])) rfl rfl (hb hby d2_9)
  have f11 := f3.wr W10
  have f12 := f5.other W10 (Or.inr (so_BasisInverse_pivots_pivotRows hw))
  have f13 := f6.other W10 (Or.inr (so_BasisInverse_termStart_pivotRows hw))
  have f14 := f7.other W10 (Or.inr (so_BasisInverse_termRows_pivotRows hw))
  have f15 := f8.other W10 (Or.inr (so_BasisInverse_termValues_pivotRows hw))
  have f16 := f9.other W10 (Or.inr (so_BasisInverse_count_pivotRows hw))
  have f17 := V2.other W10 (Ne.symm ne_o0_b2)
  have K10 : Keep h0 h10 [o0] := K2.wr W10 (Or.inl (List.mem_of_getElem? (i := 0) rfl))
  have Zs10 := Nat.le_trans Zs2 (Keep.of_wr W10).1
  have N10 := Fr.snoc X10 N0 g_o0
  have f18 : Fld Z h10 o0 "com/example/leeway/leeway/lp/BasisInverse" "pivotRows" "[I" (.ref b2) := f4.same W10
  obtain ⟨T19, h19, k19, X19, e19, E19, A19, st19⟩ := newP X10 hx hZ (hw _ (List.mem_of_getElem? (i := 4) rfl)) e10 (g := (mkF m 15 #[.val (.ref o0)] [(.int (16 : Int32)), (.ref o0)])) rfl (hb hby d2_15) rfl (by decide) (cap := 16) (by decide) (by decide) (by decide) (by decide)
  obtain ⟨b19, g19⟩ : ∃ z, z = h10.size := ⟨_, rfl⟩
  rw [← g19] at A19 st19
  have ne_o0_b19 : o0 ≠ b19 := Nat.ne_of_lt (Nat.lt_of_lt_of_le f11.lt (Nat.le_of_eq g19.symm))
  have ne_b2_b19 : b2 ≠ b19 := Nat.ne_of_lt (Nat.lt_of_lt_of_le f17.lt (Nat.le_of_eq g19.symm))
  have g_b19 : n0 ≤ b19 := Nat.le_trans Zs10 (Nat.le_of_eq g19.symm)
  have sz_b19 : h0.size ≤ b19 := Nat.le_trans K10.1 (Nat.le_of_eq g19.symm)
  have f20 := f11.ext E19
  have f21 := f18.ext E19
  have f22 := f12.ext E19
  have f23 := f13.ext E19
  have f24 := f14.ext E19
  have f25 := f15.ext E19
  have f26 := f16.ext E19
  have f27 := f17.ext E19
  have K19 : Keep h0 h19 [o0] := K10.ext E19
  have Zs19 := Nat.le_trans Zs10 E19.1
  have V19 : Arv Z h19 b19 k19 .double (16 : Int32) [(.double (0 : UInt64)), (.double (0 : UInt64)), (.double (0 : UInt64)), (.double (0 : UInt64))] (.double (0 : UInt64)) := (Arv.new A19 (by decide)).pad (pad_rep [] (.double (0 : UInt64)) 4)
  obtain ⟨T28, h28, X28, e28, W28, st28⟩ := putF X19 hx hZ hown (host := "") (Or.inl (hw _ (List.mem_of_getElem? (i := 17) rfl))) Via.refl e19 f22 f20 (Or.inl (hw _ (List.mem_of_getElem? (i := 18) rfl))) (hw _ (List.mem_of_getElem? (i := 7) rfl)) (ty := (.array .double)) (by decide) rfl rfl (g := (mkF m 17 #[.val (.ref o0)] [(.ref b19), (.ref o0)])) rfl rfl (hb hby d2_17)
  have f29 := f20.wr W28
  have f30 := f21.other W28 (Or.inr (so_BasisInverse_pivotRows_pivots hw))
  have f31 := f23.other W28 (Or.inr (so_BasisInverse_termStart_pivots hw))
  have f32 := f24.other W28 (Or.inr (so_BasisInverse_termRows_pivots hw))
  have f33 := f25.other W28 (Or.inr (so_BasisInverse_termValues_pivots hw))
  have f34 := f26.other W28 (Or.inr (so_BasisInverse_count_pivots hw))
  have f35 := f27.other W28 (Ne.symm ne_o0_b2)
  have f36 := V19.other W28 (Ne.symm ne_o0_b19)
  have K28 : Keep h0 h28 [o0] := K19.wr W28 (Or.inl (List.mem_of_getElem? (i := 0) rfl))
  have Zs28 := Nat.le_trans Zs19 (Keep.of_wr W28).1
  have N28 := Fr.snoc X28 N10 g_o0
  have f37 : Fld Z h28 o0 "com/example/leeway/leeway/lp/BasisInverse" "pivots" "[D" (.ref b19) := f22.same W28
  obtain ⟨T38, h38, k38, X38, e38, E38, A38, st38⟩ := newP X28 hx hZ (hw _ (List.mem_of_getElem? (i := 5) rfl)) e28 (g := (mkF m 23 #[.val (.ref o0)] [(.int (17 : Int32)), (.ref o0)])) rfl (hb hby d2_23) rfl (by decide) (cap := 17) (by decide) (by decide) (by decide) (by decide)
  obtain ⟨b38, g38⟩ : ∃ z, z = h28.size := ⟨_, rfl⟩
  rw [← g38] at A38 st38
  have ne_o0_b38 : o0 ≠ b38 := Nat.ne_of_lt (Nat.lt_of_lt_of_le f29.lt (Nat.le_of_eq g38.symm))
  have ne_b2_b38 : b2 ≠ b38 := Nat.ne_of_lt (Nat.lt_of_lt_of_le f35.lt (Nat.le_of_eq g38.symm))
  have ne_b19_b38 : b19 ≠ b38 := Nat.ne_of_lt (Nat.lt_of_lt_of_le f36.lt (Nat.le_of_eq g38.symm))
  have g_b38 : n0 ≤ b38 := Nat.le_trans Zs28 (Nat.le_of_eq g38.symm)
  have sz_b38 : h0.size ≤ b38 := Nat.le_trans K28.1 (Nat.le_of_eq g38.symm)
  have f39 := f29.ext E38
  have f40 := f30.ext E38
  have f41 := f37.ext E38
  have f42 := f31.ext E38
  have f43 := f32.ext E38
  have f44 := f33.ext E38
  have f45 := f34.ext E38
  have f46 := f35.ext E38
  have f47 := f36.ext E38
  have K38 : Keep h0 h38 [o0] := K28.ext E38
  have Zs38 := Nat.le_trans Zs28 E38.1
  have V38 : Arv Z h38 b38 k38 .int (17 : Int32) [(.int (0 : Int32)), (.int (0 : Int32)), (.int (0 : Int32)), (.int (0 : Int32))] (.int (0 : Int32)) := (Arv.new A38 (by decide)).pad (pad_rep [] (.int (0 : Int32)) 4)
  obtain ⟨T48, h48, X48, e48, W48, st48⟩ := putF X38 hx hZ hown (host := "") (Or.inl (hw _ (List.mem_of_getElem? (i := 19) rfl))) Via.refl e38 f42 f39 (Or.inl (hw _ (List.mem_of_getElem? (i := 20) rfl))) (hw _ (List.mem_of_getElem? (i := 7) rfl)) (ty := (.array .int)) (by decide) rfl rfl (g := (mkF m 25 #[.val (.ref o0)] [(.ref b38), (.ref o0)])) rfl rfl (hb hby d2_25)
  have f49 := f39.wr W48
  have f50 := f40.other W48 (Or.inr (so_BasisInverse_pivotRows_termStart hw))
  have f51 := f41.other W48 (Or.inr (so_BasisInverse_pivots_termStart hw))
  have f52 := f43.other W48 (Or.inr (so_BasisInverse_termRows_termStart hw))
  have f53 := f44.other W48 (Or.inr (so_BasisInverse_termValues_termStart hw))
  have f54 := f45.other W48 (Or.inr (so_BasisInverse_count_termStart hw))
  have f55 := f46.other W48 (Ne.symm ne_o0_b2)
  have f56 := f47.other W48 (Ne.symm ne_o0_b19)
  have f57 := V38.other W48 (Ne.symm ne_o0_b38)
  have K48 : Keep h0 h48 [o0] := K38.wr W48 (Or.inl (List.mem_of_getElem? (i := 0) rfl))
  have Zs48 := Nat.le_trans Zs38 (Keep.of_wr W48).1
  have N48 := Fr.snoc X48 N28 g_o0
  have f58 : Fld Z h48 o0 "com/example/leeway/leeway/lp/BasisInverse" "termStart" "[I" (.ref b38) := f42.same W48
  obtain ⟨T59, h59, k59, X59, e59, E59, A59, st59⟩ := newP X48 hx hZ (hw _ (List.mem_of_getElem? (i := 5) rfl)) e48 (g := (mkF m 31 #[.val (.ref o0)] [(.int (64 : Int32)), (.ref o0)])) rfl (hb hby d2_31) rfl (by decide) (cap := 64) (by decide) (by decide) (by decide) (by decide)
  obtain ⟨b59, g59⟩ : ∃ z, z = h48.size := ⟨_, rfl⟩
  rw [← g59] at A59 st59
  have ne_o0_b59 : o0 ≠ b59 := Nat.ne_of_lt (Nat.lt_of_lt_of_le f49.lt (Nat.le_of_eq g59.symm))
  have ne_b2_b59 : b2 ≠ b59 := Nat.ne_of_lt (Nat.lt_of_lt_of_le f55.lt (Nat.le_of_eq g59.symm))
  have ne_b19_b59 : b19 ≠ b59 := Nat.ne_of_lt (Nat.lt_of_lt_of_le f56.lt (Nat.le_of_eq g59.symm))
  have ne_b38_b59 : b38 ≠ b59 := Nat.ne_of_lt (Nat.lt_of_lt_of_le f57.lt (Nat.le_of_eq g59.symm))
  have g_b59 : n0 ≤ b59 := Nat.le_trans Zs48 (Nat.le_of_eq g59.symm)
  have sz_b59 : h0.size ≤ b59 := Nat.le_trans K48.1 (Nat.le_of_eq g59.symm)
  have f60 := f49.ext E59
  have f61 := f50.ext E59
  have f62 := f51.ext E59
  have f63 := f58.ext E59
  have f64 := f52.ext E59
  have f65 := f53.ext E59
  have f66 := f54.ext E59
  have f67 := f55.ext E59
  have f68 := f56.ext E59
  have f69 := f57.ext E59
  have K59 : Keep h0 h59 [o0] := K48.ext E59
  have Zs59 := Nat.le_trans Zs48 E59.1
  have V59 : Arv Z h59 b59 k59 .int (64 : Int32) [(.int (0 : Int32)), (.int (0 : Int32)), (.int (0 : Int32)), (.int (0 : Int32))] (.int (0 : Int32)) := (Arv.new A59 (by decide)).pad (pad_rep [] (.int (0 : Int32)) 4)
  obtain ⟨T70, h70, X70, e70, W70, st70⟩ := putF X59 hx hZ hown (host := "") (Or.inl (hw _ (List.mem_of_getElem? (i := 21) rfl))) Via.refl e59 f64 f60 (Or.inl (hw _ (List.mem_of_getElem? (i := 22) rfl))) (hw _ (List.mem_of_getElem? (i := 7) rfl)) (ty := (.array .int)) (by decide) rfl rfl (g := (mkF m 33 #[.val (.ref o0)] [(.ref b59), (.ref o0)])) rfl rfl (hb hby d2_33)
  have f71 := f60.wr W70
  have f72 := f61.other W70 (Or.inr (so_BasisInverse_pivotRows_termRows hw))
  have f73 := f62.other W70 (Or.inr (so_BasisInverse_pivots_termRows hw))
  have f74 := f63.other W70 (Or.inr (so_BasisInverse_termStart_termRows hw))
  have f75 := f65.other W70 (Or.inr (so_BasisInverse_termValues_termRows hw))
  have f76 := f66.other W70 (Or.inr (so_BasisInverse_count_termRows hw))
  have f77 := f67.other W70 (Ne.symm ne_o0_b2)
  have f78 := f68.other W70 (Ne.symm ne_o0_b19)
  have f79 := f69.other W70 (Ne.symm ne_o0_b38)
  have f80 := V59.other W70 (Ne.symm ne_o0_b59)
  have K70 : Keep h0 h70 [o0] := K59.wr W70 (Or.inl (List.mem_of_getElem? (i := 0) rfl))
  have Zs70 := Nat.le_trans Zs59 (Keep.of_wr W70).1
  have N70 := Fr.snoc X70 N48 g_o0
  have f81 : Fld Z h70 o0 "com/example/leeway/leeway/lp/BasisInverse" "termRows" "[I" (.ref b59) := f64.same W70
  obtain ⟨T82, h82, k82, X82, e82, E82, A82, st82⟩ := newP X70 hx hZ (hw _ (List.mem_of_getElem? (i := 4) rfl)) e70 (g := (mkF m 39 #[.val (.ref o0)] [(.int (64 : Int32)), (.ref o0)])) rfl (hb hby d2_39) rfl (by decide) (cap := 64) (by decide) (by decide) (by decide) (by decide)
  obtain ⟨b82, g82⟩ : ∃ z, z = h70.size := ⟨_, rfl⟩
  rw [← g82] at A82 st82
  have ne_o0_b82 : o0 ≠ b82 := Nat.ne_of_lt (Nat.lt_of_lt_of_le f71.lt (Nat.le_of_eq g82.symm))
  have ne_b2_b82 : b2 ≠ b82 := Nat.ne_of_lt (Nat.lt_of_lt_of_le f77.lt (Nat.le_of_eq g82.symm))
  have ne_b19_b82 : b19 ≠ b82 := Nat.ne_of_lt (Nat.lt_of_lt_of_le f78.lt (Nat.le_of_eq g82.symm))
  have ne_b38_b82 : b38 ≠ b82 := Nat.ne_of_lt (Nat.lt_of_lt_of_le f79.lt (Nat.le_of_eq g82.symm))
  have ne_b59_b82 : b59 ≠ b82 := Nat.ne_of_lt (Nat.lt_of_lt_of_le f80.lt (Nat.le_of_eq g82.symm))
  have g_b82 : n0 ≤ b82 := Nat.le_trans Zs70 (Nat.le_of_eq g82.symm)
  have sz_b82 : h0.size ≤ b82 := Nat.le_trans K70.1 (Nat.le_of_eq g82.symm)
  have f83 := f71.ext E82
  have f84 := f72.ext E82
  have f85 := f73.ext E82
  have f86 := f74.ext E82
  have f87 := f81.ext E82
  have f88 := f75.ext E82
  have f89 := f76.ext E82
  have f90 := f77.ext E82
  have f91 := f78.ext E82
  have f92 := f79.ext E82
  have f93 := f80.ext E82
  have K82 : Keep h0 h82 [o0] := K70.ext E82
  have Zs82 := Nat.le_trans Zs70 E82.1
  have V82 : Arv Z h82 b82 k82 .double (64 : Int32) [(.double (0 : UInt64)), (.double (0 : UInt64)), (.double (0 : UInt64)), (.double (0 : UInt64))] (.double (0 : UInt64)) := (Arv.new A82 (by decide)).pad (pad_rep [] (.double (0 : UInt64)) 4)
  obtain ⟨T94, h94, X94, e94, W94, st94⟩ := putF X82 hx hZ hown (host := "") (Or.inl (hw _ (List.mem_of_getElem? (i := 23) rfl))) Via.refl e82 f88 f83 (Or.inl (hw _ (List.mem_of_getElem? (i := 24) rfl))) (hw _ (List.mem_of_getElem? (i := 7) rfl)) (ty := (.array .double)) (by decide) rfl rfl (g := (mkF m 41 #[.val (.ref o0)] [(.ref b82), (.ref o0)])) rfl rfl (hb hby d2_41)
  have f95 := f83.wr W94
  have f96 := f84.other W94 (Or.inr (so_BasisInverse_pivotRows_termValues hw))
  have f97 := f85.other W94 (Or.inr (so_BasisInverse_pivots_termValues hw))
  have f98 := f86.other W94 (Or.inr (so_BasisInverse_termStart_termValues hw))
  have f99 := f87.other W94 (Or.inr (so_BasisInverse_termRows_termValues hw))
  have f100 := f89.other W94 (Or.inr (so_BasisInverse_count_termValues hw))
  have f101 := f90.other W94 (Ne.symm ne_o0_b2)
  have f102 := f91.other W94 (Ne.symm ne_o0_b19)
  have f103 := f92.other W94 (Ne.symm ne_o0_b38)
  have f104 := f93.other W94 (Ne.symm ne_o0_b59)
  have f105 := V82.other W94 (Ne.symm ne_o0_b82)
  have K94 : Keep h0 h94 [o0] := K82.wr W94 (Or.inl (List.mem_of_getElem? (i := 0) rfl))
  have Zs94 := Nat.le_trans Zs82 (Keep.of_wr W94).1
  have N94 := Fr.snoc X94 N70 g_o0
  have f106 : Fld Z h94 o0 "com/example/leeway/leeway/lp/BasisInverse" "termValues" "[D" (.ref b82) := f88.same W94
  obtain ⟨fs, hr, hrun, hended, hW, hsame⟩ := X94.leave (v := none) (fun _ => rfl)
  refine ⟨_, _, pre0 _ ?_, hrun, hended, _, _, rfl, ?_, ⟨_, rfl⟩, hW, hsame.mono (by decide) (by decide)⟩
  · show Steps p.tables e below (s₁.setTop (mkF m 0 #[.val (.ref o0)] [])) _
    refine XS.aloadN X0.here hx rfl (hb hby d2_0) rfl rfl ?_
    refine st1 _ ?_
    show Steps p.tables e below (T1.setTop (mkF m 4 #[.val (.ref o0)] [])) _
    refine XS.aloadN X1.here hx rfl (hb hby d2_4) rfl rfl ?_
    refine XS.bipush X1.here hx rfl (hb hby d2_5) ?_
    refine st2 _ ?_
    show Steps p.tables e below (T2.setTop (mkF m 9 #[.val (.ref o0)] [(.ref b2), (.ref o0)])) _
    refine st10 _ ?_
    show Steps p.tables e below (T10.setTop (mkF m 12 #[.val (.ref o0)] [])) _
    refine XS.aloadN X10.here hx rfl (hb hby d2_12) rfl rfl ?_
    refine XS.bipush X10.here hx rfl (hb hby d2_13) ?_
    refine st19 _ ?_
    show Steps p.tables e below (T19.setTop (mkF m 17 #[.val (.ref o0)] [(.ref b19), (.ref o0)])) _
    refine st28 _ ?_
    show Steps p.tables e below (T28.setTop (mkF m 20 #[.val (.ref o0)] [])) _
    refine XS.aloadN X28.here hx rfl (hb hby d2_20) rfl rfl ?_
    show Steps p.tables e below (T28.setTop (mkF m 21 #[.val (.ref o0)] [(.ref o0)])) _
    refine XS.bipush X28.here hx rfl (hb hby d2_21) ?_
    refine st38 _ ?_
    show Steps p.tables e below (T38.setTop (mkF m 25 #[.val (.ref o0)] [(.ref b38), (.ref o0)])) _
    refine st48 _ ?_
    show Steps p.tables e below (T48.setTop (mkF m 28 #[.val (.ref o0)] [])) _
    refine XS.aloadN X48.here hx rfl (hb hby d2_28) rfl rfl ?_
    refine XS.bipush X48.here hx rfl (hb hby d2_29) ?_
    refine st59 _ ?_
    show Steps p.tables e below (T59.setTop (mkF m 33 #[.val (.ref o0)] [(.ref b59), (.ref o0)])) _
    refine st70 _ ?_
    show Steps p.tables e below (T70.setTop (mkF m 36 #[.val (.ref o0)] [])) _
    refine XS.aloadN X70.here hx rfl (hb hby d2_36) rfl rfl ?_
    refine XS.bipush X70.here hx rfl (hb hby d2_37) ?_
    refine st82 _ ?_
    show Steps p.tables e below (T82.setTop (mkF m 41 #[.val (.ref o0)] [(.ref b82), (.ref o0)])) _
    refine st94 _ ?_
    show Steps p.tables e below (T94.setTop (mkF m 44 #[.val (.ref o0)] [])) _
    exact X94.returnOut hx Bd.returns (hb hby d2_44) hr
  · show Q_ini Z o0 h0 n0 _ T94.heap _
    rw [e94]
    exact ⟨b2, b19, b38, b59, b82, k2, k19, k38, k59, k82, rfl, N94, K94, sz_b2, sz_b19, sz_b38, sz_b59, sz_b82, ne_b2_b19, ne_b2_b38, ne_b2_b59, ne_b2_b82, ne_b19_b38, ne_b19_b59, ne_b19_b82, ne_b38_b59, ne_b38_b82, ne_b59_b82, f95, f96, f97, f98, f99, f106, f100, f101, f102, f103, f104, f105⟩
theorem d7_0 : decode prog_85_method_6_code 0 = .ok (.iload_n 1, 1) := by decide +kernel
theorem d7_1 : decode prog_85_method_6_code 1 = .ok (.aload_n 0, 1) := by decide +kernel
theorem d7_2 : decode prog_85_method_6_code 2 = .ok (.getfield 20, 3) := by decide +kernel
theorem d7_5 : decode prog_85_method_6_code 5 = .ok (.arraylength, 1) := by decide +kernel
theorem d7_6 : decode prog_85_method_6_code 6 = .ok (.if_icmp .ne 31, 3) := by decide +kernel
theorem d7_37 : decode prog_85_method_6_code 37 = .ok (.aload_n 0, 1) := by decide +kernel
theorem d7_38 : decode prog_85_method_6_code 38 = .ok (.getfield 20, 3) := by decide +kernel
theorem d7_41 : decode prog_85_method_6_code 41 = .ok (.iload_n 1, 1) := by decide +kernel
theorem d7_42 : decode prog_85_method_6_code 42 = .ok (.iload_n 2, 1) := by decide +kernel
theorem d7_43 : decode prog_85_method_6_code 43 = .ok (.iastore, 1) := by decide +kernel
theorem d7_44 : decode prog_85_method_6_code 44 = .ok (.aload_n 0, 1) := by decide +kernel
theorem d7_45 : decode prog_85_method_6_code 45 = .ok (.getfield 23, 3) := by decide +kernel
theorem d7_48 : decode prog_85_method_6_code 48 = .ok (.iload_n 1, 1) := by decide +kernel
theorem d7_49 : decode prog_85_method_6_code 49 = .ok (.dload_n 3, 1) := by decide +kernel
theorem d7_50 : decode prog_85_method_6_code 50 = .ok (.dastore, 1) := by decide +kernel
theorem d7_51 : decode prog_85_method_6_code 51 = .ok (.iload_n 1, 1) := by decide +kernel
theorem d7_52 : decode prog_85_method_6_code 52 = .ok (.iconst 1, 1) := by decide +kernel
theorem d7_53 : decode prog_85_method_6_code 53 = .ok (.iadd, 1) := by decide +kernel
theorem d7_54 : decode prog_85_method_6_code 54 = .ok (.ireturn, 1) := by decide +kernel
theorem ef_7_Rl_0___Int32_ID (m : MethodId) (x0 : Addr) (x2 : Int32) (x3 : UInt64) : entryFrame m #[(.ref x0), (.int (0 : Int32)), (.int x2), (.double x3)] 5 = mkF m 0 #[.val (.ref x0), .val (.int (0 : Int32)), .val (.int x2), .val (.double x3), .second] [] := by first | (simp [entryFrame, mkF, argsToLocals, Value.category]; done) | rfl
def Q_kp0 (Z : State) (o0 : Addr) (fa3 : Addr) (fa4 : Addr) (kfa3 : ClassId) (kfa4 : ClassId) (gd0 : Int32) (gd1 : Int32) (gd2 : Int32) (gd3 : Int32) (ge0 : UInt64) (ge1 : UInt64) (ge2 : UInt64) (ge3 : UInt64) (rw : Int32) (vl : UInt64) (cn : Int32) (h0 : Heap) (n0 : Nat) (v : Option Value) (h : Heap) (L : List Loc) : Prop := v = some (.int (1 : Int32)) ∧ Fr n0 L ∧ Keep h0 h [fa3, fa4] ∧ Arv Z h fa3 kfa3 .int (64 : Int32) [(.int rw), (.int gd1), (.int gd2), (.int gd3)] (.int (0 : Int32)) ∧ Arv Z h fa4 kfa4 .double (64 : Int32) [(.double vl), (.double ge1), (.double ge2), (.double ge3)] (.double (0 : UInt64))
set_option maxRecDepth 65536 in
set_option maxHeartbeats 40000000 in
theorem kp0 (l : Launch) (Z : State) (a0 : Array Value) (hw : ∀ d ∈ tables_1, d.before a0 Z = true) (ws : List Jvm.Cond) (o0 : Addr) (fa3 : Addr) (fa4 : Addr) (kfa3 : ClassId) (kfa4 : ClassId) (gd0 : Int32) (gd1 : Int32) (gd2 : Int32) (gd3 : Int32) (ge0 : UInt64) (ge1 : UInt64) (ge2 : UInt64) (ge3 : UInt64) (rw : Int32) (vl : UInt64) (cn : Int32) (h0 : Heap) (n0 : Nat) (Z0 : n0 ≤ h0.size) (F_termRows_o0 : Fld Z h0 o0 "com/example/leeway/leeway/lp/BasisInverse" "termRows" "[I" (.ref fa3)) (F_termValues_o0 : Fld Z h0 o0 "com/example/leeway/leeway/lp/BasisInverse" "termValues" "[D" (.ref fa4)) (F_count_o0 : Fld Z h0 o0 "com/example/leeway/leeway/lp/BasisInverse" "count" "I" (.int cn)) (E_o0 : Exa Z h0 o0 "com/example/leeway/leeway/lp/BasisInverse") (V_fa3 : Arv Z h0 fa3 kfa3 .int (64 : Int32) [(.int gd0), (.int gd1), (.int gd2), (.int gd3)] (.int (0 : Int32))) (V_fa4 : Arv Z h0 fa4 kfa4 .double (64 : Int32) [(.double ge0), (.double ge1), (.double ge2), (.double ge3)] (.double (0 : UInt64))) (g_o0 : n0 ≤ o0) (g_fa3 : n0 ≤ fa3) (g_fa4 : n0 ≤ fa4) (ne_o0_fa3 : o0 ≠ fa3) (ne_o0_fa4 : o0 ≠ fa4) (ne_fa3_fa4 : fa3 ≠ fa4) :
    MetFree l (⟨"com/example/leeway/leeway/lp/BasisInverse", "keep", "(IID)I"⟩ : MethodName) (head1 (Jvm.Cond.code (⟨"com/example/leeway/leeway/lp/BasisInverse", "keep", "(IID)I"⟩ : MethodName) prog_85_method_6_code 5 (some .int) :: ws) ({ frames := 0, cells := 0, slots := 0, locals := 0 } : Room)) (fun a U => a = #[(.ref o0), (.int (0 : Int32)), (.int rw), (.double vl)] ∧ Z.Warmed39 U.vm ∧ U.heap = h0) (fun _ _ _ _ _ => True) (fun _ U o U' => ∃ v L, o = .returned v ∧ Q_kp0 Z o0 fa3 fa4 kfa3 kfa4 gd0 gd1 gd2 gd3 ge0 ge1 ge2 ge3 rw vl cn h0 n0 v U'.heap L ∧ FrameEnd U o U' L ({ frames := 0, cells := 0, slots := 0, locals := 0 } : Room).cells ({ frames := 0, cells := 0, slots := 0, locals := 0 } : Room).slots) := by
  refine MetFree.of_bodySF (plainFor_of_name pn_com_example_leeway_leeway_lp_BasisInverse) hisR ?_
  intro p e s m args below meth c s₁ Bd hml0 hP hK
  obtain ⟨rfl, hZ, hh⟩ := hP
  have hx := Bd.exec
  have hby := Bd.bytes
  have hml : c.maxLocals = 5 := hml0
  have hown : s.vm.findClass "com/example/leeway/leeway/lp/BasisInverse" = some m.cls := findClass_of_methodNamed Bd.named
  have hnm := (name_of_methodNamed Bd.named Bd.method).1
  have X0 : Stand p l e ({ frames := 0, cells := 0, slots := 0, locals := 0 } : Room) s m #[(.ref o0), (.int (0 : Int32)), (.int rw), (.double vl)] below meth c s₁ [] 0 0 := Stand.of_body Bd
  have e0 : s₁.heap = h0 := by rw [← hh, Bd.state]; rfl
  have N0 := Fr.nil n0
  have pre0 : ∀ t, Steps p.tables e below (s₁.setTop (mkF m 0 #[.val (.ref o0), .val (.int (0 : Int32)), .val (.int rw), .val (.double vl), .second] [])) t → Steps p.tables e below (s₁.setTop (entryFrame m #[(.ref o0), (.int (0 : Int32)), (.int rw), (.double vl)] 5)) t := fun t k => castTop (ef_7_Rl_0___Int32_ID m o0 rw vl) k
  obtain ⟨T1, X1, e1, st1⟩ := getF X0 hx hZ hown (host := "") (Or.inl (hw _ (List.mem_of_getElem? (i := 21) rfl))) Via.refl e0 F_termRows_o0 (g := (mkF m 2 #[.val (.ref o0), .val (.int (0 : Int32)), .val (.int rw), .val (.double vl), .second] [(.ref o0), (.int (0 : Int32))])) rfl rfl (hb hby d7_2)
  obtain ⟨cq2, Arq2, -, Sq2, Nq2, -, -⟩ := id V_fa3
  obtain ⟨T3, X3, e3, st3⟩ := getF X1 hx hZ hown (host := "") (Or.inl (hw _ (List.mem_of_getElem? (i := 21) rfl))) Via.refl e1 F_termRows_o0 (g := (mkF m 38 #[.val (.ref o0), .val (.int (0 : Int32)), .val (.int rw), .val (.double vl), .second] [(.ref o0)])) rfl rfl (hb hby d7_38)
  obtain ⟨cq4, Arq4, qq4, Sq4, Nq4, Hq4, Gq4⟩ := id V_fa3
  obtain ⟨T5, h5, X5, e5, W5, st5⟩ := stI X3 hx hZ e3 Arq4 (j := (0 : Int32)) (inb_of Sq4 ⟨by decide, by decide⟩) (g := (mkF m 43 #[.val (.ref o0), .val (.int (0 : Int32)), .val (.int rw), .val (.double vl), .second] [(.int rw), (.int (0 : Int32)), (.ref fa3)])) rfl rfl (hb hby d7_43)
  have f6 := F_termRows_o0.other W5 (Or.inl ne_o0_fa3)
  have f7 := F_termValues_o0.other W5 (Or.inl ne_o0_fa3)
  have f8 := F_count_o0.other W5 (Or.inl ne_o0_fa3)
  have f9 := E_o0.wr W5
  have f10 := V_fa4.other W5 (Ne.symm ne_fa3_fa4)
  have K5 : Keep h0 h5 [fa3, fa4] := (Keep.refl h0 [fa3, fa4]).wr W5 (Or.inl (List.mem_of_getElem? (i := 0) rfl))
  have Zs5 := Nat.le_trans Z0 (Keep.of_wr W5).1
  have N5 := Fr.snoc X5 N0 g_fa3
  have f11 : Arv Z h5 fa3 kfa3 .int (64 : Int32) [(.int rw), (.int gd1), (.int gd2), (.int gd3)] (.int (0 : Int32)) := Arv.set Arq4 qq4 Sq4 Nq4 Hq4 Gq4 rfl W5 0 rfl (Nat.le_of_ble_eq_true rfl)
  obtain ⟨T12, X12, e12, st12⟩ := getF X5 hx hZ hown (host := "") (Or.inl (hw _ (List.mem_of_getElem? (i := 23) rfl))) Via.refl e5 f7 (g := (mkF m 45 #[.val (.ref o0), .val (.int (0 : Int32)), .val (.int rw), .val (.double vl), .second] [(.ref o0)])) rfl rfl (hb hby d7_45)
  obtain ⟨cq13, Arq13, qq13, Sq13, Nq13, Hq13, Gq13⟩ := id f10
  obtain ⟨T14, h14, X14, e14, W14, st14⟩ := stD X12 hx hZ e12 Arq13 (j := (0 : Int32)) (inb_of Sq13 ⟨by decide, by decide⟩) (g := (mkF m 50 #[.val (.ref o0), .val (.int (0 : Int32)), .val (.int rw), .val (.double vl), .second] [(.double vl), (.int (0 : Int32)), (.ref fa4)])) rfl rfl (hb hby d7_50)
  have f15 := f6.other W14 (Or.inl ne_o0_fa4)
  have f16 := f7.other W14 (Or.inl ne_o0_fa4)
  have f17 := f8.other W14 (Or.inl ne_o0_fa4)
  have f18 := f9.wr W14
  have f19 := f11.other W14 ne_fa3_fa4
  have K14 : Keep h0 h14 [fa3, fa4] := K5.wr W14 (Or.inl (List.mem_of_getElem? (i := 1) rfl))
  have Zs14 := Nat.le_trans Zs5 (Keep.of_wr W14).1
  have N14 := Fr.snoc X14 N5 g_fa4
  have f20 : Arv Z h14 fa4 kfa4 .double (64 : Int32) [(.double vl), (.double ge1), (.double ge2), (.double ge3)] (.double (0 : UInt64)) := Arv.set Arq13 qq13 Sq13 Nq13 Hq13 Gq13 rfl W14 0 rfl (Nat.le_of_ble_eq_true rfl)
  obtain ⟨fs, hr, hrun, hended, hW, hsame⟩ := X14.leave (v := some (.int (1 : Int32))) (fun h => by rw [Bd.returns] at h; cases h)
  refine ⟨_, _, pre0 _ ?_, hrun, hended, _, _, rfl, ?_, ⟨_, rfl⟩, hW, hsame.mono (by decide) (by decide)⟩
  · show Steps p.tables e below (s₁.setTop (mkF m 0 #[.val (.ref o0), .val (.int (0 : Int32)), .val (.int rw), .val (.double vl), .second] [])) _
    refine XS.iloadN X0.here hx rfl (hb hby d7_0) rfl ?_
    refine XS.aloadN X0.here hx rfl (hb hby d7_1) rfl rfl ?_
    refine st1 _ ?_
    show Steps p.tables e below (T1.setTop (mkF m 5 #[.val (.ref o0), .val (.int (0 : Int32)), .val (.int rw), .val (.double vl), .second] [(.ref fa3), (.int (0 : Int32))])) _
    refine X1.arraylength hx (by rw [e1]; exact Arq2.1) (State.isArrayOf_alike hZ.alike Arq2.2.1) (g := (mkF m 5 #[.val (.ref o0), .val (.int (0 : Int32)), .val (.int rw), .val (.double vl), .second] [(.ref fa3), (.int (0 : Int32))])) rfl rfl (hb hby d7_5) _ ?_
    rw [len_of Sq2 Nq2]
    show Steps p.tables e below (T1.setTop (mkF m 6 #[.val (.ref o0), .val (.int (0 : Int32)), .val (.int rw), .val (.double vl), .second] [(.int (64 : Int32)), (.int (0 : Int32))])) _
    refine XS.icmpYes X1.here hx rfl (pc0 := 6) (pc' := 37) rfl (hb hby d7_6) rfl (feq (by decide : ¬ ((0 : Int32) = (64 : Int32)))).2 (by decide) (by decide) ?_
    show Steps p.tables e below (T1.setTop (mkF m 37 #[.val (.ref o0), .val (.int (0 : Int32)), .val (.int rw), .val (.double vl), .second] [])) _
    refine XS.aloadN X1.here hx rfl (hb hby d7_37) rfl rfl ?_
    refine st3 _ ?_
    show Steps p.tables e below (T3.setTop (mkF m 41 #[.val (.ref o0), .val (.int (0 : Int32)), .val (.int rw), .val (.double vl), .second] [(.ref fa3)])) _
    refine XS.iloadN X3.here hx rfl (hb hby d7_41) rfl ?_
    refine XS.iloadN X3.here hx rfl (hb hby d7_42) rfl ?_
    refine st5 _ ?_
    show Steps p.tables e below (T5.setTop (mkF m 44 #[.val (.ref o0), .val (.int (0 : Int32)), .val (.int rw), .val (.double vl), .second] [])) _
    refine XS.aloadN X5.here hx rfl (hb hby d7_44) rfl rfl ?_
    show Steps p.tables e below (T5.setTop (mkF m 45 #[.val (.ref o0), .val (.int (0 : Int32)), .val (.int rw), .val (.double vl), .second] [(.ref o0)])) _
    refine st12 _ ?_
    show Steps p.tables e below (T12.setTop (mkF m 48 #[.val (.ref o0), .val (.int (0 : Int32)), .val (.int rw), .val (.double vl), .second] [(.ref fa4)])) _
    refine XS.iloadN X12.here hx rfl (hb hby d7_48) rfl ?_
    refine XS.dloadN X12.here hx rfl (hb hby d7_49) rfl ?_
    refine st14 _ ?_
    show Steps p.tables e below (T14.setTop (mkF m 51 #[.val (.ref o0), .val (.int (0 : Int32)), .val (.int rw), .val (.double vl), .second] [])) _
    refine XS.iloadN X14.here hx rfl (hb hby d7_51) rfl ?_
    refine XS.iconst X14.here hx rfl (hb hby d7_52) ?_
    show Steps p.tables e below (T14.setTop (mkF m 53 #[.val (.ref o0), .val (.int (0 : Int32)), .val (.int rw), .val (.double vl), .second] [(.int (1 : Int32)), (.int (0 : Int32))])) _
    refine XS.iadd X14.here hx rfl (hb hby d7_53) rfl ?_
    show Steps p.tables e below (T14.setTop (mkF m 54 #[.val (.ref o0), .val (.int (0 : Int32)), .val (.int rw), .val (.double vl), .second] [(.int ((0 : Int32) + (1 : Int32)))])) _
    rw [show ((0 : Int32) + (1 : Int32)) = (1 : Int32) by decide]
    show Steps p.tables e below (T14.setTop (mkF m 54 #[.val (.ref o0), .val (.int (0 : Int32)), .val (.int rw), .val (.double vl), .second] [(.int (1 : Int32))])) _
    exact retOut X14 hx Bd.returns rfl (Or.inl ⟨rfl, Or.inl rfl, _, rfl⟩) (hb hby d7_54) hr
  · show Q_kp0 Z o0 fa3 fa4 kfa3 kfa4 gd0 gd1 gd2 gd3 ge0 ge1 ge2 ge3 rw vl cn h0 n0 _ T14.heap _
    rw [e14]
    exact ⟨rfl, N14, K14, f19, f20⟩
theorem ef_7_Rl_1___Int32_ID (m : MethodId) (x0 : Addr) (x2 : Int32) (x3 : UInt64) : entryFrame m #[(.ref x0), (.int (1 : Int32)), (.int x2), (.double x3)] 5 = mkF m 0 #[.val (.ref x0), .val (.int (1 : Int32)), .val (.int x2), .val (.double x3), .second] [] := by first | (simp [entryFrame, mkF, argsToLocals, Value.category]; done) | rfl
def Q_kp1 (Z : State) (o0 : Addr) (fa3 : Addr) (fa4 : Addr) (kfa3 : ClassId) (kfa4 : ClassId) (gd0 : Int32) (gd1 : Int32) (gd2 : Int32) (gd3 : Int32) (ge0 : UInt64) (ge1 : UInt64) (ge2 : UInt64) (ge3 : UInt64) (rw : Int32) (vl : UInt64) (cn : Int32) (h0 : Heap) (n0 : Nat) (v : Option Value) (h : Heap) (L : List Loc) : Prop := v = some (.int (2 : Int32)) ∧ Fr n0 L ∧ Keep h0 h [fa3, fa4] ∧ Arv Z h fa3 kfa3 .int (64 : Int32) [(.int gd0), (.int rw), (.int gd2), (.int gd3)] (.int (0 : Int32)) ∧ Arv Z h fa4 kfa4 .double (64 : Int32) [(.double ge0), (.double vl), (.double ge2), (.double ge3)] (.double (0 : UInt64))
set_option maxRecDepth 65536 in
set_option maxHeartbeats 40000000 in
theorem kp1 (l : Launch) (Z : State) (a0 : Array Value) (hw : ∀ d ∈ tables_1, d.before a0 Z = true) (ws : List Jvm.Cond) (o0 : Addr) (fa3 : Addr) (fa4 : Addr) (kfa3 : ClassId) (kfa4 : ClassId) (gd0 : Int32) (gd1 : Int32) (gd2 : Int32) (gd3 : Int32) (ge0 : UInt64) (ge1 : UInt64) (ge2 : UInt64) (ge3 : UInt64) (rw : Int32) (vl : UInt64) (cn : Int32) (h0 : Heap) (n0 : Nat) (Z0 : n0 ≤ h0.size) (F_termRows_o0 : Fld Z h0 o0 "com/example/leeway/leeway/lp/BasisInverse" "termRows" "[I" (.ref fa3)) (F_termValues_o0 : Fld Z h0 o0 "com/example/leeway/leeway/lp/BasisInverse" "termValues" "[D" (.ref fa4)) (F_count_o0 : Fld Z h0 o0 "com/example/leeway/leeway/lp/BasisInverse" "count" "I" (.int cn)) (E_o0 : Exa Z h0 o0 "com/example/leeway/leeway/lp/BasisInverse") (V_fa3 : Arv Z h0 fa3 kfa3 .int (64 : Int32) [(.int gd0), (.int gd1), (.int gd2), (.int gd3)] (.int (0 : Int32))) (V_fa4 : Arv Z h0 fa4 kfa4 .double (64 : Int32) [(.double ge0), (.double ge1), (.double ge2), (.double ge3)] (.double (0 : UInt64))) (g_o0 : n0 ≤ o0) (g_fa3 : n0 ≤ fa3) (g_fa4 : n0 ≤ fa4) (ne_o0_fa3 : o0 ≠ fa3) (ne_o0_fa4 : o0 ≠ fa4) (ne_fa3_fa4 : fa3 ≠ fa4) :
    MetFree l (⟨"com/example/leeway/leeway/lp/BasisInverse", "keep", "(IID)I"⟩ : MethodName) (head1 (Jvm.Cond.code (⟨"com/example/leeway/leeway/lp/BasisInverse", "keep", "(IID)I"⟩ : MethodName) prog_85_method_6_code 5 (some .int) :: ws) ({ frames := 0, cells := 0, slots := 0, locals := 0 } : Room)) (fun a U => a = #[(.ref o0), (.int (1 : Int32)), (.int rw), (.double vl)] ∧ Z.Warmed39 U.vm ∧ U.heap = h0) (fun _ _ _ _ _ => True) (fun _ U o U' => ∃ v L, o = .returned v ∧ Q_kp1 Z o0 fa3 fa4 kfa3 kfa4 gd0 gd1 gd2 gd3 ge0 ge1 ge2 ge3 rw vl cn h0 n0 v U'.heap L ∧ FrameEnd U o U' L ({ frames := 0, cells := 0, slots := 0, locals := 0 } : Room).cells ({ frames := 0, cells := 0, slots := 0, locals := 0 } : Room).slots) := by
  refine MetFree.of_bodySF (plainFor_of_name pn_com_example_leeway_leeway_lp_BasisInverse) hisR ?_
  intro p e s m args below meth c s₁ Bd hml0 hP hK
  obtain ⟨rfl, hZ, hh⟩ := hP
  have hx := Bd.exec
  have hby := Bd.bytes
  have hml : c.maxLocals = 5 := hml0
  have hown : s.vm.findClass "com/example/leeway/leeway/lp/BasisInverse" = some m.cls := findClass_of_methodNamed Bd.named
  have hnm := (name_of_methodNamed Bd.named Bd.method).1
  have X0 : Stand p l e ({ frames := 0, cells := 0, slots := 0, locals := 0 } : Room) s m #[(.ref o0), (.int (1 : Int32)), (.int rw), (.double vl)] below meth c s₁ [] 0 0 := Stand.of_body Bd
  have e0 : s₁.heap = h0 := by rw [← hh, Bd.state]; rfl
  have N0 := Fr.nil n0
  have pre0 : ∀ t, Steps p.tables e below (s₁.setTop (mkF m 0 #[.val (.ref o0), .val (.int (1 : Int32)), .val (.int rw), .val (.double vl), .second] [])) t → Steps p.tables e below (s₁.setTop (entryFrame m #[(.ref o0), (.int (1 : Int32)), (.int rw), (.double vl)] 5)) t := fun t k => castTop (ef_7_Rl_1___Int32_ID m o0 rw vl) k
  obtain ⟨T1, X1, e1, st1⟩ := getF X0 hx hZ hown (host := "") (Or.inl (hw _ (List.mem_of_getElem? (i := 21) rfl))) Via.refl e0 F_termRows_o0 (g := (mkF m 2 #[.val (.ref o0), .val (.int (1 : Int32)), .val (.int rw), .val (.double vl), .second] [(.ref o0), (.int (1 : Int32))])) rfl rfl (hb hby d7_2)
  obtain ⟨cq2, Arq2, -, Sq2, Nq2, -, -⟩ := id V_fa3
  obtain ⟨T3, X3, e3, st3⟩ := getF X1 hx hZ hown (host := "") (Or.inl (hw _ (List.mem_of_getElem? (i := 21) rfl))) Via.refl e1 F_termRows_o0 (g := (mkF m 38 #[.val (.ref o0), .val (.int (1 : Int32)), .val (.int rw), .val (.double vl), .second] [(.ref o0)])) rfl rfl (hb hby d7_38)
  obtain ⟨cq4, Arq4, qq4, Sq4, Nq4, Hq4, Gq4⟩ := id V_fa3
  obtain ⟨T5, h5, X5, e5, W5, st5⟩ := stI X3 hx hZ e3 Arq4 (j := (1 : Int32)) (inb_of Sq4 ⟨by decide, by decide⟩) (g := (mkF m 43 #[.val (.ref o0), .val (.int (1 : Int32)), .val (.int rw), .val (.double vl), .second] [(.int rw), (.int (1 : Int32)), (.ref fa3)])) rfl rfl (hb hby d7_43)
  have f6 := F_termRows_o0.other W5 (Or.inl ne_o0_fa3)
  have f7 := F_termValues_o0.other W5 (Or.inl ne_o0_fa3)
  have f8 := F_count_o0.other W5 (Or.inl ne_o0_fa3)
  have f9 := E_o0.wr W5
  have f10 := V_fa4.other W5 (Ne.symm ne_fa3_fa4)
  have K5 : Keep h0 h5 [fa3, fa4] := (Keep.refl h0 [fa3, fa4]).wr W5 (Or.inl (List.mem_of_getElem? (i := 0) rfl))
  have Zs5 := Nat.le_trans Z0 (Keep.of_wr W5).1
  have N5 := Fr.snoc X5 N0 g_fa3
  have f11 : Arv Z h5 fa3 kfa3 .int (64 : Int32) [(.int gd0), (.int rw), (.int gd2), (.int gd3)] (.int (0 : Int32)) := Arv.set Arq4 qq4 Sq4 Nq4 Hq4 Gq4 rfl W5 1 rfl (Nat.le_of_ble_eq_true rfl)
  obtain ⟨T12, X12, e12, st12⟩ := getF X5 hx hZ hown (host := "") (Or.inl (hw _ (List.mem_of_getElem? (i := 23) rfl))) Via.refl e5 f7 (g := (mkF m 45 #[.val (.ref o0), .val (.int (1 : Int32)), .val (.int rw), .val (.double vl), .second] [(.ref o0)])) rfl rfl (hb hby d7_45)
  obtain ⟨cq13, Arq13, qq13, Sq13, Nq13, Hq13, Gq13⟩ := id f10
  obtain ⟨T14, h14, X14, e14, W14, st14⟩ := stD X12 hx hZ e12 Arq13 (j := (1 : Int32)) (inb_of Sq13 ⟨by decide, by decide⟩) (g := (mkF m 50 #[.val (.ref o0), .val (.int (1 : Int32)), .val (.int rw), .val (.double vl), .second] [(.double vl), (.int (1 : Int32)), (.ref fa4)])) rfl rfl (hb hby d7_50)
  have f15 := f6.other W14 (Or.inl ne_o0_fa4)
  have f16 := f7.other W14 (Or.inl ne_o0_fa4)
  have f17 := f8.other W14 (Or.inl ne_o0_fa4)
  have f18 := f9.wr W14
  have f19 := f11.other W14 ne_fa3_fa4
  have K14 : Keep h0 h14 [fa3, fa4] := K5.wr W14 (Or.inl (List.mem_of_getElem? (i := 1) rfl))
  have Zs14 := Nat.le_trans Zs5 (Keep.of_wr W14).1
  have N14 := Fr.snoc X14 N5 g_fa4
  have f20 : Arv Z h14 fa4 kfa4 .double (64 : Int32) [(.double ge0), (.double vl), (.double ge2), (.double ge3)] (.double (0 : UInt64)) := Arv.set Arq13 qq13 Sq13 Nq13 Hq13 Gq13 rfl W14 1 rfl (Nat.le_of_ble_eq_true rfl)
  obtain ⟨fs, hr, hrun, hended, hW, hsame⟩ := X14.leave (v := some (.int (2 : Int32))) (fun h => by rw [Bd.returns] at h; cases h)
  refine ⟨_, _, pre0 _ ?_, hrun, hended, _, _, rfl, ?_, ⟨_, rfl⟩, hW, hsame.mono (by decide) (by decide)⟩
  · show Steps p.tables e below (s₁.setTop (mkF m 0 #[.val (.ref o0), .val (.int (1 : Int32)), .val (.int rw), .val (.double vl), .second] [])) _
    refine XS.iloadN X0.here hx rfl (hb hby d7_0) rfl ?_
    refine XS.aloadN X0.here hx rfl (hb hby d7_1) rfl rfl ?_
    refine st1 _ ?_
    show Steps p.tables e below (T1.setTop (mkF m 5 #[.val (.ref o0), .val (.int (1 : Int32)), .val (.int rw), .val (.double vl), .second] [(.ref fa3), (.int (1 : Int32))])) _
    refine X1.arraylength hx (by rw [e1]; exact Arq2.1) (State.isArrayOf_alike hZ.alike Arq2.2.1) (g := (mkF m 5 #[.val (.ref o0), .val (.int (1 : Int32)), .val (.int rw), .val (.double vl), .second] [(.ref fa3), (.int (1 : Int32))])) rfl rfl (hb hby d7_5) _ ?_
    rw [len_of Sq2 Nq2]
    show Steps p.tables e below (T1.setTop (mkF m 6 #[.val (.ref o0), .val (.int (1 : Int32)), .val (.int rw), .val (.double vl), .second] [(.int (64 : Int32)), (.int (1 : Int32))])) _
    refine XS.icmpYes X1.here hx rfl (pc0 := 6) (pc' := 37) rfl (hb hby d7_6) rfl (feq (by decide : ¬ ((1 : Int32) = (64 : Int32)))).2 (by decide) (by decide) ?_
    show Steps p.tables e below (T1.setTop (mkF m 37 #[.val (.ref o0), .val (.int (1 : Int32)), .val (.int rw), .val (.double vl), .second] [])) _
    refine XS.aloadN X1.here hx rfl (hb hby d7_37) rfl rfl ?_
    refine st3 _ ?_
    show Steps p.tables e below (T3.setTop (mkF m 41 #[.val (.ref o0), .val (.int (1 : Int32)), .val (.int rw), .val (.double vl), .second] [(.ref fa3)])) _
    refine XS.iloadN X3.here hx rfl (hb hby d7_41) rfl ?_
    refine XS.iloadN X3.here hx rfl (hb hby d7_42) rfl ?_
    refine st5 _ ?_
    show Steps p.tables e below (T5.setTop (mkF m 44 #[.val (.ref o0), .val (.int (1 : Int32)), .val (.int rw), .val (.double vl), .second] [])) _
    refine XS.aloadN X5.here hx rfl (hb hby d7_44) rfl rfl ?_
    show Steps p.tables e below (T5.setTop (mkF m 45 #[.val (.ref o0), .val (.int (1 : Int32)), .val (.int rw), .val (.double vl), .second] [(.ref o0)])) _
    refine st12 _ ?_
    show Steps p.tables e below (T12.setTop (mkF m 48 #[.val (.ref o0), .val (.int (1 : Int32)), .val (.int rw), .val (.double vl), .second] [(.ref fa4)])) _
    refine XS.iloadN X12.here hx rfl (hb hby d7_48) rfl ?_
    refine XS.dloadN X12.here hx rfl (hb hby d7_49) rfl ?_
    refine st14 _ ?_
    show Steps p.tables e below (T14.setTop (mkF m 51 #[.val (.ref o0), .val (.int (1 : Int32)), .val (.int rw), .val (.double vl), .second] [])) _
    refine XS.iloadN X14.here hx rfl (hb hby d7_51) rfl ?_
    refine XS.iconst X14.here hx rfl (hb hby d7_52) ?_
    show Steps p.tables e below (T14.setTop (mkF m 53 #[.val (.ref o0), .val (.int (1 : Int32)), .val (.int rw), .val (.double vl), .second] [(.int (1 : Int32)), (.int (1 : Int32))])) _
    refine XS.iadd X14.here hx rfl (hb hby d7_53) rfl ?_
    show Steps p.tables e below (T14.setTop (mkF m 54 #[.val (.ref o0), .val (.int (1 : Int32)), .val (.int rw), .val (.double vl), .second] [(.int ((1 : Int32) + (1 : Int32)))])) _
    rw [show ((1 : Int32) + (1 : Int32)) = (2 : Int32) by decide]
    show Steps p.tables e below (T14.setTop (mkF m 54 #[.val (.ref o0), .val (.int (1 : Int32)), .val (.int rw), .val (.double vl), .second] [(.int (2 : Int32))])) _
    exact retOut X14 hx Bd.returns rfl (Or.inl ⟨rfl, Or.inl rfl, _, rfl⟩) (hb hby d7_54) hr
  · show Q_kp1 Z o0 fa3 fa4 kfa3 kfa4 gd0 gd1 gd2 gd3 ge0 ge1 ge2 ge3 rw vl cn h0 n0 _ T14.heap _
    rw [e14]
    exact ⟨rfl, N14, K14, f19, f20⟩
theorem ef_7_Rl_2___Int32_ID (m : MethodId) (x0 : Addr) (x2 : Int32) (x3 : UInt64) : entryFrame m #[(.ref x0), (.int (2 : Int32)), (.int x2), (.double x3)] 5 = mkF m 0 #[.val (.ref x0), .val (.int (2 : Int32)), .val (.int x2), .val (.double x3), .second] [] := by first | (simp [entryFrame, mkF, argsToLocals, Value.category]; done) | rfl
def Q_kp2 (Z : State) (o0 : Addr) (fa3 : Addr) (fa4 : Addr) (kfa3 : ClassId) (kfa4 : ClassId) (gd0 : Int32) (gd1 : Int32) (gd2 : Int32) (gd3 : Int32) (ge0 : UInt64) (ge1 : UInt64) (ge2 : UInt64) (ge3 : UInt64) (rw : Int32) (vl : UInt64) (cn : Int32) (h0 : Heap) (n0 : Nat) (v : Option Value) (h : Heap) (L : List Loc) : Prop := v = some (.int (3 : Int32)) ∧ Fr n0 L ∧ Keep h0 h [fa3, fa4] ∧ Arv Z h fa3 kfa3 .int (64 : Int32) [(.int gd0), (.int gd1), (.int rw), (.int gd3)] (.int (0 : Int32)) ∧ Arv Z h fa4 kfa4 .double (64 : Int32) [(.double ge0), (.double ge1), (.double vl), (.double ge3)] (.double (0 : UInt64))
set_option maxRecDepth 65536 in
set_option maxHeartbeats 40000000 in
theorem kp2 (l : Launch) (Z : State) (a0 : Array Value) (hw : ∀ d ∈ tables_1, d.before a0 Z = true) (ws : List Jvm.Cond) (o0 : Addr) (fa3 : Addr) (fa4 : Addr) (kfa3 : ClassId) (kfa4 : ClassId) (gd0 : Int32) (gd1 : Int32) (gd2 : Int32) (gd3 : Int32) (ge0 : UInt64) (ge1 : UInt64) (ge2 : UInt64) (ge3 : UInt64) (rw : Int32) (vl : UInt64) (cn : Int32) (h0 : Heap) (n0 : Nat) (Z0 : n0 ≤ h0.size) (F_termRows_o0 : Fld Z h0 o0 "com/example/leeway/leeway/lp/BasisInverse" "termRows" "[I" (.ref fa3)) (F_termValues_o0 : Fld Z h0 o0 "com/example/leeway/leeway/lp/BasisInverse" "termValues" "[D" (.ref fa4)) (F_count_o0 : Fld Z h0 o0 "com/example/leeway/leeway/lp/BasisInverse" "count" "I" (.int cn)) (E_o0 : Exa Z h0 o0 "com/example/leeway/leeway/lp/BasisInverse") (V_fa3 : Arv Z h0 fa3 kfa3 .int (64 : Int32) [(.int gd0), (.int gd1), (.int gd2), (.int gd3)] (.int (0 : Int32))) (V_fa4 : Arv Z h0 fa4 kfa4 .double (64 : Int32) [(.double ge0), (.double ge1), (.double ge2), (.double ge3)] (.double (0 : UInt64))) (g_o0 : n0 ≤ o0) (g_fa3 : n0 ≤ fa3) (g_fa4 : n0 ≤ fa4) (ne_o0_fa3 : o0 ≠ fa3) (ne_o0_fa4 : o0 ≠ fa4) (ne_fa3_fa4 : fa3 ≠ fa4) :
    MetFree l (⟨"com/example/leeway/leeway/lp/BasisInverse", "keep", "(IID)I"⟩ : MethodName) (head1 (Jvm.Cond.code (⟨"com/example/leeway/leeway/lp/BasisInverse", "keep", "(IID)I"⟩ : MethodName) prog_85_method_6_code 5 (some .int) :: ws) ({ frames := 0, cells := 0, slots := 0, locals := 0 } : Room)) (fun a U => a = #[(.ref o0), (.int (2 : Int32)), (.int rw), (.double vl)] ∧ Z.Warmed39 U.vm ∧ U.heap = h0) (fun _ _ _ _ _ => True) (fun _ U o U' => ∃ v L, o = .returned v ∧ Q_kp2 Z o0 fa3 fa4 kfa3 kfa4 gd0 gd1 gd2 gd3 ge0 ge1 ge2 ge3 rw vl cn h0 n0 v U'.heap L ∧ FrameEnd U o U' L ({ frames := 0, cells := 0, slots := 0, locals := 0 } : Room).cells ({ frames := 0, cells := 0, slots := 0, locals := 0 } : Room).slots) := by
  refine MetFree.of_bodySF (plainFor_of_name pn_com_example_leeway_leeway_lp_BasisInverse) hisR ?_
  intro p e s m args below meth c s₁ Bd hml0 hP hK
  obtain ⟨rfl, hZ, hh⟩ := hP
  have hx := Bd.exec
  have hby := Bd.bytes
  have hml : c.maxLocals = 5 := hml0
  have hown : s.vm.findClass "com/example/leeway/leeway/lp/BasisInverse" = some m.cls := findClass_of_methodNamed Bd.named
  have hnm := (name_of_methodNamed Bd.named Bd.method).1
  have X0 : Stand p l e ({ frames := 0, cells := 0, slots := 0, locals := 0 } : Room) s m #[(.ref o0), (.int (2 : Int32)), (.int rw), (.double vl)] below meth c s₁ [] 0 0 := Stand.of_body Bd
  have e0 : s₁.heap = h0 := by rw [← hh, Bd.state]; rfl
  have N0 := Fr.nil n0
  have pre0 : ∀ t, Steps p.tables e below (s₁.setTop (mkF m 0 #[.val (.ref o0), .val (.int (2 : Int32)), .val (.int rw), .val (.double vl), .second] [])) t → Steps p.tables e below (s₁.setTop (entryFrame m #[(.ref o0), (.int (2 : Int32)), (.int rw), (.double vl)] 5)) t := fun t k => castTop (ef_7_Rl_2___Int32_ID m o0 rw vl) k
  obtain ⟨T1, X1, e1, st1⟩ := getF X0 hx hZ hown (host := "") (Or.inl (hw _ (List.mem_of_getElem? (i := 21) rfl))) Via.refl e0 F_termRows_o0 (g := (mkF m 2 #[.val (.ref o0), .val (.int (2 : Int32)), .val (.int rw), .val (.double vl), .second] [(.ref o0), (.int (2 : Int32))])) rfl rfl (hb hby d7_2)
  obtain ⟨cq2, Arq2, -, Sq2, Nq2, -, -⟩ := id V_fa3
  obtain ⟨T3, X3, e3, st3⟩ := getF X1 hx hZ hown (host := "") (Or.inl (hw _ (List.mem_of_getElem? (i := 21) rfl))) Via.refl e1 F_termRows_o0 (g := (mkF m 38 #[.val (.ref o0), .val (.int (2 : Int32)), .val (.int rw), .val (.double vl), .second] [(.ref o0)])) rfl rfl (hb hby d7_38)
  obtain ⟨cq4, Arq4, qq4, Sq4, Nq4, Hq4, Gq4⟩ := id V_fa3
  obtain ⟨T5, h5, X5, e5, W5, st5⟩ := stI X3 hx hZ e3 Arq4 (j := (2 : Int32)) (inb_of Sq4 ⟨by decide, by decide⟩) (g := (mkF m 43 #[.val (.ref o0), .val (.int (2 : Int32)), .val (.int rw), .val (.double vl), .second] [(.int rw), (.int (2 : Int32)), (.ref fa3)])) rfl rfl (hb hby d7_43)
  have f6 := F_termRows_o0.other W5 (Or.inl ne_o0_fa3)
  have f7 := F_termValues_o0.other W5 (Or.inl ne_o0_fa3)
  have f8 := F_count_o0.other W5 (Or.inl ne_o0_fa3)
  have f9 := E_o0.wr W5
  have f10 := V_fa4.other W5 (Ne.symm ne_fa3_fa4)
  have K5 : Keep h0 h5 [fa3, fa4] := (Keep.refl h0 [fa3, fa4]).wr W5 (Or.inl (List.mem_of_getElem? (i := 0) rfl))
  have Zs5 := Nat.le_trans Z0 (Keep.of_wr W5).1
  have N5 := Fr.snoc X5 N0 g_fa3
  have f11 : Arv Z h5 fa3 kfa3 .int (64 : Int32) [(.int gd0), (.int gd1), (.int rw), (.int gd3)] (.int (0 : Int32)) := Arv.set Arq4 qq4 Sq4 Nq4 Hq4 Gq4 rfl W5 2 rfl (Nat.le_of_ble_eq_true rfl)
  obtain ⟨T12, X12, e12, st12⟩ := getF X5 hx hZ hown (host := "") (Or.inl (hw _ (List.mem_of_getElem? (i := 23) rfl))) Via.refl e5 f7 (g := (mkF m 45 #[.val (.ref o0), .val (.int (2 : Int32)), .val (.int rw), .val (.double vl), .second] [(.ref o0)])) rfl rfl (hb hby d7_45)
  obtain ⟨cq13, Arq13, qq13, Sq13, Nq13, Hq13, Gq13⟩ := id f10
  obtain ⟨T14, h14, X14, e14, W14, st14⟩ := stD X12 hx hZ e12 Arq13 (j := (2 : Int32)) (inb_of Sq13 ⟨by decide, by decide⟩) (g := (mkF m 50 #[.val (.ref o0), .val (.int (2 : Int32)), .val (.int rw), .val (.double vl), .second] [(.double vl), (.int (2 : Int32)), (.ref fa4)])) rfl rfl (hb hby d7_50)
  have f15 := f6.other W14 (Or.inl ne_o0_fa4)
  have f16 := f7.other W14 (Or.inl ne_o0_fa4)
  have f17 := f8.other W14 (Or.inl ne_o0_fa4)
  have f18 := f9.wr W14
  have f19 := f11.other W14 ne_fa3_fa4
  have K14 : Keep h0 h14 [fa3, fa4] := K5.wr W14 (Or.inl (List.mem_of_getElem? (i := 1) rfl))
  have Zs14 := Nat.le_trans Zs5 (Keep.of_wr W14).1
  have N14 := Fr.snoc X14 N5 g_fa4
  have f20 : Arv Z h14 fa4 kfa4 .double (64 : Int32) [(.double ge0), (.double ge1), (.double vl), (.double ge3)] (.double (0 : UInt64)) := Arv.set Arq13 qq13 Sq13 Nq13 Hq13 Gq13 rfl W14 2 rfl (Nat.le_of_ble_eq_true rfl)
  obtain ⟨fs, hr, hrun, hended, hW, hsame⟩ := X14.leave (v := some (.int (3 : Int32))) (fun h => by rw [Bd.returns] at h; cases h)
  refine ⟨_, _, pre0 _ ?_, hrun, hended, _, _, rfl, ?_, ⟨_, rfl⟩, hW, hsame.mono (by decide) (by decide)⟩
  · show Steps p.tables e below (s₁.setTop (mkF m 0 #[.val (.ref o0), .val (.int (2 : Int32)), .val (.int rw), .val (.double vl), .second] [])) _
    refine XS.iloadN X0.here hx rfl (hb hby d7_0) rfl ?_
    refine XS.aloadN X0.here hx rfl (hb hby d7_1) rfl rfl ?_
    refine st1 _ ?_
    show Steps p.tables e below (T1.setTop (mkF m 5 #[.val (.ref o0), .val (.int (2 : Int32)), .val (.int rw), .val (.double vl), .second] [(.ref fa3), (.int (2 : Int32))])) _
    refine X1.arraylength hx (by rw [e1]; exact Arq2.1) (State.isArrayOf_alike hZ.alike Arq2.2.1) (g := (mkF m 5 #[.val (.ref o0), .val (.int (2 : Int32)), .val (.int rw), .val (.double vl), .second] [(.ref fa3), (.int (2 : Int32))])) rfl rfl (hb hby d7_5) _ ?_
    rw [len_of Sq2 Nq2]
    show Steps p.tables e below (T1.setTop (mkF m 6 #[.val (.ref o0), .val (.int (2 : Int32)), .val (.int rw), .val (.double vl), .second] [(.int (64 : Int32)), (.int (2 : Int32))])) _
    refine XS.icmpYes X1.here hx rfl (pc0 := 6) (pc' := 37) rfl (hb hby d7_6) rfl (feq (by decide : ¬ ((2 : Int32) = (64 : Int32)))).2 (by decide) (by decide) ?_
    show Steps p.tables e below (T1.setTop (mkF m 37 #[.val (.ref o0), .val (.int (2 : Int32)), .val (.int rw), .val (.double vl), .second] [])) _
    refine XS.aloadN X1.here hx rfl (hb hby d7_37) rfl rfl ?_
    refine st3 _ ?_
    show Steps p.tables e below (T3.setTop (mkF m 41 #[.val (.ref o0), .val (.int (2 : Int32)), .val (.int rw), .val (.double vl), .second] [(.ref fa3)])) _
    refine XS.iloadN X3.here hx rfl (hb hby d7_41) rfl ?_
    refine XS.iloadN X3.here hx rfl (hb hby d7_42) rfl ?_
    refine st5 _ ?_
    show Steps p.tables e below (T5.setTop (mkF m 44 #[.val (.ref o0), .val (.int (2 : Int32)), .val (.int rw), .val (.double vl), .second] [])) _
    refine XS.aloadN X5.here hx rfl (hb hby d7_44) rfl rfl ?_
    show Steps p.tables e below (T5.setTop (mkF m 45 #[.val (.ref o0), .val (.int (2 : Int32)), .val (.int rw), .val (.double vl), .second] [(.ref o0)])) _
    refine st12 _ ?_
    show Steps p.tables e below (T12.setTop (mkF m 48 #[.val (.ref o0), .val (.int (2 : Int32)), .val (.int rw), .val (.double vl), .second] [(.ref fa4)])) _
    refine XS.iloadN X12.here hx rfl (hb hby d7_48) rfl ?_
    refine XS.dloadN X12.here hx rfl (hb hby d7_49) rfl ?_
    refine st14 _ ?_
    show Steps p.tables e below (T14.setTop (mkF m 51 #[.val (.ref o0), .val (.int (2 : Int32)), .val (.int rw), .val (.double vl), .second] [])) _
    refine XS.iloadN X14.here hx rfl (hb hby d7_51) rfl ?_
    refine XS.iconst X14.here hx rfl (hb hby d7_52) ?_
    show Steps p.tables e below (T14.setTop (mkF m 53 #[.val (.ref o0), .val (.int (2 : Int32)), .val (.int rw), .val (.double vl), .second] [(.int (1 : Int32)), (.int (2 : Int32))])) _
    refine XS.iadd X14.here hx rfl (hb hby d7_53) rfl ?_
    show Steps p.tables e below (T14.setTop (mkF m 54 #[.val (.ref o0), .val (.int (2 : Int32)), .val (.int rw), .val (.double vl), .second] [(.int ((2 : Int32) + (1 : Int32)))])) _
    rw [show ((2 : Int32) + (1 : Int32)) = (3 : Int32) by decide]
    show Steps p.tables e below (T14.setTop (mkF m 54 #[.val (.ref o0), .val (.int (2 : Int32)), .val (.int rw), .val (.double vl), .second] [(.int (3 : Int32))])) _
    exact retOut X14 hx Bd.returns rfl (Or.inl ⟨rfl, Or.inl rfl, _, rfl⟩) (hb hby d7_54) hr
  · show Q_kp2 Z o0 fa3 fa4 kfa3 kfa4 gd0 gd1 gd2 gd3 ge0 ge1 ge2 ge3 rw vl cn h0 n0 _ T14.heap _
    rw [e14]
    exact ⟨rfl, N14, K14, f19, f20⟩
theorem d8_0 : decode prog_85_method_7_code 0 = .ok (.aload_n 0, 1) := by decide +kernel
theorem d8_1 : decode prog_85_method_7_code 1 = .ok (.getfield 26, 3) := by decide +kernel
theorem d8_4 : decode prog_85_method_7_code 4 = .ok (.aload_n 0, 1) := by decide +kernel
theorem d8_5 : decode prog_85_method_7_code 5 = .ok (.getfield 7, 3) := by decide +kernel
theorem d8_8 : decode prog_85_method_7_code 8 = .ok (.arraylength, 1) := by decide +kernel
theorem d8_9 : decode prog_85_method_7_code 9 = .ok (.if_icmp .ne 52, 3) := by decide +kernel
theorem d8_61 : decode prog_85_method_7_code 61 = .ok (.aload_n 0, 1) := by decide +kernel
theorem d8_62 : decode prog_85_method_7_code 62 = .ok (.getfield 7, 3) := by decide +kernel
theorem d8_65 : decode prog_85_method_7_code 65 = .ok (.aload_n 0, 1) := by decide +kernel
theorem d8_66 : decode prog_85_method_7_code 66 = .ok (.getfield 26, 3) := by decide +kernel
theorem d8_69 : decode prog_85_method_7_code 69 = .ok (.iload_n 1, 1) := by decide +kernel
theorem d8_70 : decode prog_85_method_7_code 70 = .ok (.iastore, 1) := by decide +kernel
theorem d8_71 : decode prog_85_method_7_code 71 = .ok (.aload_n 0, 1) := by decide +kernel
theorem d8_72 : decode prog_85_method_7_code 72 = .ok (.getfield 13, 3) := by decide +kernel
theorem d8_75 : decode prog_85_method_7_code 75 = .ok (.aload_n 0, 1) := by decide +kernel
theorem d8_76 : decode prog_85_method_7_code 76 = .ok (.getfield 26, 3) := by decide +kernel
theorem d8_79 : decode prog_85_method_7_code 79 = .ok (.dload_n 2, 1) := by decide +kernel
theorem d8_80 : decode prog_85_method_7_code 80 = .ok (.dastore, 1) := by decide +kernel
theorem d8_81 : decode prog_85_method_7_code 81 = .ok (.aload_n 0, 1) := by decide +kernel
theorem d8_82 : decode prog_85_method_7_code 82 = .ok (.getfield 17, 3) := by decide +kernel
theorem d8_85 : decode prog_85_method_7_code 85 = .ok (.aload_n 0, 1) := by decide +kernel
theorem d8_86 : decode prog_85_method_7_code 86 = .ok (.dup, 1) := by decide +kernel
theorem d8_87 : decode prog_85_method_7_code 87 = .ok (.getfield 26, 3) := by decide +kernel
theorem d8_90 : decode prog_85_method_7_code 90 = .ok (.iconst 1, 1) := by decide +kernel
theorem d8_91 : decode prog_85_method_7_code 91 = .ok (.iadd, 1) := by decide +kernel
theorem d8_92 : decode prog_85_method_7_code 92 = .ok (.dup_x1, 1) := by decide +kernel
theorem d8_93 : decode prog_85_method_7_code 93 = .ok (.putfield 26, 3) := by decide +kernel
theorem so_BasisInverse_pivotRows_count {Z : State} {a0 : Array Value} (hw : ∀ d ∈ tables_1, d.before a0 Z = true) : Jvm.RoadKit.slotOf Z "com/example/leeway/leeway/lp/BasisInverse" "pivotRows" "[I" ≠ Jvm.RoadKit.slotOf Z "com/example/leeway/leeway/lp/BasisInverse" "count" "I" := slot_ne (Or.inl (hw _ (List.mem_of_getElem? (i := 16) rfl))) (Or.inl (hw _ (List.mem_of_getElem? (i := 31) rfl))) (by decide) (t := (.array .int)) (t' := .int) (by decide) (by decide)
theorem so_BasisInverse_pivots_count {Z : State} {a0 : Array Value} (hw : ∀ d ∈ tables_1, d.before a0 Z = true) : Jvm.RoadKit.slotOf Z "com/example/leeway/leeway/lp/BasisInverse" "pivots" "[D" ≠ Jvm.RoadKit.slotOf Z "com/example/leeway/leeway/lp/BasisInverse" "count" "I" := slot_ne (Or.inl (hw _ (List.mem_of_getElem? (i := 18) rfl))) (Or.inl (hw _ (List.mem_of_getElem? (i := 31) rfl))) (by decide) (t := (.array .double)) (t' := .int) (by decide) (by decide)
theorem so_BasisInverse_termStart_count {Z : State} {a0 : Array Value} (hw : ∀ d ∈ tables_1, d.before a0 Z = true) : Jvm.RoadKit.slotOf Z "com/example/leeway/leeway/lp/BasisInverse" "termStart" "[I" ≠ Jvm.RoadKit.slotOf Z "com/example/leeway/leeway/lp/BasisInverse" "count" "I" := slot_ne (Or.inl (hw _ (List.mem_of_getElem? (i := 20) rfl))) (Or.inl (hw _ (List.mem_of_getElem? (i := 31) rfl))) (by decide) (t := (.array .int)) (t' := .int) (by decide) (by decide)
theorem so_BasisInverse_termRows_count {Z : State} {a0 : Array Value} (hw : ∀ d ∈ tables_1, d.before a0 Z = true) : Jvm.RoadKit.slotOf Z "com/example/leeway/leeway/lp/BasisInverse" "termRows" "[I" ≠ Jvm.RoadKit.slotOf Z "com/example/leeway/leeway/lp/BasisInverse" "count" "I" := slot_ne (Or.inl (hw _ (List.mem_of_getElem? (i := 22) rfl))) (Or.inl (hw _ (List.mem_of_getElem? (i := 31) rfl))) (by decide) (t := (.array .int)) (t' := .int) (by decide) (by decide)
theorem so_BasisInverse_termValues_count {Z : State} {a0 : Array Value} (hw : ∀ d ∈ tables_1, d.before a0 Z = true) : Jvm.RoadKit.slotOf Z "com/example/leeway/leeway/lp/BasisInverse" "termValues" "[D" ≠ Jvm.RoadKit.slotOf Z "com/example/leeway/leeway/lp/BasisInverse" "count" "I" := slot_ne (Or.inl (hw _ (List.mem_of_getElem? (i := 24) rfl))) (Or.inl (hw _ (List.mem_of_getElem? (i := 31) rfl))) (by decide) (t := (.array .double)) (t' := .int) (by decide) (by decide)
theorem d8_96 : decode prog_85_method_7_code 96 = .ok (.iload 4, 2) := by decide +kernel
theorem d8_98 : decode prog_85_method_7_code 98 = .ok (.iastore, 1) := by decide +kernel
theorem d8_99 : decode prog_85_method_7_code 99 = .ok (.return_, 1) := by decide +kernel
theorem ef_8_RIDI (m : MethodId) (x0 : Addr) (x1 : Int32) (x2 : UInt64) (x3 : Int32) : entryFrame m #[(.ref x0), (.int x1), (.double x2), (.int x3)] 6 = mkF m 0 #[.val (.ref x0), .val (.int x1), .val (.double x2), .second, .val (.int x3), .unset] [] := by first | (simp [entryFrame, mkF, argsToLocals, Value.category]; done) | rfl
def Q_cs0 (Z : State) (o0 : Addr) (fa0 : Addr) (fa1 : Addr) (fa2 : Addr) (fa3 : Addr) (fa4 : Addr) (kfa0 : ClassId) (kfa1 : ClassId) (kfa2 : ClassId) (ga0 : Int32) (ga1 : Int32) (ga2 : Int32) (ga3 : Int32) (gb0 : UInt64) (gb1 : UInt64) (gb2 : UInt64) (gb3 : UInt64) (gc0 : Int32) (gc1 : Int32) (gc2 : Int32) (gc3 : Int32) (rw : Int32) (vl : UInt64) (en : Int32) (h0 : Heap) (n0 : Nat) (v : Option Value) (h : Heap) (L : List Loc) : Prop := v = none ∧ Fr n0 L ∧ Keep h0 h [fa0, fa1, o0, fa2] ∧ Fld Z h o0 "com/example/leeway/leeway/lp/BasisInverse" "pivotRows" "[I" (.ref fa0) ∧ Fld Z h o0 "com/example/leeway/leeway/lp/BasisInverse" "pivots" "[D" (.ref fa1) ∧ Fld Z h o0 "com/example/leeway/leeway/lp/BasisInverse" "termStart" "[I" (.ref fa2) ∧ Fld Z h o0 "com/example/leeway/leeway/lp/BasisInverse" "termRows" "[I" (.ref fa3) ∧ Fld Z h o0 "com/example/leeway/leeway/lp/BasisInverse" "termValues" "[D" (.ref fa4) ∧ Fld Z h o0 "com/example/leeway/leeway/lp/BasisInverse" "count" "I" (.int (1 : Int32)) ∧ Arv Z h fa0 kfa0 .int (16 : Int32) [(.int rw), (.int ga1), (.int ga2), (.int ga3)] (.int (0 : Int32)) ∧ Arv Z h fa1 kfa1 .double (16 : Int32) [(.double vl), (.double gb1), (.double gb2), (.double gb3)] (.double (0 : UInt64)) ∧ Arv Z h fa2 kfa2 .int (17 : Int32) [(.int gc0), (.int en), (.int gc2), (.int gc3)] (.int (0 : Int32))
set_option maxRecDepth 65536 in
set_option maxHeartbeats 40000000 in
theorem cs0 (l : Launch) (Z : State) (a0 : Array Value) (hw : ∀ d ∈ tables_1, d.before a0 Z = true) (ws : List Jvm.Cond) (o0 : Addr) (fa0 : Addr) (fa1 : Addr) (fa2 : Addr) (fa3 : Addr) (fa4 : Addr) (kfa0 : ClassId) (kfa1 : ClassId) (kfa2 : ClassId) (ga0 : Int32) (ga1 : Int32) (ga2 : Int32) (ga3 : Int32) (gb0 : UInt64) (gb1 : UInt64) (gb2 : UInt64) (gb3 : UInt64) (gc0 : Int32) (gc1 : Int32) (gc2 : Int32) (gc3 : Int32) (rw : Int32) (vl : UInt64) (en : Int32) (h0 : Heap) (n0 : Nat) (Z0 : n0 ≤ h0.size) (F_pivotRows_o0 : Fld Z h0 o0 "com/example/leeway/leeway/lp/BasisInverse" "pivotRows" "[I" (.ref fa0)) (F_pivots_o0 : Fld Z h0 o0 "com/example/leeway/leeway/lp/BasisInverse" "pivots" "[D" (.ref fa1)) (F_termStart_o0 : Fld Z h0 o0 "com/example/leeway/leeway/lp/BasisInverse" "termStart" "[I" (.ref fa2)) (F_count_o0 : Fld Z h0 o0 "com/example/leeway/leeway/lp/BasisInverse" "count" "I" (.int (0 : Int32))) (E_o0 : Exa Z h0 o0 "com/example/leeway/leeway/lp/BasisInverse") (V_fa0 : Arv Z h0 fa0 kfa0 .int (16 : Int32) [(.int ga0), (.int ga1), (.int ga2), (.int ga3)] (.int (0 : Int32))) (V_fa1 : Arv Z h0 fa1 kfa1 .double (16 : Int32) [(.double gb0), (.double gb1), (.double gb2), (.double gb3)] (.double (0 : UInt64))) (V_fa2 : Arv Z h0 fa2 kfa2 .int (17 : Int32) [(.int gc0), (.int gc1), (.int gc2), (.int gc3)] (.int (0 : Int32))) (g_o0 : n0 ≤ o0) (g_fa0 : n0 ≤ fa0) (g_fa1 : n0 ≤ fa1) (g_fa2 : n0 ≤ fa2) (ne_o0_fa0 : o0 ≠ fa0) (ne_o0_fa1 : o0 ≠ fa1) (ne_o0_fa2 : o0 ≠ fa2) (ne_fa0_fa1 : fa0 ≠ fa1) (ne_fa0_fa2 : fa0 ≠ fa2) (ne_fa1_fa2 : fa1 ≠ fa2) (F_termRows_o0 : Fld Z h0 o0 "com/example/leeway/leeway/lp/BasisInverse" "termRows" "[I" (.ref fa3)) (F_termValues_o0 : Fld Z h0 o0 "com/example/leeway/leeway/lp/BasisInverse" "termValues" "[D" (.ref fa4)) :
    MetFree l (⟨"com/example/leeway/leeway/lp/BasisInverse", "close", "(IDI)V"⟩ : MethodName) (head1 (Jvm.Cond.code (⟨"com/example/leeway/leeway/lp/BasisInverse", "close", "(IDI)V"⟩ : MethodName) prog_85_method_7_code 6 none :: ws) ({ frames := 0, cells := 0, slots := 0, locals := 0 } : Room)) (fun a U => a = #[(.ref o0), (.int rw), (.double vl), (.int en)] ∧ Z.Warmed39 U.vm ∧ U.heap = h0) (fun _ _ _ _ _ => True) (fun _ U o U' => ∃ v L, o = .returned v ∧ Q_cs0 Z o0 fa0 fa1 fa2 fa3 fa4 kfa0 kfa1 kfa2 ga0 ga1 ga2 ga3 gb0 gb1 gb2 gb3 gc0 gc1 gc2 gc3 rw vl en h0 n0 v U'.heap L ∧ FrameEnd U o U' L ({ frames := 0, cells := 0, slots := 0, locals := 0 } : Room).cells ({ frames := 0, cells := 0, slots := 0, locals := 0 } : Room).slots) := by
  refine MetFree.of_bodySF (plainFor_of_name pn_com_example_leeway_leeway_lp_BasisInverse) hisR ?_
  intro p e s m args below meth c s₁ Bd hml0 hP hK
  obtain ⟨rfl, hZ, hh⟩ := hP
  have hx := Bd.exec
  have hby := Bd.bytes
  have hml : c.maxLocals = 6 := hml0
  have hown : s.vm.findClass "com/example/leeway/leeway/lp/BasisInverse" = some m.cls := findClass_of_methodNamed Bd.named
  have hnm := (name_of_methodNamed Bd.named Bd.method).1
  have X0 : Stand p l e ({ frames := 0, cells := 0, slots := 0, locals := 0 } : Room) s m #[(.ref o0), (.int rw), (.double vl), (.int en)] below meth c s₁ [] 0 0 := Stand.of_body Bd
  have e0 : s₁.heap = h0 := by rw [← hh, Bd.state]; rfl
  have N0 := Fr.nil n0
  have pre0 : ∀ t, Steps p.tables e below (s₁.setTop (mkF m 0 #[.val (.ref o0), .val (.int rw), .val (.double vl), .second, .val (.int en), .unset] [])) t → Steps p.tables e below (s₁.setTop (entryFrame m #[(.ref o0), (.int rw), (.double vl), (.int en)] 6)) t := fun t k => castTop (ef_8_RIDI m o0 rw vl en) k
  obtain ⟨T1, X1, e1, st1⟩ := getF X0 hx hZ hown (host := "") (Or.inl (hw _ (List.mem_of_getElem? (i := 30) rfl))) Via.refl e0 F_count_o0 (g := (mkF m 1 #[.val (.ref o0), .val (.int rw), .val (.double vl), .second, .val (.int en), .unset] [(.ref o0)])) rfl rfl (hb hby d8_1)
  obtain ⟨T2, X2, e2, st2⟩ := getF X1 hx hZ hown (host := "") (Or.inl (hw _ (List.mem_of_getElem? (i := 15) rfl))) Via.refl e1 F_pivotRows_o0 (g := (mkF m 5 #[.val (.ref o0), .val (.int rw), .val (.double vl), .second, .val (.int en), .unset] [(.ref o0), (.int (0 : Int32))])) rfl rfl (hb hby d8_5)
  obtain ⟨cq3, Arq3, -, Sq3, Nq3, -, -⟩ := id V_fa0
  obtain ⟨T4, X4, e4, st4⟩ := getF X2 hx hZ hown (host := "") (Or.inl (hw _ (List.mem_of_getElem? (i := 15) rfl))) Via.refl e2 F_pivotRows_o0 (g := (mkF m 62 #[.val (.ref o0), .val (.int rw), .val (.double vl), .second, .val (.int en), .unset] [(.ref o0)])) rfl rfl (hb hby d8_62)
  obtain ⟨T5, X5, e5, st5⟩ := getF X4 hx hZ hown (host := "") (Or.inl (hw _ (List.mem_of_getElem? (i := 30) rfl))) Via.refl e4 F_count_o0 (g := (mkF m 66 #[.val (.ref o0), .val (.int rw), .val (.double vl), .second, .val (.int en), .unset] [(.ref o0), (.ref fa0)])) rfl rfl (hb hby d8_66)
  obtain ⟨cq6, Arq6, qq6, Sq6, Nq6, Hq6, Gq6⟩ := id V_fa0
  obtain ⟨T7, h7, X7, e7, W7, st7⟩ := stI X5 hx hZ e5 Arq6 (j := (0 : Int32)) (inb_of Sq6 ⟨by decide, by decide⟩) (g := (mkF m 70 #[.val (.ref o0), .val (.int rw), .val (.double vl), .second, .val (.int en), .unset] [(.int rw), (.int (0 : Int32)), (.ref fa0)])) rfl rfl (hb hby d8_70)
  have f8 := F_pivotRows_o0.other W7 (Or.inl ne_o0_fa0)
  have f9 := F_pivots_o0.other W7 (Or.inl ne_o0_fa0)
  have f10 := F_termStart_o0.other W7 (Or.inl ne_o0_fa0)
  have f11 := F_count_o0.other W7 (Or.inl ne_o0_fa0)
  have f12 := E_o0.wr W7
  have f13 := V_fa1.other W7 (Ne.symm ne_fa0_fa1)
  have f14 := V_fa2.other W7 (Ne.symm ne_fa0_fa2)
  have f15 := F_termRows_o0.other W7 (Or.inl ne_o0_fa0)
  have f16 := F_termValues_o0.other W7 (Or.inl ne_o0_fa0)
  have K7 : Keep h0 h7 [fa0, fa1, o0, fa2] := (Keep.refl h0 [fa0, fa1, o0, fa2]).wr W7 (Or.inl (List.mem_of_getElem? (i := 0) rfl))
  have Zs7 := Nat.le_trans Z0 (Keep.of_wr W7).1
  have N7 := Fr.snoc X7 N0 g_fa0
  have f17 : Arv Z h7 fa0 kfa0 .int (16 : Int32) [(.int rw), (.int ga1), (.int ga2), (.int ga3)] (.int (0 : Int32)) := Arv.set Arq6 qq6 Sq6 Nq6 Hq6 Gq6 rfl W7 0 rfl (Nat.le_of_ble_eq_true rfl)
  obtain ⟨T18, X18, e18, st18⟩ := getF X7 hx hZ hown (host := "") (Or.inl (hw _ (List.mem_of_getElem? (i := 17) rfl))) Via.refl e7 f9 (g := (mkF m 72 #[.val (.ref o0), .val (.int rw), .val (.double vl), .second, .val (.int en), .unset] [(.ref o0)])) rfl rfl (hb hby d8_72)
  obtain ⟨T19, X19, e19, st19⟩ := getF X18 hx hZ hown (host := "") (Or.inl (hw _ (List.mem_of_getElem? (i := 30) rfl))) Via.refl e18 f11 (g := (mkF m 76 #[.val (.ref o0), .val (.int rw), .val (.double vl), .second, .val (.int en), .unset] [(.ref o0), (.ref fa1)])) rfl rfl (hb hby d8_76)
  obtain ⟨cq20, Arq20, qq20, Sq20, Nq20, Hq20, Gq20⟩ := id f13
  obtain ⟨T21, h21, X21, e21, W21, st21⟩ := stD X19 hx hZ e19 Arq20 (j := (0 : Int32)) (inb_of Sq20 ⟨by decide, by decide⟩) (g := (mkF m 80 #[.val (.ref o0), .val (.int rw), .val (.double vl), .second, .val (.int en), .unset] [(.double vl), (.int (0 : Int32)), (.ref fa1)])) rfl rfl (hb hby d8_80)
  have f22 := f8.other W21 (Or.inl ne_o0_fa1)
  have f23 := f9.other W21 (Or.inl ne_o0_fa1)
  have f24 := f10.other W21 (Or.inl ne_o0_fa1)
  have f25 := f11.other W21 (Or.inl ne_o0_fa1)
  have f26 := f12.wr W21
  have f27 := f17.other W21 ne_fa0_fa1
  have f28 := f14.other W21 (Ne.symm ne_fa1_fa2)
  have f29 := f15.other W21 (Or.inl ne_o0_fa1)
  have f30 := f16.other W21 (Or.inl ne_o0_fa1)
  have K21 : Keep h0 h21 [fa0, fa1, o0, fa2] := K7.wr W21 (Or.inl (List.mem_of_getElem? (i := 1) rfl))
  have Zs21 := Nat.le_trans Zs7 (Keep.of_wr W21).1
  have N21 := Fr.snoc X21 N7 g_fa1
  have f31 : Arv Z h21 fa1 kfa1 .double (16 : Int32) [(.double vl), (.double gb1), (.double gb2), (.double gb3)] (.double (0 : UInt64)) := Arv.set Arq20 qq20 Sq20 Nq20 Hq20 Gq20 rfl W21 0 rfl (Nat.le_of_ble_eq_true rfl)
  obtain ⟨T32, X32, e32, st32⟩ := getF X21 hx hZ hown (host := "") (Or.inl (hw _ (List.mem_of_getElem? (i := 19) rfl))) Via.refl e21 f24 (g := (mkF m 82 #[.val (.ref o0), .val (.int rw), .val (.double vl), .second, .val (.int en), .unset] [(.ref o0)])) rfl rfl (hb hby d8_82)
  obtain ⟨T33, X33, e33, st33⟩ := getF X32 hx hZ hown (host := "") (Or.inl (hw _ (List.mem_of_getElem? (i := 30) rfl))) Via.refl e32 f25 (g := (mkF m 87 #[.val (.ref o0), .val (.int rw), .val (.double vl), .second, .val (.int en), .unset] [(.ref o0), (.ref o0), (.ref fa2)])) rfl rfl (hb hby d8_87)
  obtain ⟨T34, h34, X34, e34, W34, st34⟩ := putF X33 hx hZ hown (host := "") (Or.inl (hw _ (List.mem_of_getElem? (i := 30) rfl))) Via.refl e33 f25 f26 (Or.inl (hw _ (List.mem_of_getElem? (i := 31) rfl))) (hw _ (List.mem_of_getElem? (i := 7) rfl)) (ty := .int) (by decide) rfl rfl (g := (mkF m 93 #[.val (.ref o0), .val (.int rw), .val (.double vl), .second, .val (.int en), .unset] [(.int (1 : Int32)), (.ref o0), (.int (1 : Int32)), (.ref fa2)])) rfl rfl (hb hby d8_93)
  have f35 := f22.other W34 (Or.inr (so_BasisInverse_pivotRows_count hw))
  have f36 := f23.other W34 (Or.inr (so_BasisInverse_pivots_count hw))
  have f37 := f24.other W34 (Or.inr (so_BasisInverse_termStart_count hw))
  have f38 := f26.wr W34
  have f39 := f27.other W34 (Ne.symm ne_o0_fa0)
  have f40 := f31.other W34 (Ne.symm ne_o0_fa1)
  have f41 := f28.other W34 (Ne.symm ne_o0_fa2)
  have f42 := f29.other W34 (Or.inr (so_BasisInverse_termRows_count hw))
  have f43 := f30.other W34 (Or.inr (so_BasisInverse_termValues_count hw))
  have K34 : Keep h0 h34 [fa0, fa1, o0, fa2] := K21.wr W34 (Or.inl (List.mem_of_getElem? (i := 2) rfl))
  have Zs34 := Nat.le_trans Zs21 (Keep.of_wr W34).1
  have N34 := Fr.snoc X34 N21 g_o0
  have f44 : Fld Z h34 o0 "com/example/leeway/leeway/lp/BasisInverse" "count" "I" (.int (1 : Int32)) := f25.same W34
  obtain ⟨cq45, Arq45, qq45, Sq45, Nq45, Hq45, Gq45⟩ := id f41
  obtain ⟨T46, h46, X46, e46, W46, st46⟩ := stI X34 hx hZ e34 Arq45 (j := (1 : Int32)) (inb_of Sq45 ⟨by decide, by decide⟩) (g := (mkF m 98 #[.val (.ref o0), .val (.int rw), .val (.double vl), .second, .val (.int en), .unset] [(.int en), (.int (1 : Int32)), (.ref fa2)])) rfl rfl (hb hby d8_98)
  have f47 := f35.other W46 (Or.inl ne_o0_fa2)
  have f48 := f36.other W46 (Or.inl ne_o0_fa2)
  have f49 := f37.other W46 (Or.inl ne_o0_fa2)
  have f50 := f44.other W46 (Or.inl ne_o0_fa2)
  have f51 := f38.wr W46
  have f52 := f39.other W46 ne_fa0_fa2
  have f53 := f40.other W46 ne_fa1_fa2
  have f54 := f42.other W46 (Or.inl ne_o0_fa2)
  have f55 := f43.other W46 (Or.inl ne_o0_fa2)
  have K46 : Keep h0 h46 [fa0, fa1, o0, fa2] := K34.wr W46 (Or.inl (List.mem_of_getElem? (i := 3) rfl))
  have Zs46 := Nat.le_trans Zs34 (Keep.of_wr W46).1
  have N46 := Fr.snoc X46 N34 g_fa2
  have f56 : Arv Z h46 fa2 kfa2 .int (17 : Int32) [(.int gc0), (.int en), (.int gc2), (.int gc3)] (.int (0 : Int32)) := Arv.set Arq45 qq45 Sq45 Nq45 Hq45 Gq45 rfl W46 1 rfl (Nat.le_of_ble_eq_true rfl)
  obtain ⟨fs, hr, hrun, hended, hW, hsame⟩ := X46.leave (v := none) (fun _ => rfl)
  refine ⟨_, _, pre0 _ ?_, hrun, hended, _, _, rfl, ?_, ⟨_, rfl⟩, hW, hsame.mono (by decide) (by decide)⟩
  · show Steps p.tables e below (s₁.setTop (mkF m 0 #[.val (.ref o0), .val (.int rw), .val (.double vl), .second, .val (.int en), .unset] [])) _
    refine XS.aloadN X0.here hx rfl (hb hby d8_0) rfl rfl ?_
    refine st1 _ ?_
    show Steps p.tables e below (T1.setTop (mkF m 4 #[.val (.ref o0), .val (.int rw), .val (.double vl), .second, .val (.int en), .unset] [(.int (0 : Int32))])) _
    refine XS.aloadN X1.here hx rfl (hb hby d8_4) rfl rfl ?_
    refine st2 _ ?_
    show Steps p.tables e below (T2.setTop (mkF m 8 #[.val (.ref o0), .val (.int rw), .val (.double vl), .second, .val (.int en), .unset] [(.ref fa0), (.int (0 : Int32))])) _
    refine X2.arraylength hx (by rw [e2]; exact Arq3.1) (State.isArrayOf_alike hZ.alike Arq3.2.1) (g := (mkF m 8 #[.val (.ref o0), .val (.int rw), .val (.double vl), .second, .val (.int en), .unset] [(.ref fa0), (.int (0 : Int32))])) rfl rfl (hb hby d8_8) _ ?_
    rw [len_of Sq3 Nq3]
    show Steps p.tables e below (T2.setTop (mkF m 9 #[.val (.ref o0), .val (.int rw), .val (.double vl), .second, .val (.int en), .unset] [(.int (16 : Int32)), (.int (0 : Int32))])) _
    refine XS.icmpYes X2.here hx rfl (pc0 := 9) (pc' := 61) rfl (hb hby d8_9) rfl (feq (by decide : ¬ ((0 : Int32) = (16 : Int32)))).2 (by decide) (by decide) ?_
    refine XS.aloadN X2.here hx rfl (hb hby d8_61) rfl rfl ?_
    refine st4 _ ?_
    show Steps p.tables e below (T4.setTop (mkF m 65 #[.val (.ref o0), .val (.int rw), .val (.double vl), .second, .val (.int en), .unset] [(.ref fa0)])) _
    refine XS.aloadN X4.here hx rfl (hb hby d8_65) rfl rfl ?_
    refine st5 _ ?_
    show Steps p.tables e below (T5.setTop (mkF m 69 #[.val (.ref o0), .val (.int rw), .val (.double vl), .second, .val (.int en), .unset] [(.int (0 : Int32)), (.ref fa0)])) _
    refine XS.iloadN X5.here hx rfl (hb hby d8_69) rfl ?_
    show Steps p.tables e below (T5.setTop (mkF m 70 #[.val (.ref o0), .val (.int rw), .val (.double vl), .second, .val (.int en), .unset] [(.int rw), (.int (0 : Int32)), (.ref fa0)])) _
    refine st7 _ ?_
    show Steps p.tables e below (T7.setTop (mkF m 71 #[.val (.ref o0), .val (.int rw), .val (.double vl), .second, .val (.int en), .unset] [])) _
    refine XS.aloadN X7.here hx rfl (hb hby d8_71) rfl rfl ?_
    refine st18 _ ?_
    show Steps p.tables e below (T18.setTop (mkF m 75 #[.val (.ref o0), .val (.int rw), .val (.double vl), .second, .val (.int en), .unset] [(.ref fa1)])) _
    refine XS.aloadN X18.here hx rfl (hb hby d8_75) rfl rfl ?_
    refine st19 _ ?_
    show Steps p.tables e below (T19.setTop (mkF m 79 #[.val (.ref o0), .val (.int rw), .val (.double vl), .second, .val (.int en), .unset] [(.int (0 : Int32)), (.ref fa1)])) _
    refine XS.dloadN X19.here hx rfl (hb hby d8_79) rfl ?_
    show Steps p.tables e below (T19.setTop (mkF m 80 #[.val (.ref o0), .val (.int rw), .val (.double vl), .second, .val (.int en), .unset] [(.double vl), (.int (0 : Int32)), (.ref fa1)])) _
    refine st21 _ ?_
    show Steps p.tables e below (T21.setTop (mkF m 81 #[.val (.ref o0), .val (.int rw), .val (.double vl), .second, .val (.int en), .unset] [])) _
    refine XS.aloadN X21.here hx rfl (hb hby d8_81) rfl rfl ?_
    refine st32 _ ?_
    show Steps p.tables e below (T32.setTop (mkF m 85 #[.val (.ref o0), .val (.int rw), .val (.double vl), .second, .val (.int en), .unset] [(.ref fa2)])) _
    refine XS.aloadN X32.here hx rfl (hb hby d8_85) rfl rfl ?_
    refine XS.dup X32.here hx rfl (hb hby d8_86) rfl rfl ?_
    refine st33 _ ?_
    show Steps p.tables e below (T33.setTop (mkF m 90 #[.val (.ref o0), .val (.int rw), .val (.double vl), .second, .val (.int en), .unset] [(.int (0 : Int32)), (.ref o0), (.ref fa2)])) _
    refine XS.iconst X33.here hx rfl (hb hby d8_90) ?_
    refine XS.iadd X33.here hx rfl (hb hby d8_91) rfl ?_
    show Steps p.tables e below (T33.setTop (mkF m 92 #[.val (.ref o0), .val (.int rw), .val (.double vl), .second, .val (.int en), .unset] [(.int ((0 : Int32) + (1 : Int32))), (.ref o0), (.ref fa2)])) _
    rw [show ((0 : Int32) + (1 : Int32)) = (1 : Int32) by decide]
    show Steps p.tables e below (T33.setTop (mkF m 92 #[.val (.ref o0), .val (.int rw), .val (.double vl), .second, .val (.int en), .unset] [(.int (1 : Int32)), (.ref o0), (.ref fa2)])) _
    refine XS.dupX1 X33.here hx rfl (hb hby d8_92) rfl rfl rfl ?_
    refine st34 _ ?_
    show Steps p.tables e below (T34.setTop (mkF m 96 #[.val (.ref o0), .val (.int rw), .val (.double vl), .second, .val (.int en), .unset] [(.int (1 : Int32)), (.ref fa2)])) _
    refine XS.iload X34.here hx rfl (hb hby d8_96) rfl ?_
    show Steps p.tables e below (T34.setTop (mkF m 98 #[.val (.ref o0), .val (.int rw), .val (.double vl), .second, .val (.int en), .unset] [(.int en), (.int (1 : Int32)), (.ref fa2)])) _
    refine st46 _ ?_
    show Steps p.tables e below (T46.setTop (mkF m 99 #[.val (.ref o0), .val (.int rw), .val (.double vl), .second, .val (.int en), .unset] [])) _
    exact X46.returnOut hx Bd.returns (hb hby d8_99) hr
  · show Q_cs0 Z o0 fa0 fa1 fa2 fa3 fa4 kfa0 kfa1 kfa2 ga0 ga1 ga2 ga3 gb0 gb1 gb2 gb3 gc0 gc1 gc2 gc3 rw vl en h0 n0 _ T46.heap _
    rw [e46]
    exact ⟨rfl, N46, K46, f47, f48, f49, f54, f55, f50, f52, f53, f56⟩
def Q_cs1 (Z : State) (o0 : Addr) (fa0 : Addr) (fa1 : Addr) (fa2 : Addr) (fa3 : Addr) (fa4 : Addr) (kfa0 : ClassId) (kfa1 : ClassId) (kfa2 : ClassId) (ga0 : Int32) (ga1 : Int32) (ga2 : Int32) (ga3 : Int32) (gb0 : UInt64) (gb1 : UInt64) (gb2 : UInt64) (gb3 : UInt64) (gc0 : Int32) (gc1 : Int32) (gc2 : Int32) (gc3 : Int32) (rw : Int32) (vl : UInt64) (en : Int32) (h0 : Heap) (n0 : Nat) (v : Option Value) (h : Heap) (L : List Loc) : Prop := v = none ∧ Fr n0 L ∧ Keep h0 h [fa0, fa1, o0, fa2] ∧ Fld Z h o0 "com/example/leeway/leeway/lp/BasisInverse" "pivotRows" "[I" (.ref fa0) ∧ Fld Z h o0 "com/example/leeway/leeway/lp/BasisInverse" "pivots" "[D" (.ref fa1) ∧ Fld Z h o0 "com/example/leeway/leeway/lp/BasisInverse" "termStart" "[I" (.ref fa2) ∧ Fld Z h o0 "com/example/leeway/leeway/lp/BasisInverse" "termRows" "[I" (.ref fa3) ∧ Fld Z h o0 "com/example/leeway/leeway/lp/BasisInverse" "termValues" "[D" (.ref fa4) ∧ Fld Z h o0 "com/example/leeway/leeway/lp/BasisInverse" "count" "I" (.int (2 : Int32)) ∧ Arv Z h fa0 kfa0 .int (16 : Int32) [(.int ga0), (.int rw), (.int ga2), (.int ga3)] (.int (0 : Int32)) ∧ Arv Z h fa1 kfa1 .double (16 : Int32) [(.double gb0), (.double vl), (.double gb2), (.double gb3)] (.double (0 : UInt64)) ∧ Arv Z h fa2 kfa2 .int (17 : Int32) [(.int gc0), (.int gc1), (.int en), (.int gc3)] (.int (0 : Int32))
set_option maxRecDepth 65536 in
set_option maxHeartbeats 40000000 in
theorem cs1 (l : Launch) (Z : State) (a0 : Array Value) (hw : ∀ d ∈ tables_1, d.before a0 Z = true) (ws : List Jvm.Cond) (o0 : Addr) (fa0 : Addr) (fa1 : Addr) (fa2 : Addr) (fa3 : Addr) (fa4 : Addr) (kfa0 : ClassId) (kfa1 : ClassId) (kfa2 : ClassId) (ga0 : Int32) (ga1 : Int32) (ga2 : Int32) (ga3 : Int32) (gb0 : UInt64) (gb1 : UInt64) (gb2 : UInt64) (gb3 : UInt64) (gc0 : Int32) (gc1 : Int32) (gc2 : Int32) (gc3 : Int32) (rw : Int32) (vl : UInt64) (en : Int32) (h0 : Heap) (n0 : Nat) (Z0 : n0 ≤ h0.size) (F_pivotRows_o0 : Fld Z h0 o0 "com/example/leeway/leeway/lp/BasisInverse" "pivotRows" "[I" (.ref fa0)) (F_pivots_o0 : Fld Z h0 o0 "com/example/leeway/leeway/lp/BasisInverse" "pivots" "[D" (.ref fa1)) (F_termStart_o0 : Fld Z h0 o0 "com/example/leeway/leeway/lp/BasisInverse" "termStart" "[I" (.ref fa2)) (F_count_o0 : Fld Z h0 o0 "com/example/leeway/leeway/lp/BasisInverse" "count" "I" (.int (1 : Int32))) (E_o0 : Exa Z h0 o0 "com/example/leeway/leeway/lp/BasisInverse") (V_fa0 : Arv Z h0 fa0 kfa0 .int (16 : Int32) [(.int ga0), (.int ga1), (.int ga2), (.int ga3)] (.int (0 : Int32))) (V_fa1 : Arv Z h0 fa1 kfa1 .double (16 : Int32) [(.double gb0), (.double gb1), (.double gb2), (.double gb3)] (.double (0 : UInt64))) (V_fa2 : Arv Z h0 fa2 kfa2 .int (17 : Int32) [(.int gc0), (.int gc1), (.int gc2), (.int gc3)] (.int (0 : Int32))) (g_o0 : n0 ≤ o0) (g_fa0 : n0 ≤ fa0) (g_fa1 : n0 ≤ fa1) (g_fa2 : n0 ≤ fa2) (ne_o0_fa0 : o0 ≠ fa0) (ne_o0_fa1 : o0 ≠ fa1) (ne_o0_fa2 : o0 ≠ fa2) (ne_fa0_fa1 : fa0 ≠ fa1) (ne_fa0_fa2 : fa0 ≠ fa2) (ne_fa1_fa2 : fa1 ≠ fa2) (F_termRows_o0 : Fld Z h0 o0 "com/example/leeway/leeway/lp/BasisInverse" "termRows" "[I" (.ref fa3)) (F_termValues_o0 : Fld Z h0 o0 "com/example/leeway/leeway/lp/BasisInverse" "termValues" "[D" (.ref fa4)) :
    MetFree l (⟨"com/example/leeway/leeway/lp/BasisInverse", "close", "(IDI)V"⟩ : MethodName) (head1 (Jvm.Cond.code (⟨"com/example/leeway/leeway/lp/BasisInverse", "close", "(IDI)V"⟩ : MethodName) prog_85_method_7_code 6 none :: ws) ({ frames := 0, cells := 0, slots := 0, locals := 0 } : Room)) (fun a U => a = #[(.ref o0), (.int rw), (.double vl), (.int en)] ∧ Z.Warmed39 U.vm ∧ U.heap = h0) (fun _ _ _ _ _ => True) (fun _ U o U' => ∃ v L, o = .returned v ∧ Q_cs1 Z o0 fa0 fa1 fa2 fa3 fa4 kfa0 kfa1 kfa2 ga0 ga1 ga2 ga3 gb0 gb1 gb2 gb3 gc0 gc1 gc2 gc3 rw vl en h0 n0 v U'.heap L ∧ FrameEnd U o U' L ({ frames := 0, cells := 0, slots := 0, locals := 0 } : Room).cells ({ frames := 0, cells := 0, slots := 0, locals := 0 } : Room).slots) := by
  refine MetFree.of_bodySF (plainFor_of_name pn_com_example_leeway_leeway_lp_BasisInverse) hisR ?_
  intro p e s m args below meth c s₁ Bd hml0 hP hK
  obtain ⟨rfl, hZ, hh⟩ := hP
  have hx := Bd.exec
  have hby := Bd.bytes
  have hml : c.maxLocals = 6 := hml0
  have hown : s.vm.findClass "com/example/leeway/leeway/lp/BasisInverse" = some m.cls := findClass_of_methodNamed Bd.named
  have hnm := (name_of_methodNamed Bd.named Bd.method).1
  have X0 : Stand p l e ({ frames := 0, cells := 0, slots := 0, locals := 0 } : Room) s m #[(.ref o0), (.int rw), (.double vl), (.int en)] below meth c s₁ [] 0 0 := Stand.of_body Bd
  have e0 : s₁.heap = h0 := by rw [← hh, Bd.state]; rfl
  have N0 := Fr.nil n0
  have pre0 : ∀ t, Steps p.tables e below (s₁.setTop (mkF m 0 #[.val (.ref o0), .val (.int rw), .val (.double vl), .second, .val (.int en), .unset] [])) t → Steps p.tables e below (s₁.setTop (entryFrame m #[(.ref o0), (.int rw), (.double vl), (.int en)] 6)) t := fun t k => castTop (ef_8_RIDI m o0 rw vl en) k
  obtain ⟨T1, X1, e1, st1⟩ := getF X0 hx hZ hown (host := "") (Or.inl (hw _ (List.mem_of_getElem? (i := 30) rfl))) Via.refl e0 F_count_o0 (g := (mkF m 1 #[.val (.ref o0), .val (.int rw), .val (.double vl), .second, .val (.int en), .unset] [(.ref o0)])) rfl rfl (hb hby d8_1)
  obtain ⟨T2, X2, e2, st2⟩ := getF X1 hx hZ hown (host := "") (Or.inl (hw _ (List.mem_of_getElem? (i := 15) rfl))) Via.refl e1 F_pivotRows_o0 (g := (mkF m 5 #[.val (.ref o0), .val (.int rw), .val (.double vl), .second, .val (.int en), .unset] [(.ref o0), (.int (1 : Int32))])) rfl rfl (hb hby d8_5)
  obtain ⟨cq3, Arq3, -, Sq3, Nq3, -, -⟩ := id V_fa0
  obtain ⟨T4, X4, e4, st4⟩ := getF X2 hx hZ hown (host := "") (Or.inl (hw _ (List.mem_of_getElem? (i := 15) rfl))) Via.refl e2 F_pivotRows_o0 (g := (mkF m 62 #[.val (.ref o0), .val (.int rw), .val (.double vl), .second, .val (.int en), .unset] [(.ref o0)])) rfl rfl (hb hby d8_62)
  obtain ⟨T5, X5, e5, st5⟩ := getF X4 hx hZ hown (host := "") (Or.inl (hw _ (List.mem_of_getElem? (i := 30) rfl))) Via.refl e4 F_count_o0 (g := (mkF m 66 #[.val (.ref o0), .val (.int rw), .val (.double vl), .second, .val (.int en), .unset] [(.ref o0), (.ref fa0)])) rfl rfl (hb hby d8_66)
  obtain ⟨cq6, Arq6, qq6, Sq6, Nq6, Hq6, Gq6⟩ := id V_fa0
  obtain ⟨T7, h7, X7, e7, W7, st7⟩ := stI X5 hx hZ e5 Arq6 (j := (1 : Int32)) (inb_of Sq6 ⟨by decide, by decide⟩) (g := (mkF m 70 #[.val (.ref o0), .val (.int rw), .val (.double vl), .second, .val (.int en), .unset] [(.int rw), (.int (1 : Int32)), (.ref fa0)])) rfl rfl (hb hby d8_70)
  have f8 := F_pivotRows_o0.other W7 (Or.inl ne_o0_fa0)
  have f9 := F_pivots_o0.other W7 (Or.inl ne_o0_fa0)
  have f10 := F_termStart_o0.other W7 (Or.inl ne_o0_fa0)
  have f11 := F_count_o0.other W7 (Or.inl ne_o0_fa0)
  have f12 := E_o0.wr W7
  have f13 := V_fa1.other W7 (Ne.symm ne_fa0_fa1)
  have f14 := V_fa2.other W7 (Ne.symm ne_fa0_fa2)
  have f15 := F_termRows_o0.other W7 (Or.inl ne_o0_fa0)
  have f16 := F_termValues_o0.other W7 (Or.inl ne_o0_fa0)
  have K7 : Keep h0 h7 [fa0, fa1, o0, fa2] := (Keep.refl h0 [fa0, fa1, o0, fa2]).wr W7 (Or.inl (List.mem_of_getElem? (i := 0) rfl))
  have Zs7 := Nat.le_trans Z0 (Keep.of_wr W7).1
  have N7 := Fr.snoc X7 N0 g_fa0
  have f17 : Arv Z h7 fa0 kfa0 .int (16 : Int32) [(.int ga0), (.int rw), (.int ga2), (.int ga3)] (.int (0 : Int32)) := Arv.set Arq6 qq6 Sq6 Nq6 Hq6 Gq6 rfl W7 1 rfl (Nat.le_of_ble_eq_true rfl)
  obtain ⟨T18, X18, e18, st18⟩ := getF X7 hx hZ hown (host := "") (Or.inl (hw _ (List.mem_of_getElem? (i := 17) rfl))) Via.refl e7 f9 (g := (mkF m 72 #[.val (.ref o0), .val (.int rw), .val (.double vl), .second, .val (.int en), .unset] [(.ref o0)])) rfl rfl (hb hby d8_72)
  obtain ⟨T19, X19, e19, st19⟩ := getF X18 hx hZ hown (host := "") (Or.inl (hw _ (List.mem_of_getElem? (i := 30) rfl))) Via.refl e18 f11 (g := (mkF m 76 #[.val (.ref o0), .val (.int rw), .val (.double vl), .second, .val (.int en), .unset] [(.ref o0), (.ref fa1)])) rfl rfl (hb hby d8_76)
  obtain ⟨cq20, Arq20, qq20, Sq20, Nq20, Hq20, Gq20⟩ := id f13
  obtain ⟨T21, h21, X21, e21, W21, st21⟩ := stD X19 hx hZ e19 Arq20 (j := (1 : Int32)) (inb_of Sq20 ⟨by decide, by decide⟩) (g := (mkF m 80 #[.val (.ref o0), .val (.int rw), .val (.double vl), .second, .val (.int en), .unset] [(.double vl), (.int (1 : Int32)), (.ref fa1)])) rfl rfl (hb hby d8_80)
  have f22 := f8.other W21 (Or.inl ne_o0_fa1)
  have f23 := f9.other W21 (Or.inl ne_o0_fa1)
  have f24 := f10.other W21 (Or.inl ne_o0_fa1)
  have f25 := f11.other W21 (Or.inl ne_o0_fa1)
  have f26 := f12.wr W21
  have f27 := f17.other W21 ne_fa0_fa1
  have f28 := f14.other W21 (Ne.symm ne_fa1_fa2)
  have f29 := f15.other W21 (Or.inl ne_o0_fa1)
  have f30 := f16.other W21 (Or.inl ne_o0_fa1)
  have K21 : Keep h0 h21 [fa0, fa1, o0, fa2] := K7.wr W21 (Or.inl (List.mem_of_getElem? (i := 1) rfl))
  have Zs21 := Nat.le_trans Zs7 (Keep.of_wr W21).1
  have N21 := Fr.snoc X21 N7 g_fa1
  have f31 : Arv Z h21 fa1 kfa1 .double (16 : Int32) [(.double gb0), (.double vl), (.double gb2), (.double gb3)] (.double (0 : UInt64)) := Arv.set Arq20 qq20 Sq20 Nq20 Hq20 Gq20 rfl W21 1 rfl (Nat.le_of_ble_eq_true rfl)
  obtain ⟨T32, X32, e32, st32⟩ := getF X21 hx hZ hown (host := "") (Or.inl (hw _ (List.mem_of_getElem? (i := 19) rfl))) Via.refl e21 f24 (g := (mkF m 82 #[.val (.ref o0), .val (.int rw), .val (.double vl), .second, .val (.int en), .unset] [(.ref o0)])) rfl rfl (hb hby d8_82)
  obtain ⟨T33, X33, e33, st33⟩ := getF X32 hx hZ hown (host := "") (Or.inl (hw _ (List.mem_of_getElem? (i := 30) rfl))) Via.refl e32 f25 (g := (mkF m 87 #[.val (.ref o0), .val (.int rw), .val (.double vl), .second, .val (.int en), .unset] [(.ref o0), (.ref o0), (.ref fa2)])) rfl rfl (hb hby d8_87)
  obtain ⟨T34, h34, X34, e34, W34, st34⟩ := putF X33 hx hZ hown (host := "") (Or.inl (hw _ (List.mem_of_getElem? (i := 30) rfl))) Via.refl e33 f25 f26 (Or.inl (hw _ (List.mem_of_getElem? (i := 31) rfl))) (hw _ (List.mem_of_getElem? (i := 7) rfl)) (ty := .int) (by decide) rfl rfl (g := (mkF m 93 #[.val (.ref o0), .val (.int rw), .val (.double vl), .second, .val (.int en), .unset] [(.int (2 : Int32)), (.ref o0), (.int (2 : Int32)), (.ref fa2)])) rfl rfl (hb hby d8_93)
  have f35 := f22.other W34 (Or.inr (so_BasisInverse_pivotRows_count hw))
  have f36 := f23.other W34 (Or.inr (so_BasisInverse_pivots_count hw))
  have f37 := f24.other W34 (Or.inr (so_BasisInverse_termStart_count hw))
  have f38 := f26.wr W34
  have f39 := f27.other W34 (Ne.symm ne_o0_fa0)
  have f40 := f31.other W34 (Ne.symm ne_o0_fa1)
  have f41 := f28.other W34 (Ne.symm ne_o0_fa2)
  have f42 := f29.other W34 (Or.inr (so_BasisInverse_termRows_count hw))
  have f43 := f30.other W34 (Or.inr (so_BasisInverse_termValues_count hw))
  have K34 : Keep h0 h34 [fa0, fa1, o0, fa2] := K21.wr W34 (Or.inl (List.mem_of_getElem? (i := 2) rfl))
  have Zs34 := Nat.le_trans Zs21 (Keep.of_wr W34).1
  have N34 := Fr.snoc X34 N21 g_o0
  have f44 : Fld Z h34 o0 "com/example/leeway/leeway/lp/BasisInverse" "count" "I" (.int (2 : Int32)) := f25.same W34
  obtain ⟨cq45, Arq45, qq45, Sq45, Nq45, Hq45, Gq45⟩ := id f41
  obtain ⟨T46, h46, X46, e46, W46, st46⟩ := stI X34 hx hZ e34 Arq45 (j := (2 : Int32)) (inb_of Sq45 ⟨by decide, by decide⟩) (g := (mkF m 98 #[.val (.ref o0), .val (.int rw), .val (.double vl), .second, .val (.int en), .unset] [(.int en), (.int (2 : Int32)), (.ref fa2)])) rfl rfl (hb hby d8_98)
  have f47 := f35.other W46 (Or.inl ne_o0_fa2)
  have f48 := f36.other W46 (Or.inl ne_o0_fa2)
  have f49 := f37.other W46 (Or.inl ne_o0_fa2)
  have f50 := f44.other W46 (Or.inl ne_o0_fa2)
  have f51 := f38.wr W46
  have f52 := f39.other W46 ne_fa0_fa2
  have f53 := f40.other W46 ne_fa1_fa2
  have f54 := f42.other W46 (Or.inl ne_o0_fa2)
  have f55 := f43.other W46 (Or.inl ne_o0_fa2)
  have K46 : Keep h0 h46 [fa0, fa1, o0, fa2] := K34.wr W46 (Or.inl (List.mem_of_getElem? (i := 3) rfl))
  have Zs46 := Nat.le_trans Zs34 (Keep.of_wr W46).1
  have N46 := Fr.snoc X46 N34 g_fa2
  have f56 : Arv Z h46 fa2 kfa2 .int (17 : Int32) [(.int gc0), (.int gc1), (.int en), (.int gc3)] (.int (0 : Int32)) := Arv.set Arq45 qq45 Sq45 Nq45 Hq45 Gq45 rfl W46 2 rfl (Nat.le_of_ble_eq_true rfl)
  obtain ⟨fs, hr, hrun, hended, hW, hsame⟩ := X46.leave (v := none) (fun _ => rfl)
  refine ⟨_, _, pre0 _ ?_, hrun, hended, _, _, rfl, ?_, ⟨_, rfl⟩, hW, hsame.mono (by decide) (by decide)⟩
  · show Steps p.tables e below (s₁.setTop (mkF m 0 #[.val (.ref o0), .val (.int rw), .val (.double vl), .second, .val (.int en), .unset] [])) _
    refine XS.aloadN X0.here hx rfl (hb hby d8_0) rfl rfl ?_
    refine st1 _ ?_
    show Steps p.tables e below (T1.setTop (mkF m 4 #[.val (.ref o0), .val (.int rw), .val (.double vl), .second, .val (.int en), .unset] [(.int (1 : Int32))])) _
    refine XS.aloadN X1.here hx rfl (hb hby d8_4) rfl rfl ?_
    refine st2 _ ?_
    show Steps p.tables e below (T2.setTop (mkF m 8 #[.val (.ref o0), .val (.int rw), .val (.double vl), .second, .val (.int en), .unset] [(.ref fa0), (.int (1 : Int32))])) _
    refine X2.arraylength hx (by rw [e2]; exact Arq3.1) (State.isArrayOf_alike hZ.alike Arq3.2.1) (g := (mkF m 8 #[.val (.ref o0), .val (.int rw), .val (.double vl), .second, .val (.int en), .unset] [(.ref fa0), (.int (1 : Int32))])) rfl rfl (hb hby d8_8) _ ?_
    rw [len_of Sq3 Nq3]
    show Steps p.tables e below (T2.setTop (mkF m 9 #[.val (.ref o0), .val (.int rw), .val (.double vl), .second, .val (.int en), .unset] [(.int (16 : Int32)), (.int (1 : Int32))])) _
    refine XS.icmpYes X2.here hx rfl (pc0 := 9) (pc' := 61) rfl (hb hby d8_9) rfl (feq (by decide : ¬ ((1 : Int32) = (16 : Int32)))).2 (by decide) (by decide) ?_
    refine XS.aloadN X2.here hx rfl (hb hby d8_61) rfl rfl ?_
    refine st4 _ ?_
    show Steps p.tables e below (T4.setTop (mkF m 65 #[.val (.ref o0), .val (.int rw), .val (.double vl), .second, .val (.int en), .unset] [(.ref fa0)])) _
    refine XS.aloadN X4.here hx rfl (hb hby d8_65) rfl rfl ?_
    refine st5 _ ?_
    show Steps p.tables e below (T5.setTop (mkF m 69 #[.val (.ref o0), .val (.int rw), .val (.double vl), .second, .val (.int en), .unset] [(.int (1 : Int32)), (.ref fa0)])) _
    refine XS.iloadN X5.here hx rfl (hb hby d8_69) rfl ?_
    show Steps p.tables e below (T5.setTop (mkF m 70 #[.val (.ref o0), .val (.int rw), .val (.double vl), .second, .val (.int en), .unset] [(.int rw), (.int (1 : Int32)), (.ref fa0)])) _
    refine st7 _ ?_
    show Steps p.tables e below (T7.setTop (mkF m 71 #[.val (.ref o0), .val (.int rw), .val (.double vl), .second, .val (.int en), .unset] [])) _
    refine XS.aloadN X7.here hx rfl (hb hby d8_71) rfl rfl ?_
    refine st18 _ ?_
    show Steps p.tables e below (T18.setTop (mkF m 75 #[.val (.ref o0), .val (.int rw), .val (.double vl), .second, .val (.int en), .unset] [(.ref fa1)])) _
    refine XS.aloadN X18.here hx rfl (hb hby d8_75) rfl rfl ?_
    refine st19 _ ?_
    show Steps p.tables e below (T19.setTop (mkF m 79 #[.val (.ref o0), .val (.int rw), .val (.double vl), .second, .val (.int en), .unset] [(.int (1 : Int32)), (.ref fa1)])) _
    refine XS.dloadN X19.here hx rfl (hb hby d8_79) rfl ?_
    show Steps p.tables e below (T19.setTop (mkF m 80 #[.val (.ref o0), .val (.int rw), .val (.double vl), .second, .val (.int en), .unset] [(.double vl), (.int (1 : Int32)), (.ref fa1)])) _
    refine st21 _ ?_
    show Steps p.tables e below (T21.setTop (mkF m 81 #[.val (.ref o0), .val (.int rw), .val (.double vl), .second, .val (.int en), .unset] [])) _
    refine XS.aloadN X21.here hx rfl (hb hby d8_81) rfl rfl ?_
    refine st32 _ ?_
    show Steps p.tables e below (T32.setTop (mkF m 85 #[.val (.ref o0), .val (.int rw), .val (.double vl), .second, .val (.int en), .unset] [(.ref fa2)])) _
    refine XS.aloadN X32.here hx rfl (hb hby d8_85) rfl rfl ?_
    refine XS.dup X32.here hx rfl (hb hby d8_86) rfl rfl ?_
    refine st33 _ ?_
    show Steps p.tables e below (T33.setTop (mkF m 90 #[.val (.ref o0), .val (.int rw), .val (.double vl), .second, .val (.int en), .unset] [(.int (1 : Int32)), (.ref o0), (.ref fa2)])) _
    refine XS.iconst X33.here hx rfl (hb hby d8_90) ?_
    refine XS.iadd X33.here hx rfl (hb hby d8_91) rfl ?_
    show Steps p.tables e below (T33.setTop (mkF m 92 #[.val (.ref o0), .val (.int rw), .val (.double vl), .second, .val (.int en), .unset] [(.int ((1 : Int32) + (1 : Int32))), (.ref o0), (.ref fa2)])) _
    rw [show ((1 : Int32) + (1 : Int32)) = (2 : Int32) by decide]
    show Steps p.tables e below (T33.setTop (mkF m 92 #[.val (.ref o0), .val (.int rw), .val (.double vl), .second, .val (.int en), .unset] [(.int (2 : Int32)), (.ref o0), (.ref fa2)])) _
    refine XS.dupX1 X33.here hx rfl (hb hby d8_92) rfl rfl rfl ?_
    refine st34 _ ?_
    show Steps p.tables e below (T34.setTop (mkF m 96 #[.val (.ref o0), .val (.int rw), .val (.double vl), .second, .val (.int en), .unset] [(.int (2 : Int32)), (.ref fa2)])) _
    refine XS.iload X34.here hx rfl (hb hby d8_96) rfl ?_
    show Steps p.tables e below (T34.setTop (mkF m 98 #[.val (.ref o0), .val (.int rw), .val (.double vl), .second, .val (.int en), .unset] [(.int en), (.int (2 : Int32)), (.ref fa2)])) _
    refine st46 _ ?_
    show Steps p.tables e below (T46.setTop (mkF m 99 #[.val (.ref o0), .val (.int rw), .val (.double vl), .second, .val (.int en), .unset] [])) _
    exact X46.returnOut hx Bd.returns (hb hby d8_99) hr
  · show Q_cs1 Z o0 fa0 fa1 fa2 fa3 fa4 kfa0 kfa1 kfa2 ga0 ga1 ga2 ga3 gb0 gb1 gb2 gb3 gc0 gc1 gc2 gc3 rw vl en h0 n0 _ T46.heap _
    rw [e46]
    exact ⟨rfl, N46, K46, f47, f48, f49, f54, f55, f50, f52, f53, f56⟩
theorem d6_0 : decode prog_85_method_5_code 0 = .ok (.aload_n 0, 1) := by decide +kernel
theorem d6_1 : decode prog_85_method_5_code 1 = .ok (.getfield 17, 3) := by decide +kernel
theorem d6_4 : decode prog_85_method_5_code 4 = .ok (.aload_n 0, 1) := by decide +kernel
theorem d6_5 : decode prog_85_method_5_code 5 = .ok (.getfield 26, 3) := by decide +kernel
theorem d6_8 : decode prog_85_method_5_code 8 = .ok (.iaload, 1) := by decide +kernel
theorem d6_9 : decode prog_85_method_5_code 9 = .ok (.istore 4, 2) := by decide +kernel
theorem d6_11 : decode prog_85_method_5_code 11 = .ok (.dconst 0, 1) := by decide +kernel
theorem d6_12 : decode prog_85_method_5_code 12 = .ok (.dstore 5, 2) := by decide +kernel
theorem d6_14 : decode prog_85_method_5_code 14 = .ok (.iconst 0, 1) := by decide +kernel
theorem d6_15 : decode prog_85_method_5_code 15 = .ok (.istore 7, 2) := by decide +kernel
theorem d6_17 : decode prog_85_method_5_code 17 = .ok (.iload 7, 2) := by decide +kernel
theorem d6_19 : decode prog_85_method_5_code 19 = .ok (.aload_n 2, 1) := by decide +kernel
theorem d6_20 : decode prog_85_method_5_code 20 = .ok (.arraylength, 1) := by decide +kernel
theorem d6_21 : decode prog_85_method_5_code 21 = .ok (.if_icmp .ge 42, 3) := by decide +kernel
theorem d6_24 : decode prog_85_method_5_code 24 = .ok (.aload_n 2, 1) := by decide +kernel
theorem d6_25 : decode prog_85_method_5_code 25 = .ok (.iload 7, 2) := by decide +kernel
theorem d6_27 : decode prog_85_method_5_code 27 = .ok (.iaload, 1) := by decide +kernel
theorem d6_28 : decode prog_85_method_5_code 28 = .ok (.iload_n 1, 1) := by decide +kernel
theorem d6_29 : decode prog_85_method_5_code 29 = .ok (.if_icmp .ne 12, 3) := by decide +kernel
theorem d6_32 : decode prog_85_method_5_code 32 = .ok (.aload_n 3, 1) := by decide +kernel
theorem d6_33 : decode prog_85_method_5_code 33 = .ok (.iload 7, 2) := by decide +kernel
theorem d6_35 : decode prog_85_method_5_code 35 = .ok (.daload, 1) := by decide +kernel
theorem d6_36 : decode prog_85_method_5_code 36 = .ok (.dstore 5, 2) := by decide +kernel
theorem d6_38 : decode prog_85_method_5_code 38 = .ok (.goto 19, 3) := by decide +kernel
theorem d6_57 : decode prog_85_method_5_code 57 = .ok (.iinc 7 1, 3) := by decide +kernel
theorem d6_60 : decode prog_85_method_5_code 60 = .ok (.goto (-43), 3) := by decide +kernel
theorem d6_41 : decode prog_85_method_5_code 41 = .ok (.aload_n 0, 1) := by decide +kernel
theorem d6_42 : decode prog_85_method_5_code 42 = .ok (.iload 4, 2) := by decide +kernel
theorem d6_44 : decode prog_85_method_5_code 44 = .ok (.aload_n 2, 1) := by decide +kernel
theorem d6_45 : decode prog_85_method_5_code 45 = .ok (.iload 7, 2) := by decide +kernel
theorem d6_47 : decode prog_85_method_5_code 47 = .ok (.iaload, 1) := by decide +kernel
theorem d6_48 : decode prog_85_method_5_code 48 = .ok (.aload_n 3, 1) := by decide +kernel
theorem d6_49 : decode prog_85_method_5_code 49 = .ok (.iload 7, 2) := by decide +kernel
theorem d6_51 : decode prog_85_method_5_code 51 = .ok (.daload, 1) := by decide +kernel
theorem d6_52 : decode prog_85_method_5_code 52 = .ok (.invokevirtual 51, 3) := by decide +kernel
theorem pd_0 : parseMethodDescriptor "(IID)I" = some ⟨[.int, .int, .double], some .int⟩ := by decide +kernel
theorem d6_55 : decode prog_85_method_5_code 55 = .ok (.istore 4, 2) := by decide +kernel
theorem d6_63 : decode prog_85_method_5_code 63 = .ok (.aload_n 0, 1) := by decide +kernel
theorem d6_64 : decode prog_85_method_5_code 64 = .ok (.iload_n 1, 1) := by decide +kernel
theorem d6_65 : decode prog_85_method_5_code 65 = .ok (.dload 5, 2) := by decide +kernel
theorem d6_67 : decode prog_85_method_5_code 67 = .ok (.iload 4, 2) := by decide +kernel
theorem d6_69 : decode prog_85_method_5_code 69 = .ok (.invokevirtual 55, 3) := by decide +kernel
theorem pd_1 : parseMethodDescriptor "(IDI)V" = some ⟨[.int, .double, .int], none⟩ := by decide +kernel
theorem d6_72 : decode prog_85_method_5_code 72 = .ok (.return_, 1) := by decide +kernel
theorem ef_6_RIRR (m : MethodId) (x0 : Addr) (x1 : Int32) (x2 : Addr) (x3 : Addr) : entryFrame m #[(.ref x0), (.int x1), (.ref x2), (.ref x3)] 8 = mkF m 0 #[.val (.ref x0), .val (.int x1), .val (.ref x2), .val (.ref x3), .unset, .unset, .unset, .unset] [] := by first | (simp [entryFrame, mkF, argsToLocals, Value.category]; done) | rfl
def Q_rp10 (Z : State) (o0 : Addr) (fa0 : Addr) (fa1 : Addr) (fa2 : Addr) (fa3 : Addr) (fa4 : Addr) (kfa0 : ClassId) (kfa1 : ClassId) (kfa2 : ClassId) (kfa3 : ClassId) (kfa4 : ClassId) (s1 : Addr) (s2 : Addr) (ks1 : ClassId) (ks2 : ClassId) (v0 : UInt64) (v1 : UInt64) (v2 : UInt64) (ra : Int32) (pe1 : UInt64) (tx : Int32) (ty : Int32) (va : UInt64) (vb : UInt64) (h0 : Heap) (n0 : Nat) (v : Option Value) (h : Heap) (L : List Loc) : Prop := v = none ∧ Fr n0 L ∧ Keep h0 h [fa4, fa3, fa2, o0, fa1, fa0] ∧ Exa Z h o0 "com/example/leeway/leeway/lp/BasisInverse" ∧ Fld Z h o0 "com/example/leeway/leeway/lp/BasisInverse" "pivotRows" "[I" (.ref fa0) ∧ Fld Z h o0 "com/example/leeway/leeway/lp/BasisInverse" "pivots" "[D" (.ref fa1) ∧ Fld Z h o0 "com/example/leeway/leeway/lp/BasisInverse" "termStart" "[I" (.ref fa2) ∧ Fld Z h o0 "com/example/leeway/leeway/lp/BasisInverse" "termRows" "[I" (.ref fa3) ∧ Fld Z h o0 "com/example/leeway/leeway/lp/BasisInverse" "termValues" "[D" (.ref fa4) ∧ Fld Z h o0 "com/example/leeway/leeway/lp/BasisInverse" "count" "I" (.int (1 : Int32)) ∧ Arv Z h fa0 kfa0 .int (16 : Int32) [(.int ra), (.int (0 : Int32)), (.int (0 : Int32)), (.int (0 : Int32))] (.int (0 : Int32)) ∧ Arv Z h fa1 kfa1 .double (16 : Int32) [(.double pe1), (.double (0 : UInt64)), (.double (0 : UInt64)), (.double (0 : UInt64))] (.double (0 : UInt64)) ∧ Arv Z h fa2 kfa2 .int (17 : Int32) [(.int (0 : Int32)), (.int (2 : Int32)), (.int (0 : Int32)), (.int (0 : Int32))] (.int (0 : Int32)) ∧ Arv Z h fa3 kfa3 .int (64 : Int32) [(.int tx), (.int ty), (.int (0 : Int32)), (.int (0 : Int32))] (.int (0 : Int32)) ∧ Arv Z h fa4 kfa4 .double (64 : Int32) [(.double va), (.double vb), (.double (0 : UInt64)), (.double (0 : UInt64))] (.double (0 : UInt64))
set_option maxRecDepth 65536 in
set_option maxHeartbeats 40000000 in
theorem rp10 (l : Launch) (Z : State) (a0 : Array Value) (hw : ∀ d ∈ tables_1, d.before a0 Z = true) (ws : List Jvm.Cond) (o0 : Addr) (fa0 : Addr) (fa1 : Addr) (fa2 : Addr) (fa3 : Addr) (fa4 : Addr) (kfa0 : ClassId) (kfa1 : ClassId) (kfa2 : ClassId) (kfa3 : ClassId) (kfa4 : ClassId) (s1 : Addr) (s2 : Addr) (ks1 : ClassId) (ks2 : ClassId) (v0 : UInt64) (v1 : UInt64) (v2 : UInt64) (ra : Int32) (pe1 : UInt64) (tx : Int32) (ty : Int32) (va : UInt64) (vb : UInt64) (h0 : Heap) (n0 : Nat) (Z0 : n0 ≤ h0.size) (F_pivotRows_o0 : Fld Z h0 o0 "com/example/leeway/leeway/lp/BasisInverse" "pivotRows" "[I" (.ref fa0)) (F_pivots_o0 : Fld Z h0 o0 "com/example/leeway/leeway/lp/BasisInverse" "pivots" "[D" (.ref fa1)) (F_termStart_o0 : Fld Z h0 o0 "com/example/leeway/leeway/lp/BasisInverse" "termStart" "[I" (.ref fa2)) (F_termRows_o0 : Fld Z h0 o0 "com/example/leeway/leeway/lp/BasisInverse" "termRows" "[I" (.ref fa3)) (F_termValues_o0 : Fld Z h0 o0 "com/example/leeway/leeway/lp/BasisInverse" "termValues" "[D" (.ref fa4)) (F_count_o0 : Fld Z h0 o0 "com/example/leeway/leeway/lp/BasisInverse" "count" "I" (.int (0 : Int32))) (E_o0 : Exa Z h0 o0 "com/example/leeway/leeway/lp/BasisInverse") (V_fa0 : Arv Z h0 fa0 kfa0 .int (16 : Int32) [(.int (0 : Int32)), (.int (0 : Int32)), (.int (0 : Int32)), (.int (0 : Int32))] (.int (0 : Int32))) (V_fa1 : Arv Z h0 fa1 kfa1 .double (16 : Int32) [(.double (0 : UInt64)), (.double (0 : UInt64)), (.double (0 : UInt64)), (.double (0 : UInt64))] (.double (0 : UInt64))) (V_fa2 : Arv Z h0 fa2 kfa2 .int (17 : Int32) [(.int (0 : Int32)), (.int (0 : Int32)), (.int (0 : Int32)), (.int (0 : Int32))] (.int (0 : Int32))) (V_fa3 : Arv Z h0 fa3 kfa3 .int (64 : Int32) [(.int (0 : Int32)), (.int (0 : Int32)), (.int (0 : Int32)), (.int (0 : Int32))] (.int (0 : Int32))) (V_fa4 : Arv Z h0 fa4 kfa4 .double (64 : Int32) [(.double (0 : UInt64)), (.double (0 : UInt64)), (.double (0 : UInt64)), (.double (0 : UInt64))] (.double (0 : UInt64))) (g_o0 : n0 ≤ o0) (g_fa0 : n0 ≤ fa0) (g_fa1 : n0 ≤ fa1) (g_fa2 : n0 ≤ fa2) (g_fa3 : n0 ≤ fa3) (g_fa4 : n0 ≤ fa4) (ne_o0_fa0 : o0 ≠ fa0) (ne_o0_fa1 : o0 ≠ fa1) (ne_o0_fa2 : o0 ≠ fa2) (ne_o0_fa3 : o0 ≠ fa3) (ne_o0_fa4 : o0 ≠ fa4) (ne_fa0_fa1 : fa0 ≠ fa1) (ne_fa0_fa2 : fa0 ≠ fa2) (ne_fa0_fa3 : fa0 ≠ fa3) (ne_fa0_fa4 : fa0 ≠ fa4) (ne_fa1_fa2 : fa1 ≠ fa2) (ne_fa1_fa3 : fa1 ≠ fa3) (ne_fa1_fa4 : fa1 ≠ fa4) (ne_fa2_fa3 : fa2 ≠ fa3) (ne_fa2_fa4 : fa2 ≠ fa4) (ne_fa3_fa4 : fa3 ≠ fa4) (V_s1 : Arv Z h0 s1 ks1 .int (3 : Int32) [(.int (0 : Int32)), (.int (1 : Int32)), (.int (2 : Int32))] (.int (0 : Int32))) (V_s2 : Arv Z h0 s2 ks2 .double (3 : Int32) [(.double v0), (.double v1), (.double v2)] (.double (0 : UInt64))) (ne_o0_s1 : o0 ≠ s1) (ne_o0_s2 : o0 ≠ s2) (ne_fa0_s1 : fa0 ≠ s1) (ne_fa0_s2 : fa0 ≠ s2) (ne_fa1_s1 : fa1 ≠ s1) (ne_fa1_s2 : fa1 ≠ s2) (ne_fa2_s1 : fa2 ≠ s1) (ne_fa2_s2 : fa2 ≠ s2) (ne_fa3_s1 : fa3 ≠ s1) (ne_fa3_s2 : fa3 ≠ s2) (ne_fa4_s1 : fa4 ≠ s1) (ne_fa4_s2 : fa4 ≠ s2) (hE : v0 = pe1) (hX : (1 : Int32) = tx) (hY : (2 : Int32) = ty) (hA : v1 = va) (hB : v2 = vb) (hc29 : (0 : Int32) = ra) (hc29_1 : ¬ ((1 : Int32) = ra)) (hc29_2 : ¬ ((2 : Int32) = ra)) :
    MetFree l (⟨"com/example/leeway/leeway/lp/BasisInverse", "replace", "(I[I[D)V"⟩ : MethodName) (head1 (Jvm.Cond.code (⟨"com/example/leeway/leeway/lp/BasisInverse", "replace", "(I[I[D)V"⟩ : MethodName) prog_85_method_5_code 8 none :: ws) ({ frames := 1, cells := 0, slots := 0, locals := 17 } : Room)) (fun a U => a = #[(.ref o0), (.int ra), (.ref s1), (.ref s2)] ∧ Z.Warmed39 U.vm ∧ U.heap = h0) (fun _ _ _ _ _ => True) (fun _ U o U' => ∃ v L, o = .returned v ∧ Q_rp10 Z o0 fa0 fa1 fa2 fa3 fa4 kfa0 kfa1 kfa2 kfa3 kfa4 s1 s2 ks1 ks2 v0 v1 v2 ra pe1 tx ty va vb h0 n0 v U'.heap L ∧ FrameEnd U o U' L ({ frames := 1, cells := 0, slots := 0, locals := 17 } : Room).cells ({ frames := 1, cells := 0, slots := 0, locals := 17 } : Room).slots) := by
  refine MetFree.of_bodySF (plainFor_of_name pn_com_example_leeway_leeway_lp_BasisInverse) hisR ?_
  intro p e s m args below meth c s₁ Bd hml0 hP hK
  obtain ⟨rfl, hZ, hh⟩ := hP
  have hx := Bd.exec
  have hby := Bd.bytes
  have hml : c.maxLocals = 8 := hml0
  have hown : s.vm.findClass "com/example/leeway/leeway/lp/BasisInverse" = some m.cls := findClass_of_methodNamed Bd.named
  have hnm := (name_of_methodNamed Bd.named Bd.method).1
  have X0 : Stand p l e ({ frames := 1, cells := 0, slots := 0, locals := 17 } : Room) s m #[(.ref o0), (.int ra), (.ref s1), (.ref s2)] below meth c s₁ [] 0 0 := Stand.of_body Bd
  have e0 : s₁.heap = h0 := by rw [← hh, Bd.state]; rfl
  have N0 := Fr.nil n0
  have pre0 : ∀ t, Steps p.tables e below (s₁.setTop (mkF m 0 #[.val (.ref o0), .val (.int ra), .val (.ref s1), .val (.ref s2), .unset, .unset, .unset, .unset] [])) t → Steps p.tables e below (s₁.setTop (entryFrame m #[(.ref o0), (.int ra), (.ref s1), (.ref s2)] 8)) t := fun t k => castTop (ef_6_RIRR m o0 ra s1 s2) k
  obtain ⟨T1, X1, e1, st1⟩ := getF X0 hx hZ hown (host := "") (Or.inl (hw _ (List.mem_of_getElem? (i := 19) rfl))) Via.refl e0 F_termStart_o0 (g := (mkF m 1 #[.val (.ref o0), .val (.int ra), .val (.ref s1), .val (.ref s2), .unset, .unset, .unset, .unset] [(.ref o0)])) rfl rfl (hb hby d6_1)
  obtain ⟨T2, X2, e2, st2⟩ := getF X1 hx hZ hown (host := "") (Or.inl (hw _ (List.mem_of_getElem? (i := 30) rfl))) Via.refl e1 F_count_o0 (g := (mkF m 5 #[.val (.ref o0), .val (.int ra), .val (.ref s1), .val (.ref s2), .unset, .unset, .unset, .unset] [(.ref o0), (.ref fa2)])) rfl rfl (hb hby d6_5)
  obtain ⟨cq3, Arq3, -, Sq3, -, Hq3, -⟩ := id V_fa2
  obtain ⟨cq4, Arq4, -, Sq4, Nq4, -, -⟩ := id V_s1
  obtain ⟨cq5, Arq5, -, Sq5, -, Hq5, -⟩ := id V_s1
  obtain ⟨cq6, Arq6, -, Sq6, -, Hq6, -⟩ := id V_s2
  obtain ⟨cq7, Arq7, -, Sq7, Nq7, -, -⟩ := id V_s1
  obtain ⟨cq8, Arq8, -, Sq8, -, Hq8, -⟩ := id V_s1
  obtain ⟨cq9, Arq9, -, Sq9, -, Hq9, -⟩ := id V_s1
  obtain ⟨cq10, Arq10, -, Sq10, -, Hq10, -⟩ := id V_s2
  obtain ⟨cq11, q11, q11'⟩ := E_o0.cell
  obtain ⟨_, _, ⟨T11, L11, k11, n11⟩, -, X11, ⟨Lc11, hQ11, lq11, yq11, zq11⟩, st11⟩ := X2.privateBack hx (y := (⟨"com/example/leeway/leeway/lp/BasisInverse", "keep", "(IID)I"⟩ : MethodName)) hown (mvT hZ (hw _ (List.mem_of_getElem? (i := 41) rfl))) (mvT hZ (hw _ (List.mem_of_getElem? (i := 42) rfl))) (mvT hZ (own_selp (by decide) (hw _ (List.mem_of_getElem? (i := 7) rfl)) (hw _ (List.mem_of_getElem? (i := 43) rfl)) (hw _ (List.mem_of_getElem? (i := 42) rfl)))) (Cond.privateMethod_at (mvP hZ (hw _ (List.mem_of_getElem? (i := 43) rfl)) (args := #[]))) (mvT hZ (hw _ (List.mem_of_getElem? (i := 44) rfl))) (by decide) (backOf (W := 0) (kp0 l Z a0 hw [] o0 fa3 fa4 kfa3 kfa4 (0 : Int32) (0 : Int32) (0 : Int32) (0 : Int32) (0 : UInt64) (0 : UInt64) (0 : UInt64) (0 : UInt64) (1 : Int32) v1 (0 : Int32) h0 n0 Z0 F_termRows_o0 F_termValues_o0 F_count_o0 E_o0 V_fa3 V_fa4 g_o0 g_fa3 g_fa4 ne_o0_fa3 ne_o0_fa4 ne_fa3_fa4) hZ (hw _ (List.mem_of_getElem? (i := 44) rfl)) (hw _ (List.mem_of_getElem? (i := 8) rfl)) (by decide) (by decide)) (g := (mkF m 52 #[.val (.ref o0), .val (.int ra), .val (.ref s1), .val (.ref s2), .val (.int (0 : Int32)), .val (.double v0), .second, .val (.int (1 : Int32))] [(.double v1), (.int (1 : Int32)), (.int (0 : Int32)), (.ref o0)])) rfl (by rw [hml]; rfl) (Steps.refl _) (a := o0) (by rw [e2]; exact q11) q11' (argsL := [(.int (0 : Int32)), (.int (1 : Int32)), (.double v1)]) (rest := []) (lenOf pd_0 rfl) rfl (by show 2 * 0 + _ ≤ _; exact Nat.le_of_eq rfl) (hb hby d6_52) (fun _ _ => ⟨rfl, e2, (by decide : 0 + 0 ≤ _), (by decide : 0 + 0 ≤ _)⟩)
  dsimp only [Pt.U, Pt.locs, Pt.cells, Pt.slots] at X11 lq11 yq11 zq11 st11 hQ11
  rw [lq11, yq11, zq11] at X11
  obtain ⟨rfl, N11q, K11q, f12, f13⟩ := hQ11
  have N11 := Fr.app N0 N11q
  have f14 := F_pivotRows_o0.keep K11q (own_niS ne_o0_fa3 (own_niS ne_o0_fa4 own_ni0))
  have f15 := F_pivots_o0.keep K11q (own_niS ne_o0_fa3 (own_niS ne_o0_fa4 own_ni0))
  have f16 := F_termStart_o0.keep K11q (own_niS ne_o0_fa3 (own_niS ne_o0_fa4 own_ni0))
  have f17 := F_termRows_o0.keep K11q (own_niS ne_o0_fa3 (own_niS ne_o0_fa4 own_ni0))
  have f18 := F_termValues_o0.keep K11q (own_niS ne_o0_fa3 (own_niS ne_o0_fa4 own_ni0))
  have f19 := F_count_o0.keep K11q (own_niS ne_o0_fa3 (own_niS ne_o0_fa4 own_ni0))
  have f20 := E_o0.keep K11q
  have f21 := V_fa0.keep K11q (own_niS ne_fa0_fa3 (own_niS ne_fa0_fa4 own_ni0))
  have f22 := V_fa1.keep K11q (own_niS ne_fa1_fa3 (own_niS ne_fa1_fa4 own_ni0))
  have f23 := V_fa2.keep K11q (own_niS ne_fa2_fa3 (own_niS ne_fa2_fa4 own_ni0))
  have f24 := V_s1.keep K11q (own_niS (Ne.symm ne_fa3_s1) (own_niS (Ne.symm ne_fa4_s1) own_ni0))
  have f25 := V_s2.keep K11q (own_niS (Ne.symm ne_fa3_s2) (own_niS (Ne.symm ne_fa4_s2) own_ni0))
  have K11 : Keep h0 T11.heap [fa4, fa3, fa2, o0, fa1, fa0] := (Keep.refl h0 [fa4, fa3, fa2, o0, fa1, fa0]).trans K11q (own_allS (Or.inl (List.mem_of_getElem? (i := 1) rfl)) (own_allS (Or.inl (List.mem_of_getElem? (i := 0) rfl)) own_all0))
  have Zs11 := Nat.le_trans Z0 K11q.1
  obtain ⟨cq26, Arq26, -, Sq26, Nq26, -, -⟩ := id f24
  obtain ⟨cq27, Arq27, -, Sq27, -, Hq27, -⟩ := id f24
  obtain ⟨cq28, Arq28, -, Sq28, -, Hq28, -⟩ := id f24
  obtain ⟨cq29, Arq29, -, Sq29, -, Hq29, -⟩ := id f25
  obtain ⟨cq30, q30, q30'⟩ := f20.cell
  obtain ⟨_, _, ⟨T30, L30, k30, n30⟩, -, X30, ⟨Lc30, hQ30, lq30, yq30, zq30⟩, st30⟩ := X11.privateBack hx (y := (⟨"com/example/leeway/leeway/lp/BasisInverse", "keep", "(IID)I"⟩ : MethodName)) hown (mvT hZ (hw _ (List.mem_of_getElem? (i := 41) rfl))) (mvT hZ (hw _ (List.mem_of_getElem? (i := 42) rfl))) (mvT hZ (own_selp (by decide) (hw _ (List.mem_of_getElem? (i := 7) rfl)) (hw _ (List.mem_of_getElem? (i := 43) rfl)) (hw _ (List.mem_of_getElem? (i := 42) rfl)))) (Cond.privateMethod_at (mvP hZ (hw _ (List.mem_of_getElem? (i := 43) rfl)) (args := #[]))) (mvT hZ (hw _ (List.mem_of_getElem? (i := 44) rfl))) (by decide) (backOf (W := 0) (kp1 l Z a0 hw [] o0 fa3 fa4 kfa3 kfa4 (1 : Int32) (0 : Int32) (0 : Int32) (0 : Int32) v1 (0 : UInt64) (0 : UInt64) (0 : UInt64) (2 : Int32) v2 (0 : Int32) T11.heap n0 Zs11 f17 f18 f19 f20 f12 f13 g_o0 g_fa3 g_fa4 ne_o0_fa3 ne_o0_fa4 ne_fa3_fa4) hZ (hw _ (List.mem_of_getElem? (i := 44) rfl)) (hw _ (List.mem_of_getElem? (i := 8) rfl)) (by decide) (by decide)) (g := (mkF m 52 #[.val (.ref o0), .val (.int ra), .val (.ref s1), .val (.ref s2), .val (.int (1 : Int32)), .val (.double v0), .second, .val (.int (2 : Int32))] [(.double v2), (.int (2 : Int32)), (.int (1 : Int32)), (.ref o0)])) rfl (by rw [hml]; rfl) (Steps.refl _) (a := o0) q30 q30' (argsL := [(.int (1 : Int32)), (.int (2 : Int32)), (.double v2)]) (rest := []) (lenOf pd_0 rfl) rfl (by show 2 * 0 + _ ≤ _; exact Nat.le_of_eq rfl) (hb hby d6_52) (fun _ _ => ⟨rfl, rfl, (by decide : 0 + 0 ≤ _), (by decide : 0 + 0 ≤ _)⟩)
  dsimp only [Pt.U, Pt.locs, Pt.cells, Pt.slots] at X30 lq30 yq30 zq30 st30 hQ30
  rw [lq30, yq30, zq30] at X30
  obtain ⟨rfl, N30q, K30q, f31, f32⟩ := hQ30
  have N30 := Fr.app N11 N30q
  have f33 := f14.keep K30q (own_niS ne_o0_fa3 (own_niS ne_o0_fa4 own_ni0))
  have f34 := f15.keep K30q (own_niS ne_o0_fa3 (own_niS ne_o0_fa4 own_ni0))
  have f35 := f16.keep K30q (own_niS ne_o0_fa3 (own_niS ne_o0_fa4 own_ni0))
  have f36 := f17.keep K30q (own_niS ne_o0_fa3 (own_niS ne_o0_fa4 own_ni0))
  have f37 := f18.keep K30q (own_niS ne_o0_fa3 (own_niS ne_o0_fa4 own_ni0))
  have f38 := f19.keep K30q (own_niS ne_o0_fa3 (own_niS ne_o0_fa4 own_ni0))
  have f39 := f20.keep K30q
  have f40 := f21.keep K30q (own_niS ne_fa0_fa3 (own_niS ne_fa0_fa4 own_ni0))
  have f41 := f22.keep K30q (own_niS ne_fa1_fa3 (own_niS ne_fa1_fa4 own_ni0))
  have f42 := f23.keep K30q (own_niS ne_fa2_fa3 (own_niS ne_fa2_fa4 own_ni0))
  have f43 := f24.keep K30q (own_niS (Ne.symm ne_fa3_s1) (own_niS (Ne.symm ne_fa4_s1) own_ni0))
  have f44 := f25.keep K30q (own_niS (Ne.symm ne_fa3_s2) (own_niS (Ne.symm ne_fa4_s2) own_ni0))
  have K30 : Keep h0 T30.heap [fa4, fa3, fa2, o0, fa1, fa0] := K11.trans K30q (own_allS (Or.inl (List.mem_of_getElem? (i := 1) rfl)) (own_allS (Or.inl (List.mem_of_getElem? (i := 0) rfl)) own_all0))
  have Zs30 := Nat.le_trans Zs11 K30q.1
  obtain ⟨cq45, Arq45, -, Sq45, Nq45, -, -⟩ := id f43
  obtain ⟨cq46, q46, q46'⟩ := f39.cell
  obtain ⟨_, _, ⟨T46, L46, k46, n46⟩, -, X46, ⟨Lc46, hQ46, lq46, yq46, zq46⟩, st46⟩ := X30.privateBack hx (y := (⟨"com/example/leeway/leeway/lp/BasisInverse", "close", "(IDI)V"⟩ : MethodName)) hown (mvT hZ (hw _ (List.mem_of_getElem? (i := 45) rfl))) (mvT hZ (hw _ (List.mem_of_getElem? (i := 46) rfl))) (mvT hZ (own_selp (by decide) (hw _ (List.mem_of_getElem? (i := 7) rfl)) (hw _ (List.mem_of_getElem? (i := 47) rfl)) (hw _ (List.mem_of_getElem? (i := 46) rfl)))) (Cond.privateMethod_at (mvP hZ (hw _ (List.mem_of_getElem? (i := 47) rfl)) (args := #[]))) (mvT hZ (hw _ (List.mem_of_getElem? (i := 48) rfl))) (by decide) (backOf (W := 0) (cs0 l Z a0 hw [] o0 fa0 fa1 fa2 fa3 fa4 kfa0 kfa1 kfa2 (0 : Int32) (0 : Int32) (0 : Int32) (0 : Int32) (0 : UInt64) (0 : UInt64) (0 : UInt64) (0 : UInt64) (0 : Int32) (0 : Int32) (0 : Int32) (0 : Int32) ra v0 (2 : Int32) T30.heap n0 Zs30 f33 f34 f35 f38 f39 f40 f41 f42 g_o0 g_fa0 g_fa1 g_fa2 ne_o0_fa0 ne_o0_fa1 ne_o0_fa2 ne_fa0_fa1 ne_fa0_fa2 ne_fa1_fa2 f36 f37) hZ (hw _ (List.mem_of_getElem? (i := 48) rfl)) (hw _ (List.mem_of_getElem? (i := 8) rfl)) (by decide) (by decide)) (g := (mkF m 69 #[.val (.ref o0), .val (.int ra), .val (.ref s1), .val (.ref s2), .val (.int (2 : Int32)), .val (.double v0), .second, .val (.int (3 : Int32))] [(.int (2 : Int32)), (.double v0), (.int ra), (.ref o0)])) rfl (by rw [hml]; rfl) (Steps.refl _) (a := o0) q46 q46' (argsL := [(.int ra), (.double v0), (.int (2 : Int32))]) (rest := []) (lenOf pd_1 rfl) rfl (by show 2 * 0 + _ ≤ _; exact Nat.le_of_eq rfl) (hb hby d6_69) (fun _ _ => ⟨rfl, rfl, (by decide : 0 + 0 ≤ _), (by decide : 0 + 0 ≤ _)⟩)
  dsimp only [Pt.U, Pt.locs, Pt.cells, Pt.slots] at X46 lq46 yq46 zq46 st46 hQ46
  rw [lq46, yq46, zq46] at X46
  obtain ⟨rfl, N46q, K46q, f47, f48, f49, f50, f51, f52, f53, f54, f55⟩ := hQ46
  have N46 := Fr.app N30 N46q
  have f56 := f39.keep K46q
  have f57 := f31.keep K46q (own_niS (Ne.symm ne_fa0_fa3) (own_niS (Ne.symm ne_fa1_fa3) (own_niS (Ne.symm ne_o0_fa3) (own_niS (Ne.symm ne_fa2_fa3) own_ni0))))
  have f58 := f32.keep K46q (own_niS (Ne.symm ne_fa0_fa4) (own_niS (Ne.symm ne_fa1_fa4) (own_niS (Ne.symm ne_o0_fa4) (own_niS (Ne.symm ne_fa2_fa4) own_ni0))))
  have f59 := f43.keep K46q (own_niS (Ne.symm ne_fa0_s1) (own_niS (Ne.symm ne_fa1_s1) (own_niS (Ne.symm ne_o0_s1) (own_niS (Ne.symm ne_fa2_s1) own_ni0))))
  have f60 := f44.keep K46q (own_niS (Ne.symm ne_fa0_s2) (own_niS (Ne.symm ne_fa1_s2) (own_niS (Ne.symm ne_o0_s2) (own_niS (Ne.symm ne_fa2_s2) own_ni0))))
  have K46 : Keep h0 T46.heap [fa4, fa3, fa2, o0, fa1, fa0] := K30.trans K46q (own_allS (Or.inl (List.mem_of_getElem? (i := 5) rfl)) (own_allS (Or.inl (List.mem_of_getElem? (i := 4) rfl)) (own_allS (Or.inl (List.mem_of_getElem? (i := 3) rfl)) (own_allS (Or.inl (List.mem_of_getElem? (i := 2) rfl)) own_all0))))
  have Zs46 := Nat.le_trans Zs30 K46q.1
  have f61 := own_arvL (vs1 := [(.double pe1), (.double (0 : UInt64)), (.double (0 : UInt64)), (.double (0 : UInt64))]) ((by rw [hE]) : ([(.double v0), (.double (0 : UInt64)), (.double (0 : UInt64)), (.double (0 : UInt64))] : List Value) = [(.double pe1), (.double (0 : UInt64)), (.double (0 : UInt64)), (.double (0 : UInt64))]) f54
  have f62 := own_arvL (vs1 := [(.int tx), (.int ty), (.int (0 : Int32)), (.int (0 : Int32))]) ((by rw [hX, hY]) : ([(.int (1 : Int32)), (.int (2 : Int32)), (.int (0 : Int32)), (.int (0 : Int32))] : List Value) = [(.int tx), (.int ty), (.int (0 : Int32)), (.int (0 : Int32))]) f57
  have f63 := own_arvL (vs1 := [(.double va), (.double vb), (.double (0 : UInt64)), (.double (0 : UInt64))]) ((by rw [hA, hB]) : ([(.double v1), (.double v2), (.double (0 : UInt64)), (.double (0 : UInt64))] : List Value) = [(.double va), (.double vb), (.double (0 : UInt64)), (.double (0 : UInt64))]) f58
  obtain ⟨fs, hr, hrun, hended, hW, hsame⟩ := X46.leave (v := none) (fun _ => rfl)
  refine ⟨_, _, pre0 _ ?_, hrun, hended, _, _, rfl, ?_, ⟨_, rfl⟩, hW, hsame.mono (by decide) (by decide)⟩
  · show Steps p.tables e below (s₁.setTop (mkF m 0 #[.val (.ref o0), .val (.int ra), .val (.ref s1), .val (.ref s2), .unset, .unset, .unset, .unset] [])) _
    refine XS.aloadN X0.here hx rfl (hb hby d6_0) rfl rfl ?_
    refine st1 _ ?_
    show Steps p.tables e below (T1.setTop (mkF m 4 #[.val (.ref o0), .val (.int ra), .val (.ref s1), .val (.ref s2), .unset, .unset, .unset, .unset] [(.ref fa2)])) _
    refine XS.aloadN X1.here hx rfl (hb hby d6_4) rfl rfl ?_
    refine st2 _ ?_
    show Steps p.tables e below (T2.setTop (mkF m 8 #[.val (.ref o0), .val (.int ra), .val (.ref s1), .val (.ref s2), .unset, .unset, .unset, .unset] [(.int (0 : Int32)), (.ref fa2)])) _
    refine X2.iaload hx (j := (0 : Int32)) (v := (.int (0 : Int32))) (by rw [e2]; exact Arq3.1) (State.isArrayOf_alike hZ.alike Arq3.2.1) Arq3.2.2 (inb_of Sq3 ⟨by decide, by decide⟩) (Has.at Hq3 (inb_of Sq3 ⟨by decide, by decide⟩) rfl) (g := (mkF m 8 #[.val (.ref o0), .val (.int ra), .val (.ref s1), .val (.ref s2), .unset, .unset, .unset, .unset] [(.int (0 : Int32)), (.ref fa2)])) rfl rfl (hb hby d6_8) _ ?_
    show Steps p.tables e below (T2.setTop (mkF m 9 #[.val (.ref o0), .val (.int ra), .val (.ref s1), .val (.ref s2), .unset, .unset, .unset, .unset] [(.int (0 : Int32))])) _
    refine XS.istore X2.here hx rfl (hb hby d6_9) rfl (l' := #[.val (.ref o0), .val (.int ra), .val (.ref s1), .val (.ref s2), .val (.int (0 : Int32)), .unset, .unset, .unset]) rfl ?_
    refine XS.dconst0 X2.here hx rfl (hb hby d6_11) (v := (0 : UInt64)) rfl ?_
    refine XS.dstore X2.here hx rfl (hb hby d6_12) rfl (l' := #[.val (.ref o0), .val (.int ra), .val (.ref s1), .val (.ref s2), .val (.int (0 : Int32)), .val (.double (0 : UInt64)), .second, .unset]) rfl ?_
    refine XS.iconst X2.here hx rfl (hb hby d6_14) ?_
    refine XS.istore X2.here hx rfl (hb hby d6_15) rfl (l' := #[.val (.ref o0), .val (.int ra), .val (.ref s1), .val (.ref s2), .val (.int (0 : Int32)), .val (.double (0 : UInt64)), .second, .val (.int (0 : Int32))]) rfl ?_
    refine XS.iload X2.here hx rfl (hb hby d6_17) rfl ?_
    show Steps p.tables e below (T2.setTop (mkF m 19 #[.val (.ref o0), .val (.int ra), .val (.ref s1), .val (.ref s2), .val (.int (0 : Int32)), .val (.double (0 : UInt64)), .second, .val (.int (0 : Int32))] [(.int (0 : Int32))])) _
    refine XS.aloadN X2.here hx rfl (hb hby d6_19) rfl rfl ?_
    refine X2.arraylength hx (by rw [e2]; exact Arq4.1) (State.isArrayOf_alike hZ.alike Arq4.2.1) (g := (mkF m 20 #[.val (.ref o0), .val (.int ra), .val (.ref s1), .val (.ref s2), .val (.int (0 : Int32)), .val (.double (0 : UInt64)), .second, .val (.int (0 : Int32))] [(.ref s1), (.int (0 : Int32))])) rfl rfl (hb hby d6_20) _ ?_
    rw [len_of Sq4 Nq4]
    show Steps p.tables e below (T2.setTop (mkF m 21 #[.val (.ref o0), .val (.int ra), .val (.ref s1), .val (.ref s2), .val (.int (0 : Int32)), .val (.double (0 : UInt64)), .second, .val (.int (0 : Int32))] [(.int (3 : Int32)), (.int (0 : Int32))])) _
    refine XS.icmpNo X2.here hx rfl (hb hby d6_21) rfl (tlt (by decide : (0 : Int32) < (3 : Int32))).2.1 ?_
    refine XS.aloadN X2.here hx rfl (hb hby d6_24) rfl rfl ?_
    refine XS.iload X2.here hx rfl (hb hby d6_25) rfl ?_
    refine X2.iaload hx (j := (0 : Int32)) (v := (.int (0 : Int32))) (by rw [e2]; exact Arq5.1) (State.isArrayOf_alike hZ.alike Arq5.2.1) Arq5.2.2 (inb_of Sq5 ⟨by decide, by decide⟩) (Has.at Hq5 (inb_of Sq5 ⟨by decide, by decide⟩) rfl) (g := (mkF m 27 #[.val (.ref o0), .val (.int ra), .val (.ref s1), .val (.ref s2), .val (.int (0 : Int32)), .val (.double (0 : UInt64)), .second, .val (.int (0 : Int32))] [(.int (0 : Int32)), (.ref s1)])) rfl rfl (hb hby d6_27) _ ?_
    show Steps p.tables e below (T2.setTop (mkF m 28 #[.val (.ref o0), .val (.int ra), .val (.ref s1), .val (.ref s2), .val (.int (0 : Int32)), .val (.double (0 : UInt64)), .second, .val (.int (0 : Int32))] [(.int (0 : Int32))])) _
    refine XS.iloadN X2.here hx rfl (hb hby d6_28) rfl ?_
    refine XS.icmpNo X2.here hx rfl (hb hby d6_29) rfl (teq hc29).2 ?_
    refine XS.aloadN X2.here hx rfl (hb hby d6_32) rfl rfl ?_
    refine XS.iload X2.here hx rfl (hb hby d6_33) rfl ?_
    refine X2.daload hx (j := (0 : Int32)) (v := (.double v0)) (by rw [e2]; exact Arq6.1) (State.isArrayOf_alike hZ.alike Arq6.2.1) Arq6.2.2 (inb_of Sq6 ⟨by decide, by decide⟩) (Has.at Hq6 (inb_of Sq6 ⟨by decide, by decide⟩) rfl) (g := (mkF m 35 #[.val (.ref o0), .val (.int ra), .val (.ref s1), .val (.ref s2), .val (.int (0 : Int32)), .val (.double (0 : UInt64)), .second, .val (.int (0 : Int32))] [(.int (0 : Int32)), (.ref s2)])) rfl rfl (hb hby d6_35) _ ?_
    show Steps p.tables e below (T2.setTop (mkF m 36 #[.val (.ref o0), .val (.int ra), .val (.ref s1), .val (.ref s2), .val (.int (0 : Int32)), .val (.double (0 : UInt64)), .second, .val (.int (0 : Int32))] [(.double v0)])) _
    refine XS.dstore X2.here hx rfl (hb hby d6_36) rfl (l' := #[.val (.ref o0), .val (.int ra), .val (.ref s1), .val (.ref s2), .val (.int (0 : Int32)), .val (.double v0), .second, .val (.int (0 : Int32))]) rfl ?_
    show Steps p.tables e below (T2.setTop (mkF m 38 #[.val (.ref o0), .val (.int ra), .val (.ref s1), .val (.ref s2), .val (.int (0 : Int32)), .val (.double v0), .second, .val (.int (0 : Int32))] [])) _
    refine XS.goto X2.here hx rfl (pc0 := 38) (pc' := 57) rfl (hb hby d6_38) (by decide) (by decide) ?_
    refine XS.iinc X2.here hx rfl (hb hby d6_57) rfl (l' := #[.val (.ref o0), .val (.int ra), .val (.ref s1), .val (.ref s2), .val (.int (0 : Int32)), .val (.double v0), .second, .val (.int ((0 : Int32) + (1 : Int32)))]) rfl ?_
    show Steps p.tables e below (T2.setTop (mkF m 60 #[.val (.ref o0), .val (.int ra), .val (.ref s1), .val (.ref s2), .val (.int (0 : Int32)), .val (.double v0), .second, .val (.int ((0 : Int32) + (1 : Int32)))] [])) _
    rw [show ((0 : Int32) + (1 : Int32)) = (1 : Int32) by decide]
    show Steps p.tables e below (T2.setTop (mkF m 60 #[.val (.ref o0), .val (.int ra), .val (.ref s1), .val (.ref s2), .val (.int (0 : Int32)), .val (.double v0), .second, .val (.int (1 : Int32))] [])) _
    refine XS.goto X2.here hx rfl (pc0 := 60) (pc' := 17) rfl (hb hby d6_60) (by decide) (by decide) ?_
    refine XS.iload X2.here hx rfl (hb hby d6_17) rfl ?_
    refine XS.aloadN X2.here hx rfl (hb hby d6_19) rfl rfl ?_
    show Steps p.tables e below (T2.setTop (mkF m 20 #[.val (.ref o0), .val (.int ra), .val (.ref s1), .val (.ref s2), .val (.int (0 : Int32)), .val (.double v0), .second, .val (.int (1 : Int32))] [(.ref s1), (.int (1 : Int32))])) _
    refine X2.arraylength hx (by rw [e2]; exact Arq7.1) (State.isArrayOf_alike hZ.alike Arq7.2.1) (g := (mkF m 20 #[.val (.ref o0), .val (.int ra), .val (.ref s1), .val (.ref s2), .val (.int (0 : Int32)), .val (.double v0), .second, .val (.int (1 : Int32))] [(.ref s1), (.int (1 : Int32))])) rfl rfl (hb hby d6_20) _ ?_
    rw [len_of Sq7 Nq7]
    show Steps p.tables e below (T2.setTop (mkF m 21 #[.val (.ref o0), .val (.int ra), .val (.ref s1), .val (.ref s2), .val (.int (0 : Int32)), .val (.double v0), .second, .val (.int (1 : Int32))] [(.int (3 : Int32)), (.int (1 : Int32))])) _
    refine XS.icmpNo X2.here hx rfl (hb hby d6_21) rfl (tlt (by decide : (1 : Int32) < (3 : Int32))).2.1 ?_
    refine XS.aloadN X2.here hx rfl (hb hby d6_24) rfl rfl ?_
    refine XS.iload X2.here hx rfl (hb hby d6_25) rfl ?_
    refine X2.iaload hx (j := (1 : Int32)) (v := (.int (1 : Int32))) (by rw [e2]; exact Arq8.1) (State.isArrayOf_alike hZ.alike Arq8.2.1) Arq8.2.2 (inb_of Sq8 ⟨by decide, by decide⟩) (Has.at Hq8 (inb_of Sq8 ⟨by decide, by decide⟩) rfl) (g := (mkF m 27 #[.val (.ref o0), .val (.int ra), .val (.ref s1), .val (.ref s2), .val (.int (0 : Int32)), .val (.double v0), .second, .val (.int (1 : Int32))] [(.int (1 : Int32)), (.ref s1)])) rfl rfl (hb hby d6_27) _ ?_
    show Steps p.tables e below (T2.setTop (mkF m 28 #[.val (.ref o0), .val (.int ra), .val (.ref s1), .val (.ref s2), .val (.int (0 : Int32)), .val (.double v0), .second, .val (.int (1 : Int32))] [(.int (1 : Int32))])) _
    refine XS.iloadN X2.here hx rfl (hb hby d6_28) rfl ?_
    show Steps p.tables e below (T2.setTop (mkF m 29 #[.val (.ref o0), .val (.int ra), .val (.ref s1), .val (.ref s2), .val (.int (0 : Int32)), .val (.double v0), .second, .val (.int (1 : Int32))] [(.int ra), (.int (1 : Int32))])) _
    refine XS.icmpYes X2.here hx rfl (pc0 := 29) (pc' := 41) rfl (hb hby d6_29) rfl (feq hc29_1).2 (by decide) (by decide) ?_
    refine XS.aloadN X2.here hx rfl (hb hby d6_41) rfl rfl ?_
    refine XS.iload X2.here hx rfl (hb hby d6_42) rfl ?_
    refine XS.aloadN X2.here hx rfl (hb hby d6_44) rfl rfl ?_
    refine XS.iload X2.here hx rfl (hb hby d6_45) rfl ?_
    refine X2.iaload hx (j := (1 : Int32)) (v := (.int (1 : Int32))) (by rw [e2]; exact Arq9.1) (State.isArrayOf_alike hZ.alike Arq9.2.1) Arq9.2.2 (inb_of Sq9 ⟨by decide, by decide⟩) (Has.at Hq9 (inb_of Sq9 ⟨by decide, by decide⟩) rfl) (g := (mkF m 47 #[.val (.ref o0), .val (.int ra), .val (.ref s1), .val (.ref s2), .val (.int (0 : Int32)), .val (.double v0), .second, .val (.int (1 : Int32))] [(.int (1 : Int32)), (.ref s1), (.int (0 : Int32)), (.ref o0)])) rfl rfl (hb hby d6_47) _ ?_
    show Steps p.tables e below (T2.setTop (mkF m 48 #[.val (.ref o0), .val (.int ra), .val (.ref s1), .val (.ref s2), .val (.int (0 : Int32)), .val (.double v0), .second, .val (.int (1 : Int32))] [(.int (1 : Int32)), (.int (0 : Int32)), (.ref o0)])) _
    refine XS.aloadN X2.here hx rfl (hb hby d6_48) rfl rfl ?_
    refine XS.iload X2.here hx rfl (hb hby d6_49) rfl ?_
    refine X2.daload hx (j := (1 : Int32)) (v := (.double v1)) (by rw [e2]; exact Arq10.1) (State.isArrayOf_alike hZ.alike Arq10.2.1) Arq10.2.2 (inb_of Sq10 ⟨by decide, by decide⟩) (Has.at Hq10 (inb_of Sq10 ⟨by decide, by decide⟩) rfl) (g := (mkF m 51 #[.val (.ref o0), .val (.int ra), .val (.ref s1), .val (.ref s2), .val (.int (0 : Int32)), .val (.double v0), .second, .val (.int (1 : Int32))] [(.int (1 : Int32)), (.ref s2), (.int (1 : Int32)), (.int (0 : Int32)), (.ref o0)])) rfl rfl (hb hby d6_51) _ ?_
    show Steps p.tables e below (T2.setTop (mkF m 52 #[.val (.ref o0), .val (.int ra), .val (.ref s1), .val (.ref s2), .val (.int (0 : Int32)), .val (.double v0), .second, .val (.int (1 : Int32))] [(.double v1), (.int (1 : Int32)), (.int (0 : Int32)), (.ref o0)])) _
    refine st11.trans ?_
    show Steps p.tables e below (T11.setTop (mkF m 55 #[.val (.ref o0), .val (.int ra), .val (.ref s1), .val (.ref s2), .val (.int (0 : Int32)), .val (.double v0), .second, .val (.int (1 : Int32))] [(.int (1 : Int32))])) _
    refine XS.istore X11.here hx rfl (hb hby d6_55) rfl (l' := #[.val (.ref o0), .val (.int ra), .val (.ref s1), .val (.ref s2), .val (.int (1 : Int32)), .val (.double v0), .second, .val (.int (1 : Int32))]) rfl ?_
    refine XS.iinc X11.here hx rfl (hb hby d6_57) rfl (l' := #[.val (.ref o0), .val (.int ra), .val (.ref s1), .val (.ref s2), .val (.int (1 : Int32)), .val (.double v0), .second, .val (.int ((1 : Int32) + (1 : Int32)))]) rfl ?_
    show Steps p.tables e below (T11.setTop (mkF m 60 #[.val (.ref o0), .val (.int ra), .val (.ref s1), .val (.ref s2), .val (.int (1 : Int32)), .val (.double v0), .second, .val (.int ((1 : Int32) + (1 : Int32)))] [])) _
    rw [show ((1 : Int32) + (1 : Int32)) = (2 : Int32) by decide]
    show Steps p.tables e below (T11.setTop (mkF m 60 #[.val (.ref o0), .val (.int ra), .val (.ref s1), .val (.ref s2), .val (.int (1 : Int32)), .val (.double v0), .second, .val (.int (2 : Int32))] [])) _
    refine XS.goto X11.here hx rfl (pc0 := 60) (pc' := 17) rfl (hb hby d6_60) (by decide) (by decide) ?_
    refine XS.iload X11.here hx rfl (hb hby d6_17) rfl ?_
    refine XS.aloadN X11.here hx rfl (hb hby d6_19) rfl rfl ?_
    refine X11.arraylength hx Arq26.1 (State.isArrayOf_alike hZ.alike Arq26.2.1) (g := (mkF m 20 #[.val (.ref o0), .val (.int ra), .val (.ref s1), .val (.ref s2), .val (.int (1 : Int32)), .val (.double v0), .second, .val (.int (2 : Int32))] [(.ref s1), (.int (2 : Int32))])) rfl rfl (hb hby d6_20) _ ?_
    rw [len_of Sq26 Nq26]
    show Steps p.tables e below (T11.setTop (mkF m 21 #[.val (.ref o0), .val (.int ra), .val (.ref s1), .val (.ref s2), .val (.int (1 : Int32)), .val (.double v0), .second, .val (.int (2 : Int32))] [(.int (3 : Int32)), (.int (2 : Int32))])) _
    refine XS.icmpNo X11.here hx rfl (hb hby d6_21) rfl (tlt (by decide : (2 : Int32) < (3 : Int32))).2.1 ?_
    show Steps p.tables e below (T11.setTop (mkF m 24 #[.val (.ref o0), .val (.int ra), .val (.ref s1), .val (.ref s2), .val (.int (1 : Int32)), .val (.double v0), .second, .val (.int (2 : Int32))] [])) _
    refine XS.aloadN X11.here hx rfl (hb hby d6_24) rfl rfl ?_
    refine XS.iload X11.here hx rfl (hb hby d6_25) rfl ?_
    refine X11.iaload hx (j := (2 : Int32)) (v := (.int (2 : Int32))) Arq27.1 (State.isArrayOf_alike hZ.alike Arq27.2.1) Arq27.2.2 (inb_of Sq27 ⟨by decide, by decide⟩) (Has.at Hq27 (inb_of Sq27 ⟨by decide, by decide⟩) rfl) (g := (mkF m 27 #[.val (.ref o0), .val (.int ra), .val (.ref s1), .val (.ref s2), .val (.int (1 : Int32)), .val (.double v0), .second, .val (.int (2 : Int32))] [(.int (2 : Int32)), (.ref s1)])) rfl rfl (hb hby d6_27) _ ?_
    show Steps p.tables e below (T11.setTop (mkF m 28 #[.val (.ref o0), .val (.int ra), .val (.ref s1), .val (.ref s2), .val (.int (1 : Int32)), .val (.double v0), .second, .val (.int (2 : Int32))] [(.int (2 : Int32))])) _
    refine XS.iloadN X11.here hx rfl (hb hby d6_28) rfl ?_
    refine XS.icmpYes X11.here hx rfl (pc0 := 29) (pc' := 41) rfl (hb hby d6_29) rfl (feq hc29_2).2 (by decide) (by decide) ?_
    refine XS.aloadN X11.here hx rfl (hb hby d6_41) rfl rfl ?_
    show Steps p.tables e below (T11.setTop (mkF m 42 #[.val (.ref o0), .val (.int ra), .val (.ref s1), .val (.ref s2), .val (.int (1 : Int32)), .val (.double v0), .second, .val (.int (2 : Int32))] [(.ref o0)])) _
    refine XS.iload X11.here hx rfl (hb hby d6_42) rfl ?_
    refine XS.aloadN X11.here hx rfl (hb hby d6_44) rfl rfl ?_
    refine XS.iload X11.here hx rfl (hb hby d6_45) rfl ?_
    refine X11.iaload hx (j := (2 : Int32)) (v := (.int (2 : Int32))) Arq28.1 (State.isArrayOf_alike hZ.alike Arq28.2.1) Arq28.2.2 (inb_of Sq28 ⟨by decide, by decide⟩) (Has.at Hq28 (inb_of Sq28 ⟨by decide, by decide⟩) rfl) (g := (mkF m 47 #[.val (.ref o0), .val (.int ra), .val (.ref s1), .val (.ref s2), .val (.int (1 : Int32)), .val (.double v0), .second, .val (.int (2 : Int32))] [(.int (2 : Int32)), (.ref s1), (.int (1 : Int32)), (.ref o0)])) rfl rfl (hb hby d6_47) _ ?_
    show Steps p.tables e below (T11.setTop (mkF m 48 #[.val (.ref o0), .val (.int ra), .val (.ref s1), .val (.ref s2), .val (.int (1 : Int32)), .val (.double v0), .second, .val (.int (2 : Int32))] [(.int (2 : Int32)), (.int (1 : Int32)), (.ref o0)])) _
    refine XS.aloadN X11.here hx rfl (hb hby d6_48) rfl rfl ?_
    refine XS.iload X11.here hx rfl (hb hby d6_49) rfl ?_
    show Steps p.tables e below (T11.setTop (mkF m 51 #[.val (.ref o0), .val (.int ra), .val (.ref s1), .val (.ref s2), .val (.int (1 : Int32)), .val (.double v0), .second, .val (.int (2 : Int32))] [(.int (2 : Int32)), (.ref s2), (.int (2 : Int32)), (.int (1 : Int32)), (.ref o0)])) _
    refine X11.daload hx (j := (2 : Int32)) (v := (.double v2)) Arq29.1 (State.isArrayOf_alike hZ.alike Arq29.2.1) Arq29.2.2 (inb_of Sq29 ⟨by decide, by decide⟩) (Has.at Hq29 (inb_of Sq29 ⟨by decide, by decide⟩) rfl) (g := (mkF m 51 #[.val (.ref o0), .val (.int ra), .val (.ref s1), .val (.ref s2), .val (.int (1 : Int32)), .val (.double v0), .second, .val (.int (2 : Int32))] [(.int (2 : Int32)), (.ref s2), (.int (2 : Int32)), (.int (1 : Int32)), (.ref o0)])) rfl rfl (hb hby d6_51) _ ?_
    show Steps p.tables e below (T11.setTop (mkF m 52 #[.val (.ref o0), .val (.int ra), .val (.ref s1), .val (.ref s2), .val (.int (1 : Int32)), .val (.double v0), .second, .val (.int (2 : Int32))] [(.double v2), (.int (2 : Int32)), (.int (1 : Int32)), (.ref o0)])) _
    refine st30.trans ?_
    show Steps p.tables e below (T30.setTop (mkF m 55 #[.val (.ref o0), .val (.int ra), .val (.ref s1), .val (.ref s2), .val (.int (1 : Int32)), .val (.double v0), .second, .val (.int (2 : Int32))] [(.int (2 : Int32))])) _
    refine XS.istore X30.here hx rfl (hb hby d6_55) rfl (l' := #[.val (.ref o0), .val (.int ra), .val (.ref s1), .val (.ref s2), .val (.int (2 : Int32)), .val (.double v0), .second, .val (.int (2 : Int32))]) rfl ?_
    refine XS.iinc X30.here hx rfl (hb hby d6_57) rfl (l' := #[.val (.ref o0), .val (.int ra), .val (.ref s1), .val (.ref s2), .val (.int (2 : Int32)), .val (.double v0), .second, .val (.int ((2 : Int32) + (1 : Int32)))]) rfl ?_
    show Steps p.tables e below (T30.setTop (mkF m 60 #[.val (.ref o0), .val (.int ra), .val (.ref s1), .val (.ref s2), .val (.int (2 : Int32)), .val (.double v0), .second, .val (.int ((2 : Int32) + (1 : Int32)))] [])) _
    rw [show ((2 : Int32) + (1 : Int32)) = (3 : Int32) by decide]
    show Steps p.tables e below (T30.setTop (mkF m 60 #[.val (.ref o0), .val (.int ra), .val (.ref s1), .val (.ref s2), .val (.int (2 : Int32)), .val (.double v0), .second, .val (.int (3 : Int32))] [])) _
    refine XS.goto X30.here hx rfl (pc0 := 60) (pc' := 17) rfl (hb hby d6_60) (by decide) (by decide) ?_
    show Steps p.tables e below (T30.setTop (mkF m 17 #[.val (.ref o0), .val (.int ra), .val (.ref s1), .val (.ref s2), .val (.int (2 : Int32)), .val (.double v0), .second, .val (.int (3 : Int32))] [])) _
    refine XS.iload X30.here hx rfl (hb hby d6_17) rfl ?_
    refine XS.aloadN X30.here hx rfl (hb hby d6_19) rfl rfl ?_
    refine X30.arraylength hx Arq45.1 (State.isArrayOf_alike hZ.alike Arq45.2.1) (g := (mkF m 20 #[.val (.ref o0), .val (.int ra), .val (.ref s1), .val (.ref s2), .val (.int (2 : Int32)), .val (.double v0), .second, .val (.int (3 : Int32))] [(.ref s1), (.int (3 : Int32))])) rfl rfl (hb hby d6_20) _ ?_
    rw [len_of Sq45 Nq45]
    show Steps p.tables e below (T30.setTop (mkF m 21 #[.val (.ref o0), .val (.int ra), .val (.ref s1), .val (.ref s2), .val (.int (2 : Int32)), .val (.double v0), .second, .val (.int (3 : Int32))] [(.int (3 : Int32)), (.int (3 : Int32))])) _
    refine XS.icmpYes X30.here hx rfl (pc0 := 21) (pc' := 63) rfl (hb hby d6_21) rfl (flt (by decide : ¬ ((3 : Int32) < (3 : Int32)))).2.1 (by decide) (by decide) ?_
    refine XS.aloadN X30.here hx rfl (hb hby d6_63) rfl rfl ?_
    refine XS.iloadN X30.here hx rfl (hb hby d6_64) rfl ?_
    show Steps p.tables e below (T30.setTop (mkF m 65 #[.val (.ref o0), .val (.int ra), .val (.ref s1), .val (.ref s2), .val (.int (2 : Int32)), .val (.double v0), .second, .val (.int (3 : Int32))] [(.int ra), (.ref o0)])) _
    refine XS.dload X30.here hx rfl (hb hby d6_65) rfl ?_
    refine XS.iload X30.here hx rfl (hb hby d6_67) rfl ?_
    refine st46.trans ?_
    show Steps p.tables e below (T46.setTop (mkF m 72 #[.val (.ref o0), .val (.int ra), .val (.ref s1), .val (.ref s2), .val (.int (2 : Int32)), .val (.double v0), .second, .val (.int (3 : Int32))] [])) _
    exact X46.returnOut hx Bd.returns (hb hby d6_72) hr
  · show Q_rp10 Z o0 fa0 fa1 fa2 fa3 fa4 kfa0 kfa1 kfa2 kfa3 kfa4 s1 s2 ks1 ks2 v0 v1 v2 ra pe1 tx ty va vb h0 n0 _ T46.heap _
    exact ⟨rfl, N46, K46, f56, f47, f48, f49, f50, f51, f52, f53, f61, f55, f62, f63⟩
def Q_rp11 (Z : State) (o0 : Addr) (fa0 : Addr) (fa1 : Addr) (fa2 : Addr) (fa3 : Addr) (fa4 : Addr) (kfa0 : ClassId) (kfa1 : ClassId) (kfa2 : ClassId) (kfa3 : ClassId) (kfa4 : ClassId) (s1 : Addr) (s2 : Addr) (ks1 : ClassId) (ks2 : ClassId) (v0 : UInt64) (v1 : UInt64) (v2 : UInt64) (ra : Int32) (pe1 : UInt64) (tx : Int32) (ty : Int32) (va : UInt64) (vb : UInt64) (h0 : Heap) (n0 : Nat) (v : Option Value) (h : Heap) (L : List Loc) : Prop := v = none ∧ Fr n0 L ∧ Keep h0 h [fa4, fa3, fa2, o0, fa1, fa0] ∧ Exa Z h o0 "com/example/leeway/leeway/lp/BasisInverse" ∧ Fld Z h o0 "com/example/leeway/leeway/lp/BasisInverse" "pivotRows" "[I" (.ref fa0) ∧ Fld Z h o0 "com/example/leeway/leeway/lp/BasisInverse" "pivots" "[D" (.ref fa1) ∧ Fld Z h o0 "com/example/leeway/leeway/lp/BasisInverse" "termStart" "[I" (.ref fa2) ∧ Fld Z h o0 "com/example/leeway/leeway/lp/BasisInverse" "termRows" "[I" (.ref fa3) ∧ Fld Z h o0 "com/example/leeway/leeway/lp/BasisInverse" "termValues" "[D" (.ref fa4) ∧ Fld Z h o0 "com/example/leeway/leeway/lp/BasisInverse" "count" "I" (.int (1 : Int32)) ∧ Arv Z h fa0 kfa0 .int (16 : Int32) [(.int ra), (.int (0 : Int32)), (.int (0 : Int32)), (.int (0 : Int32))] (.int (0 : Int32)) ∧ Arv Z h fa1 kfa1 .double (16 : Int32) [(.double pe1), (.double (0 : UInt64)), (.double (0 : UInt64)), (.double (0 : UInt64))] (.double (0 : UInt64)) ∧ Arv Z h fa2 kfa2 .int (17 : Int32) [(.int (0 : Int32)), (.int (2 : Int32)), (.int (0 : Int32)), (.int (0 : Int32))] (.int (0 : Int32)) ∧ Arv Z h fa3 kfa3 .int (64 : Int32) [(.int tx), (.int ty), (.int (0 : Int32)), (.int (0 : Int32))] (.int (0 : Int32)) ∧ Arv Z h fa4 kfa4 .double (64 : Int32) [(.double va), (.double vb), (.double (0 : UInt64)), (.double (0 : UInt64))] (.double (0 : UInt64))
set_option maxRecDepth 65536 in
set_option maxHeartbeats 40000000 in
theorem rp11 (l : Launch) (Z : State) (a0 : Array Value) (hw : ∀ d ∈ tables_1, d.before a0 Z = true) (ws : List Jvm.Cond) (o0 : Addr) (fa0 : Addr) (fa1 : Addr) (fa2 : Addr) (fa3 : Addr) (fa4 : Addr) (kfa0 : ClassId) (kfa1 : ClassId) (kfa2 : ClassId) (kfa3 : ClassId) (kfa4 : ClassId) (s1 : Addr) (s2 : Addr) (ks1 : ClassId) (ks2 : ClassId) (v0 : UInt64) (v1 : UInt64) (v2 : UInt64) (ra : Int32) (pe1 : UInt64) (tx : Int32) (ty : Int32) (va : UInt64) (vb : UInt64) (h0 : Heap) (n0 : Nat) (Z0 : n0 ≤ h0.size) (F_pivotRows_o0 : Fld Z h0 o0 "com/example/leeway/leeway/lp/BasisInverse" "pivotRows" "[I" (.ref fa0)) (F_pivots_o0 : Fld Z h0 o0 "com/example/leeway/leeway/lp/BasisInverse" "pivots" "[D" (.ref fa1)) (F_termStart_o0 : Fld Z h0 o0 "com/example/leeway/leeway/lp/BasisInverse" "termStart" "[I" (.ref fa2)) (F_termRows_o0 : Fld Z h0 o0 "com/example/leeway/leeway/lp/BasisInverse" "termRows" "[I" (.ref fa3)) (F_termValues_o0 : Fld Z h0 o0 "com/example/leeway/leeway/lp/BasisInverse" "termValues" "[D" (.ref fa4)) (F_count_o0 : Fld Z h0 o0 "com/example/leeway/leeway/lp/BasisInverse" "count" "I" (.int (0 : Int32))) (E_o0 : Exa Z h0 o0 "com/example/leeway/leeway/lp/BasisInverse") (V_fa0 : Arv Z h0 fa0 kfa0 .int (16 : Int32) [(.int (0 : Int32)), (.int (0 : Int32)), (.int (0 : Int32)), (.int (0 : Int32))] (.int (0 : Int32))) (V_fa1 : Arv Z h0 fa1 kfa1 .double (16 : Int32) [(.double (0 : UInt64)), (.double (0 : UInt64)), (.double (0 : UInt64)), (.double (0 : UInt64))] (.double (0 : UInt64))) (V_fa2 : Arv Z h0 fa2 kfa2 .int (17 : Int32) [(.int (0 : Int32)), (.int (0 : Int32)), (.int (0 : Int32)), (.int (0 : Int32))] (.int (0 : Int32))) (V_fa3 : Arv Z h0 fa3 kfa3 .int (64 : Int32) [(.int (0 : Int32)), (.int (0 : Int32)), (.int (0 : Int32)), (.int (0 : Int32))] (.int (0 : Int32))) (V_fa4 : Arv Z h0 fa4 kfa4 .double (64 : Int32) [(.double (0 : UInt64)), (.double (0 : UInt64)), (.double (0 : UInt64)), (.double (0 : UInt64))] (.double (0 : UInt64))) (g_o0 : n0 ≤ o0) (g_fa0 : n0 ≤ fa0) (g_fa1 : n0 ≤ fa1) (g_fa2 : n0 ≤ fa2) (g_fa3 : n0 ≤ fa3) (g_fa4 : n0 ≤ fa4) (ne_o0_fa0 : o0 ≠ fa0) (ne_o0_fa1 : o0 ≠ fa1) (ne_o0_fa2 : o0 ≠ fa2) (ne_o0_fa3 : o0 ≠ fa3) (ne_o0_fa4 : o0 ≠ fa4) (ne_fa0_fa1 : fa0 ≠ fa1) (ne_fa0_fa2 : fa0 ≠ fa2) (ne_fa0_fa3 : fa0 ≠ fa3) (ne_fa0_fa4 : fa0 ≠ fa4) (ne_fa1_fa2 : fa1 ≠ fa2) (ne_fa1_fa3 : fa1 ≠ fa3) (ne_fa1_fa4 : fa1 ≠ fa4) (ne_fa2_fa3 : fa2 ≠ fa3) (ne_fa2_fa4 : fa2 ≠ fa4) (ne_fa3_fa4 : fa3 ≠ fa4) (V_s1 : Arv Z h0 s1 ks1 .int (3 : Int32) [(.int (0 : Int32)), (.int (1 : Int32)), (.int (2 : Int32))] (.int (0 : Int32))) (V_s2 : Arv Z h0 s2 ks2 .double (3 : Int32) [(.double v0), (.double v1), (.double v2)] (.double (0 : UInt64))) (ne_o0_s1 : o0 ≠ s1) (ne_o0_s2 : o0 ≠ s2) (ne_fa0_s1 : fa0 ≠ s1) (ne_fa0_s2 : fa0 ≠ s2) (ne_fa1_s1 : fa1 ≠ s1) (ne_fa1_s2 : fa1 ≠ s2) (ne_fa2_s1 : fa2 ≠ s1) (ne_fa2_s2 : fa2 ≠ s2) (ne_fa3_s1 : fa3 ≠ s1) (ne_fa3_s2 : fa3 ≠ s2) (ne_fa4_s1 : fa4 ≠ s1) (ne_fa4_s2 : fa4 ≠ s2) (hE : v1 = pe1) (hX : (0 : Int32) = tx) (hY : (2 : Int32) = ty) (hA : v0 = va) (hB : v2 = vb) (hc29 : ¬ ((0 : Int32) = ra)) (hc29_1 : (1 : Int32) = ra) (hc29_2 : ¬ ((2 : Int32) = ra)) :
    MetFree l (⟨"com/example/leeway/leeway/lp/BasisInverse", "replace", "(I[I[D)V"⟩ : MethodName) (head1 (Jvm.Cond.code (⟨"com/example/leeway/leeway/lp/BasisInverse", "replace", "(I[I[D)V"⟩ : MethodName) prog_85_method_5_code 8 none :: ws) ({ frames := 1, cells := 0, slots := 0, locals := 17 } : Room)) (fun a U => a = #[(.ref o0), (.int ra), (.ref s1), (.ref s2)] ∧ Z.Warmed39 U.vm ∧ U.heap = h0) (fun _ _ _ _ _ => True) (fun _ U o U' => ∃ v L, o = .returned v ∧ Q_rp11 Z o0 fa0 fa1 fa2 fa3 fa4 kfa0 kfa1 kfa2 kfa3 kfa4 s1 s2 ks1 ks2 v0 v1 v2 ra pe1 tx ty va vb h0 n0 v U'.heap L ∧ FrameEnd U o U' L ({ frames := 1, cells := 0, slots := 0, locals := 17 } : Room).cells ({ frames := 1, cells := 0, slots := 0, locals := 17 } : Room).slots) := by
  refine MetFree.of_bodySF (plainFor_of_name pn_com_example_leeway_leeway_lp_BasisInverse) hisR ?_
  intro p e s m args below meth c s₁ Bd hml0 hP hK
  obtain ⟨rfl, hZ, hh⟩ := hP
  have hx := Bd.exec
  have hby := Bd.bytes
  have hml : c.maxLocals = 8 := hml0
  have hown : s.vm.findClass "com/example/leeway/leeway/lp/BasisInverse" = some m.cls := findClass_of_methodNamed Bd.named
  have hnm := (name_of_methodNamed Bd.named Bd.method).1
  have X0 : Stand p l e ({ frames := 1, cells := 0, slots := 0, locals := 17 } : Room) s m #[(.ref o0), (.int ra), (.ref s1), (.ref s2)] below meth c s₁ [] 0 0 := Stand.of_body Bd
  have e0 : s₁.heap = h0 := by rw [← hh, Bd.state]; rfl
  have N0 := Fr.nil n0
  have pre0 : ∀ t, Steps p.tables e below (s₁.setTop (mkF m 0 #[.val (.ref o0), .val (.int ra), .val (.ref s1), .val (.ref s2), .unset, .unset, .unset, .unset] [])) t → Steps p.tables e below (s₁.setTop (entryFrame m #[(.ref o0), (.int ra), (.ref s1), (.ref s2)] 8)) t := fun t k => castTop (ef_6_RIRR m o0 ra s1 s2) k
  obtain ⟨T1, X1, e1, st1⟩ := getF X0 hx hZ hown (host := "") (Or.inl (hw _ (List.mem_of_getElem? (i := 19) rfl))) Via.refl e0 F_termStart_o0 (g := (mkF m 1 #[.val (.ref o0), .val (.int ra), .val (.ref s1), .val (.ref s2), .unset, .unset, .unset, .unset] [(.ref o0)])) rfl rfl (hb hby d6_1)
  obtain ⟨T2, X2, e2, st2⟩ := getF X1 hx hZ hown (host := "") (Or.inl (hw _ (List.mem_of_getElem? (i := 30) rfl))) Via.refl e1 F_count_o0 (g := (mkF m 5 #[.val (.ref o0), .val (.int ra), .val (.ref s1), .val (.ref s2), .unset, .unset, .unset, .unset] [(.ref o0), (.ref fa2)])) rfl rfl (hb hby d6_5)
  obtain ⟨cq3, Arq3, -, Sq3, -, Hq3, -⟩ := id V_fa2
  obtain ⟨cq4, Arq4, -, Sq4, Nq4, -, -⟩ := id V_s1
  obtain ⟨cq5, Arq5, -, Sq5, -, Hq5, -⟩ := id V_s1
  obtain ⟨cq6, Arq6, -, Sq6, -, Hq6, -⟩ := id V_s1
  obtain ⟨cq7, Arq7, -, Sq7, -, Hq7, -⟩ := id V_s2
  obtain ⟨cq8, q8, q8'⟩ := E_o0.cell
  obtain ⟨_, _, ⟨T8, L8, k8, n8⟩, -, X8, ⟨Lc8, hQ8, lq8, yq8, zq8⟩, st8⟩ := X2.privateBack hx (y := (⟨"com/example/leeway/leeway/lp/BasisInverse", "keep", "(IID)I"⟩ : MethodName)) hown (mvT hZ (hw _ (List.mem_of_getElem? (i := 41) rfl))) (mvT hZ (hw _ (List.mem_of_getElem? (i := 42) rfl))) (mvT hZ (own_selp (by decide) (hw _ (List.mem_of_getElem? (i := 7) rfl)) (hw _ (List.mem_of_getElem? (i := 43) rfl)) (hw _ (List.mem_of_getElem? (i := 42) rfl)))) (Cond.privateMethod_at (mvP hZ (hw _ (List.mem_of_getElem? (i := 43) rfl)) (args := #[]))) (mvT hZ (hw _ (List.mem_of_getElem? (i := 44) rfl))) (by decide) (backOf (W := 0) (kp0 l Z a0 hw [] o0 fa3 fa4 kfa3 kfa4 (0 : Int32) (0 : Int32) (0 : Int32) (0 : Int32) (0 : UInt64) (0 : UInt64) (0 : UInt64) (0 : UInt64) (0 : Int32) v0 (0 : Int32) h0 n0 Z0 F_termRows_o0 F_termValues_o0 F_count_o0 E_o0 V_fa3 V_fa4 g_o0 g_fa3 g_fa4 ne_o0_fa3 ne_o0_fa4 ne_fa3_fa4) hZ (hw _ (List.mem_of_getElem? (i := 44) rfl)) (hw _ (List.mem_of_getElem? (i := 8) rfl)) (by decide) (by decide)) (g := (mkF m 52 #[.val (.ref o0), .val (.int ra), .val (.ref s1), .val (.ref s2), .val (.int (0 : Int32)), .val (.double (0 : UInt64)), .second, .val (.int (0 : Int32))] [(.double v0), (.int (0 : Int32)), (.int (0 : Int32)), (.ref o0)])) rfl (by rw [hml]; rfl) (Steps.refl _) (a := o0) (by rw [e2]; exact q8) q8' (argsL := [(.int (0 : Int32)), (.int (0 : Int32)), (.double v0)]) (rest := []) (lenOf pd_0 rfl) rfl (by show 2 * 0 + _ ≤ _; exact Nat.le_of_eq rfl) (hb hby d6_52) (fun _ _ => ⟨rfl, e2, (by decide : 0 + 0 ≤ _), (by decide : 0 + 0 ≤ _)⟩)
  dsimp only [Pt.U, Pt.locs, Pt.cells, Pt.slots] at X8 lq8 yq8 zq8 st8 hQ8
  rw [lq8, yq8, zq8] at X8
  obtain ⟨rfl, N8q, K8q, f9, f10⟩ := hQ8
  have N8 := Fr.app N0 N8q
  have f11 := F_pivotRows_o0.keep K8q (own_niS ne_o0_fa3 (own_niS ne_o0_fa4 own_ni0))
  have f12 := F_pivots_o0.keep K8q (own_niS ne_o0_fa3 (own_niS ne_o0_fa4 own_ni0))
  have f13 := F_termStart_o0.keep K8q (own_niS ne_o0_fa3 (own_niS ne_o0_fa4 own_ni0))
  have f14 := F_termRows_o0.keep K8q (own_niS ne_o0_fa3 (own_niS ne_o0_fa4 own_ni0))
  have f15 := F_termValues_o0.keep K8q (own_niS ne_o0_fa3 (own_niS ne_o0_fa4 own_ni0))
  have f16 := F_count_o0.keep K8q (own_niS ne_o0_fa3 (own_niS ne_o0_fa4 own_ni0))
  have f17 := E_o0.keep K8q
  have f18 := V_fa0.keep K8q (own_niS ne_fa0_fa3 (own_niS ne_fa0_fa4 own_ni0))
  have f19 := V_fa1.keep K8q (own_niS ne_fa1_fa3 (own_niS ne_fa1_fa4 own_ni0))
  have f20 := V_fa2.keep K8q (own_niS ne_fa2_fa3 (own_niS ne_fa2_fa4 own_ni0))
  have f21 := V_s1.keep K8q (own_niS (Ne.symm ne_fa3_s1) (own_niS (Ne.symm ne_fa4_s1) own_ni0))
  have f22 := V_s2.keep K8q (own_niS (Ne.symm ne_fa3_s2) (own_niS (Ne.symm ne_fa4_s2) own_ni0))
  have K8 : Keep h0 T8.heap [fa4, fa3, fa2, o0, fa1, fa0] := (Keep.refl h0 [fa4, fa3, fa2, o0, fa1, fa0]).trans K8q (own_allS (Or.inl (List.mem_of_getElem? (i := 1) rfl)) (own_allS (Or.inl (List.mem_of_getElem? (i := 0) rfl)) own_all0))
  have Zs8 := Nat.le_trans Z0 K8q.1
  obtain ⟨cq23, Arq23, -, Sq23, Nq23, -, -⟩ := id f21
  obtain ⟨cq24, Arq24, -, Sq24, -, Hq24, -⟩ := id f21
  obtain ⟨cq25, Arq25, -, Sq25, -, Hq25, -⟩ := id f22
  obtain ⟨cq26, Arq26, -, Sq26, Nq26, -, -⟩ := id f21
  obtain ⟨cq27, Arq27, -, Sq27, -, Hq27, -⟩ := id f21
  obtain ⟨cq28, Arq28, -, Sq28, -, Hq28, -⟩ := id f21
  obtain ⟨cq29, Arq29, -, Sq29, -, Hq29, -⟩ := id f22
  obtain ⟨cq30, q30, q30'⟩ := f17.cell
  obtain ⟨_, _, ⟨T30, L30, k30, n30⟩, -, X30, ⟨Lc30, hQ30, lq30, yq30, zq30⟩, st30⟩ := X8.privateBack hx (y := (⟨"com/example/leeway/leeway/lp/BasisInverse", "keep", "(IID)I"⟩ : MethodName)) hown (mvT hZ (hw _ (List.mem_of_getElem? (i := 41) rfl))) (mvT hZ (hw _ (List.mem_of_getElem? (i := 42) rfl))) (mvT hZ (own_selp (by decide) (hw _ (List.mem_of_getElem? (i := 7) rfl)) (hw _ (List.mem_of_getElem? (i := 43) rfl)) (hw _ (List.mem_of_getElem? (i := 42) rfl)))) (Cond.privateMethod_at (mvP hZ (hw _ (List.mem_of_getElem? (i := 43) rfl)) (args := #[]))) (mvT hZ (hw _ (List.mem_of_getElem? (i := 44) rfl))) (by decide) (backOf (W := 0) (kp1 l Z a0 hw [] o0 fa3 fa4 kfa3 kfa4 (0 : Int32) (0 : Int32) (0 : Int32) (0 : Int32) v0 (0 : UInt64) (0 : UInt64) (0 : UInt64) (2 : Int32) v2 (0 : Int32) T8.heap n0 Zs8 f14 f15 f16 f17 f9 f10 g_o0 g_fa3 g_fa4 ne_o0_fa3 ne_o0_fa4 ne_fa3_fa4) hZ (hw _ (List.mem_of_getElem? (i := 44) rfl)) (hw _ (List.mem_of_getElem? (i := 8) rfl)) (by decide) (by decide)) (g := (mkF m 52 #[.val (.ref o0), .val (.int ra), .val (.ref s1), .val (.ref s2), .val (.int (1 : Int32)), .val (.double v1), .second, .val (.int (2 : Int32))] [(.double v2), (.int (2 : Int32)), (.int (1 : Int32)), (.ref o0)])) rfl (by rw [hml]; rfl) (Steps.refl _) (a := o0) q30 q30' (argsL := [(.int (1 : Int32)), (.int (2 : Int32)), (.double v2)]) (rest := []) (lenOf pd_0 rfl) rfl (by show 2 * 0 + _ ≤ _; exact Nat.le_of_eq rfl) (hb hby d6_52) (fun _ _ => ⟨rfl, rfl, (by decide : 0 + 0 ≤ _), (by decide : 0 + 0 ≤ _)⟩)
  dsimp only [Pt.U, Pt.locs, Pt.cells, Pt.slots] at X30 lq30 yq30 zq30 st30 hQ30
  rw [lq30, yq30, zq30] at X30
  obtain ⟨rfl, N30q, K30q, f31, f32⟩ := hQ30
  have N30 := Fr.app N8 N30q
  have f33 := f11.keep K30q (own_niS ne_o0_fa3 (own_niS ne_o0_fa4 own_ni0))
  have f34 := f12.keep K30q (own_niS ne_o0_fa3 (own_niS ne_o0_fa4 own_ni0))
  have f35 := f13.keep K30q (own_niS ne_o0_fa3 (own_niS ne_o0_fa4 own_ni0))
  have f36 := f14.keep K30q (own_niS ne_o0_fa3 (own_niS ne_o0_fa4 own_ni0))
  have f37 := f15.keep K30q (own_niS ne_o0_fa3 (own_niS ne_o0_fa4 own_ni0))
  have f38 := f16.keep K30q (own_niS ne_o0_fa3 (own_niS ne_o0_fa4 own_ni0))
  have f39 := f17.keep K30q
  have f40 := f18.keep K30q (own_niS ne_fa0_fa3 (own_niS ne_fa0_fa4 own_ni0))
  have f41 := f19.keep K30q (own_niS ne_fa1_fa3 (own_niS ne_fa1_fa4 own_ni0))
  have f42 := f20.keep K30q (own_niS ne_fa2_fa3 (own_niS ne_fa2_fa4 own_ni0))
  have f43 := f21.keep K30q (own_niS (Ne.symm ne_fa3_s1) (own_niS (Ne.symm ne_fa4_s1) own_ni0))
  have f44 := f22.keep K30q (own_niS (Ne.symm ne_fa3_s2) (own_niS (Ne.symm ne_fa4_s2) own_ni0))
  have K30 : Keep h0 T30.heap [fa4, fa3, fa2, o0, fa1, fa0] := K8.trans K30q (own_allS (Or.inl (List.mem_of_getElem? (i := 1) rfl)) (own_allS (Or.inl (List.mem_of_getElem? (i := 0) rfl)) own_all0))
  have Zs30 := Nat.le_trans Zs8 K30q.1
  obtain ⟨cq45, Arq45, -, Sq45, Nq45, -, -⟩ := id f43
  obtain ⟨cq46, q46, q46'⟩ := f39.cell
  obtain ⟨_, _, ⟨T46, L46, k46, n46⟩, -, X46, ⟨Lc46, hQ46, lq46, yq46, zq46⟩, st46⟩ := X30.privateBack hx (y := (⟨"com/example/leeway/leeway/lp/BasisInverse", "close", "(IDI)V"⟩ : MethodName)) hown (mvT hZ (hw _ (List.mem_of_getElem? (i := 45) rfl))) (mvT hZ (hw _ (List.mem_of_getElem? (i := 46) rfl))) (mvT hZ (own_selp (by decide) (hw _ (List.mem_of_getElem? (i := 7) rfl)) (hw _ (List.mem_of_getElem? (i := 47) rfl)) (hw _ (List.mem_of_getElem? (i := 46) rfl)))) (Cond.privateMethod_at (mvP hZ (hw _ (List.mem_of_getElem? (i := 47) rfl)) (args := #[]))) (mvT hZ (hw _ (List.mem_of_getElem? (i := 48) rfl))) (by decide) (backOf (W := 0) (cs0 l Z a0 hw [] o0 fa0 fa1 fa2 fa3 fa4 kfa0 kfa1 kfa2 (0 : Int32) (0 : Int32) (0 : Int32) (0 : Int32) (0 : UInt64) (0 : UInt64) (0 : UInt64) (0 : UInt64) (0 : Int32) (0 : Int32) (0 : Int32) (0 : Int32) ra v1 (2 : Int32) T30.heap n0 Zs30 f33 f34 f35 f38 f39 f40 f41 f42 g_o0 g_fa0 g_fa1 g_fa2 ne_o0_fa0 ne_o0_fa1 ne_o0_fa2 ne_fa0_fa1 ne_fa0_fa2 ne_fa1_fa2 f36 f37) hZ (hw _ (List.mem_of_getElem? (i := 48) rfl)) (hw _ (List.mem_of_getElem? (i := 8) rfl)) (by decide) (by decide)) (g := (mkF m 69 #[.val (.ref o0), .val (.int ra), .val (.ref s1), .val (.ref s2), .val (.int (2 : Int32)), .val (.double v1), .second, .val (.int (3 : Int32))] [(.int (2 : Int32)), (.double v1), (.int ra), (.ref o0)])) rfl (by rw [hml]; rfl) (Steps.refl _) (a := o0) q46 q46' (argsL := [(.int ra), (.double v1), (.int (2 : Int32))]) (rest := []) (lenOf pd_1 rfl) rfl (by show 2 * 0 + _ ≤ _; exact Nat.le_of_eq rfl) (hb hby d6_69) (fun _ _ => ⟨rfl, rfl, (by decide : 0 + 0 ≤ _), (by decide : 0 + 0 ≤ _)⟩)
  dsimp only [Pt.U, Pt.locs, Pt.cells, Pt.slots] at X46 lq46 yq46 zq46 st46 hQ46
  rw [lq46, yq46, zq46] at X46
  obtain ⟨rfl, N46q, K46q, f47, f48, f49, f50, f51, f52, f53, f54, f55⟩ := hQ46
  have N46 := Fr.app N30 N46q
  have f56 := f39.keep K46q
  have f57 := f31.keep K46q (own_niS (Ne.symm ne_fa0_fa3) (own_niS (Ne.symm ne_fa1_fa3) (own_niS (Ne.symm ne_o0_fa3) (own_niS (Ne.symm ne_fa2_fa3) own_ni0))))
  have f58 := f32.keep K46q (own_niS (Ne.symm ne_fa0_fa4) (own_niS (Ne.symm ne_fa1_fa4) (own_niS (Ne.symm ne_o0_fa4) (own_niS (Ne.symm ne_fa2_fa4) own_ni0))))
  have f59 := f43.keep K46q (own_niS (Ne.symm ne_fa0_s1) (own_niS (Ne.symm ne_fa1_s1) (own_niS (Ne.symm ne_o0_s1) (own_niS (Ne.symm ne_fa2_s1) own_ni0))))
  have f60 := f44.keep K46q (own_niS (Ne.symm ne_fa0_s2) (own_niS (Ne.symm ne_fa1_s2) (own_niS (Ne.symm ne_o0_s2) (own_niS (Ne.symm ne_fa2_s2) own_ni0))))
  have K46 : Keep h0 T46.heap [fa4, fa3, fa2, o0, fa1, fa0] := K30.trans K46q (own_allS (Or.inl (List.mem_of_getElem? (i := 5) rfl)) (own_allS (Or.inl (List.mem_of_getElem? (i := 4) rfl)) (own_allS (Or.inl (List.mem_of_getElem? (i := 3) rfl)) (own_allS (Or.inl (List.mem_of_getElem? (i := 2) rfl)) own_all0))))
  have Zs46 := Nat.le_trans Zs30 K46q.1
  have f61 := own_arvL (vs1 := [(.double pe1), (.double (0 : UInt64)), (.double (0 : UInt64)), (.double (0 : UInt64))]) ((by rw [hE]) : ([(.double v1), (.double (0 : UInt64)), (.double (0 : UInt64)), (.double (0 : UInt64))] : List Value) = [(.double pe1), (.double (0 : UInt64)), (.double (0 : UInt64)), (.double (0 : UInt64))]) f54
  have f62 := own_arvL (vs1 := [(.int tx), (.int ty), (.int (0 : Int32)), (.int (0 : Int32))]) ((by rw [hX, hY]) : ([(.int (0 : Int32)), (.int (2 : Int32)), (.int (0 : Int32)), (.int (0 : Int32))] : List Value) = [(.int tx), (.int ty), (.int (0 : Int32)), (.int (0 : Int32))]) f57
  have f63 := own_arvL (vs1 := [(.double va), (.double vb), (.double (0 : UInt64)), (.double (0 : UInt64))]) ((by rw [hA, hB]) : ([(.double v0), (.double v2), (.double (0 : UInt64)), (.double (0 : UInt64))] : List Value) = [(.double va), (.double vb), (.double (0 : UInt64)), (.double (0 : UInt64))]) f58
  obtain ⟨fs, hr, hrun, hended, hW, hsame⟩ := X46.leave (v := none) (fun _ => rfl)
  refine ⟨_, _, pre0 _ ?_, hrun, hended, _, _, rfl, ?_, ⟨_, rfl⟩, hW, hsame.mono (by decide) (by decide)⟩
  · show Steps p.tables e below (s₁.setTop (mkF m 0 #[.val (.ref o0), .val (.int ra), .val (.ref s1), .val (.ref s2), .unset, .unset, .unset, .unset] [])) _
    refine XS.aloadN X0.here hx rfl (hb hby d6_0) rfl rfl ?_
    refine st1 _ ?_
    show Steps p.tables e below (T1.setTop (mkF m 4 #[.val (.ref o0), .val (.int ra), .val (.ref s1), .val (.ref s2), .unset, .unset, .unset, .unset] [(.ref fa2)])) _
    refine XS.aloadN X1.here hx rfl (hb hby d6_4) rfl rfl ?_
    refine st2 _ ?_
    show Steps p.tables e below (T2.setTop (mkF m 8 #[.val (.ref o0), .val (.int ra), .val (.ref s1), .val (.ref s2), .unset, .unset, .unset, .unset] [(.int (0 : Int32)), (.ref fa2)])) _
    refine X2.iaload hx (j := (0 : Int32)) (v := (.int (0 : Int32))) (by rw [e2]; exact Arq3.1) (State.isArrayOf_alike hZ.alike Arq3.2.1) Arq3.2.2 (inb_of Sq3 ⟨by decide, by decide⟩) (Has.at Hq3 (inb_of Sq3 ⟨by decide, by decide⟩) rfl) (g := (mkF m 8 #[.val (.ref o0), .val (.int ra), .val (.ref s1), .val (.ref s2), .unset, .unset, .unset, .unset] [(.int (0 : Int32)), (.ref fa2)])) rfl rfl (hb hby d6_8) _ ?_
    show Steps p.tables e below (T2.setTop (mkF m 9 #[.val (.ref o0), .val (.int ra), .val (.ref s1), .val (.ref s2), .unset, .unset, .unset, .unset] [(.int (0 : Int32))])) _
    refine XS.istore X2.here hx rfl (hb hby d6_9) rfl (l' := #[.val (.ref o0), .val (.int ra), .val (.ref s1), .val (.ref s2), .val (.int (0 : Int32)), .unset, .unset, .unset]) rfl ?_
    refine XS.dconst0 X2.here hx rfl (hb hby d6_11) (v := (0 : UInt64)) rfl ?_
    refine XS.dstore X2.here hx rfl (hb hby d6_12) rfl (l' := #[.val (.ref o0), .val (.int ra), .val (.ref s1), .val (.ref s2), .val (.int (0 : Int32)), .val (.double (0 : UInt64)), .second, .unset]) rfl ?_
    refine XS.iconst X2.here hx rfl (hb hby d6_14) ?_
    refine XS.istore X2.here hx rfl (hb hby d6_15) rfl (l' := #[.val (.ref o0), .val (.int ra), .val (.ref s1), .val (.ref s2), .val (.int (0 : Int32)), .val (.double (0 : UInt64)), .second, .val (.int (0 : Int32))]) rfl ?_
    refine XS.iload X2.here hx rfl (hb hby d6_17) rfl ?_
    show Steps p.tables e below (T2.setTop (mkF m 19 #[.val (.ref o0), .val (.int ra), .val (.ref s1), .val (.ref s2), .val (.int (0 : Int32)), .val (.double (0 : UInt64)), .second, .val (.int (0 : Int32))] [(.int (0 : Int32))])) _
    refine XS.aloadN X2.here hx rfl (hb hby d6_19) rfl rfl ?_
    refine X2.arraylength hx (by rw [e2]; exact Arq4.1) (State.isArrayOf_alike hZ.alike Arq4.2.1) (g := (mkF m 20 #[.val (.ref o0), .val (.int ra), .val (.ref s1), .val (.ref s2), .val (.int (0 : Int32)), .val (.double (0 : UInt64)), .second, .val (.int (0 : Int32))] [(.ref s1), (.int (0 : Int32))])) rfl rfl (hb hby d6_20) _ ?_
    rw [len_of Sq4 Nq4]
    show Steps p.tables e below (T2.setTop (mkF m 21 #[.val (.ref o0), .val (.int ra), .val (.ref s1), .val (.ref s2), .val (.int (0 : Int32)), .val (.double (0 : UInt64)), .second, .val (.int (0 : Int32))] [(.int (3 : Int32)), (.int (0 : Int32))])) _
    refine XS.icmpNo X2.here hx rfl (hb hby d6_21) rfl (tlt (by decide : (0 : Int32) < (3 : Int32))).2.1 ?_
    refine XS.aloadN X2.here hx rfl (hb hby d6_24) rfl rfl ?_
    refine XS.iload X2.here hx rfl (hb hby d6_25) rfl ?_
    refine X2.iaload hx (j := (0 : Int32)) (v := (.int (0 : Int32))) (by rw [e2]; exact Arq5.1) (State.isArrayOf_alike hZ.alike Arq5.2.1) Arq5.2.2 (inb_of Sq5 ⟨by decide, by decide⟩) (Has.at Hq5 (inb_of Sq5 ⟨by decide, by decide⟩) rfl) (g := (mkF m 27 #[.val (.ref o0), .val (.int ra), .val (.ref s1), .val (.ref s2), .val (.int (0 : Int32)), .val (.double (0 : UInt64)), .second, .val (.int (0 : Int32))] [(.int (0 : Int32)), (.ref s1)])) rfl rfl (hb hby d6_27) _ ?_
    show Steps p.tables e below (T2.setTop (mkF m 28 #[.val (.ref o0), .val (.int ra), .val (.ref s1), .val (.ref s2), .val (.int (0 : Int32)), .val (.double (0 : UInt64)), .second, .val (.int (0 : Int32))] [(.int (0 : Int32))])) _
    refine XS.iloadN X2.here hx rfl (hb hby d6_28) rfl ?_
    refine XS.icmpYes X2.here hx rfl (pc0 := 29) (pc' := 41) rfl (hb hby d6_29) rfl (feq hc29).2 (by decide) (by decide) ?_
    refine XS.aloadN X2.here hx rfl (hb hby d6_41) rfl rfl ?_
    refine XS.iload X2.here hx rfl (hb hby d6_42) rfl ?_
    refine XS.aloadN X2.here hx rfl (hb hby d6_44) rfl rfl ?_
    refine XS.iload X2.here hx rfl (hb hby d6_45) rfl ?_
    show Steps p.tables e below (T2.setTop (mkF m 47 #[.val (.ref o0), .val (.int ra), .val (.ref s1), .val (.ref s2), .val (.int (0 : Int32)), .val (.double (0 : UInt64)), .second, .val (.int (0 : Int32))] [(.int (0 : Int32)), (.ref s1), (.int (0 : Int32)), (.ref o0)])) _
    refine X2.iaload hx (j := (0 : Int32)) (v := (.int (0 : Int32))) (by rw [e2]; exact Arq6.1) (State.isArrayOf_alike hZ.alike Arq6.2.1) Arq6.2.2 (inb_of Sq6 ⟨by decide, by decide⟩) (Has.at Hq6 (inb_of Sq6 ⟨by decide, by decide⟩) rfl) (g := (mkF m 47 #[.val (.ref o0), .val (.int ra), .val (.ref s1), .val (.ref s2), .val (.int (0 : Int32)), .val (.double (0 : UInt64)), .second, .val (.int (0 : Int32))] [(.int (0 : Int32)), (.ref s1), (.int (0 : Int32)), (.ref o0)])) rfl rfl (hb hby d6_47) _ ?_
    show Steps p.tables e below (T2.setTop (mkF m 48 #[.val (.ref o0), .val (.int ra), .val (.ref s1), .val (.ref s2), .val (.int (0 : Int32)), .val (.double (0 : UInt64)), .second, .val (.int (0 : Int32))] [(.int (0 : Int32)), (.int (0 : Int32)), (.ref o0)])) _
    refine XS.aloadN X2.here hx rfl (hb hby d6_48) rfl rfl ?_
    refine XS.iload X2.here hx rfl (hb hby d6_49) rfl ?_
    refine X2.daload hx (j := (0 : Int32)) (v := (.double v0)) (by rw [e2]; exact Arq7.1) (State.isArrayOf_alike hZ.alike Arq7.2.1) Arq7.2.2 (inb_of Sq7 ⟨by decide, by decide⟩) (Has.at Hq7 (inb_of Sq7 ⟨by decide, by decide⟩) rfl) (g := (mkF m 51 #[.val (.ref o0), .val (.int ra), .val (.ref s1), .val (.ref s2), .val (.int (0 : Int32)), .val (.double (0 : UInt64)), .second, .val (.int (0 : Int32))] [(.int (0 : Int32)), (.ref s2), (.int (0 : Int32)), (.int (0 : Int32)), (.ref o0)])) rfl rfl (hb hby d6_51) _ ?_
    show Steps p.tables e below (T2.setTop (mkF m 52 #[.val (.ref o0), .val (.int ra), .val (.ref s1), .val (.ref s2), .val (.int (0 : Int32)), .val (.double (0 : UInt64)), .second, .val (.int (0 : Int32))] [(.double v0), (.int (0 : Int32)), (.int (0 : Int32)), (.ref o0)])) _
    refine st8.trans ?_
    show Steps p.tables e below (T8.setTop (mkF m 55 #[.val (.ref o0), .val (.int ra), .val (.ref s1), .val (.ref s2), .val (.int (0 : Int32)), .val (.double (0 : UInt64)), .second, .val (.int (0 : Int32))] [(.int (1 : Int32))])) _
    refine XS.istore X8.here hx rfl (hb hby d6_55) rfl (l' := #[.val (.ref o0), .val (.int ra), .val (.ref s1), .val (.ref s2), .val (.int (1 : Int32)), .val (.double (0 : UInt64)), .second, .val (.int (0 : Int32))]) rfl ?_
    show Steps p.tables e below (T8.setTop (mkF m 57 #[.val (.ref o0), .val (.int ra), .val (.ref s1), .val (.ref s2), .val (.int (1 : Int32)), .val (.double (0 : UInt64)), .second, .val (.int (0 : Int32))] [])) _
    refine XS.iinc X8.here hx rfl (hb hby d6_57) rfl (l' := #[.val (.ref o0), .val (.int ra), .val (.ref s1), .val (.ref s2), .val (.int (1 : Int32)), .val (.double (0 : UInt64)), .second, .val (.int ((0 : Int32) + (1 : Int32)))]) rfl ?_
    show Steps p.tables e below (T8.setTop (mkF m 60 #[.val (.ref o0), .val (.int ra), .val (.ref s1), .val (.ref s2), .val (.int (1 : Int32)), .val (.double (0 : UInt64)), .second, .val (.int ((0 : Int32) + (1 : Int32)))] [])) _
    rw [show ((0 : Int32) + (1 : Int32)) = (1 : Int32) by decide]
    show Steps p.tables e below (T8.setTop (mkF m 60 #[.val (.ref o0), .val (.int ra), .val (.ref s1), .val (.ref s2), .val (.int (1 : Int32)), .val (.double (0 : UInt64)), .second, .val (.int (1 : Int32))] [])) _
    refine XS.goto X8.here hx rfl (pc0 := 60) (pc' := 17) rfl (hb hby d6_60) (by decide) (by decide) ?_
    refine XS.iload X8.here hx rfl (hb hby d6_17) rfl ?_
    refine XS.aloadN X8.here hx rfl (hb hby d6_19) rfl rfl ?_
    refine X8.arraylength hx Arq23.1 (State.isArrayOf_alike hZ.alike Arq23.2.1) (g := (mkF m 20 #[.val (.ref o0), .val (.int ra), .val (.ref s1), .val (.ref s2), .val (.int (1 : Int32)), .val (.double (0 : UInt64)), .second, .val (.int (1 : Int32))] [(.ref s1), (.int (1 : Int32))])) rfl rfl (hb hby d6_20) _ ?_
    rw [len_of Sq23 Nq23]
    show Steps p.tables e below (T8.setTop (mkF m 21 #[.val (.ref o0), .val (.int ra), .val (.ref s1), .val (.ref s2), .val (.int (1 : Int32)), .val (.double (0 : UInt64)), .second, .val (.int (1 : Int32))] [(.int (3 : Int32)), (.int (1 : Int32))])) _
    refine XS.icmpNo X8.here hx rfl (hb hby d6_21) rfl (tlt (by decide : (1 : Int32) < (3 : Int32))).2.1 ?_
    refine XS.aloadN X8.here hx rfl (hb hby d6_24) rfl rfl ?_
    refine XS.iload X8.here hx rfl (hb hby d6_25) rfl ?_
    refine X8.iaload hx (j := (1 : Int32)) (v := (.int (1 : Int32))) Arq24.1 (State.isArrayOf_alike hZ.alike Arq24.2.1) Arq24.2.2 (inb_of Sq24 ⟨by decide, by decide⟩) (Has.at Hq24 (inb_of Sq24 ⟨by decide, by decide⟩) rfl) (g := (mkF m 27 #[.val (.ref o0), .val (.int ra), .val (.ref s1), .val (.ref s2), .val (.int (1 : Int32)), .val (.double (0 : UInt64)), .second, .val (.int (1 : Int32))] [(.int (1 : Int32)), (.ref s1)])) rfl rfl (hb hby d6_27) _ ?_
    show Steps p.tables e below (T8.setTop (mkF m 28 #[.val (.ref o0), .val (.int ra), .val (.ref s1), .val (.ref s2), .val (.int (1 : Int32)), .val (.double (0 : UInt64)), .second, .val (.int (1 : Int32))] [(.int (1 : Int32))])) _
    refine XS.iloadN X8.here hx rfl (hb hby d6_28) rfl ?_
    refine XS.icmpNo X8.here hx rfl (hb hby d6_29) rfl (teq hc29_1).2 ?_
    show Steps p.tables e below (T8.setTop (mkF m 32 #[.val (.ref o0), .val (.int ra), .val (.ref s1), .val (.ref s2), .val (.int (1 : Int32)), .val (.double (0 : UInt64)), .second, .val (.int (1 : Int32))] [])) _
    refine XS.aloadN X8.here hx rfl (hb hby d6_32) rfl rfl ?_
    refine XS.iload X8.here hx rfl (hb hby d6_33) rfl ?_
    refine X8.daload hx (j := (1 : Int32)) (v := (.double v1)) Arq25.1 (State.isArrayOf_alike hZ.alike Arq25.2.1) Arq25.2.2 (inb_of Sq25 ⟨by decide, by decide⟩) (Has.at Hq25 (inb_of Sq25 ⟨by decide, by decide⟩) rfl) (g := (mkF m 35 #[.val (.ref o0), .val (.int ra), .val (.ref s1), .val (.ref s2), .val (.int (1 : Int32)), .val (.double (0 : UInt64)), .second, .val (.int (1 : Int32))] [(.int (1 : Int32)), (.ref s2)])) rfl rfl (hb hby d6_35) _ ?_
    show Steps p.tables e below (T8.setTop (mkF m 36 #[.val (.ref o0), .val (.int ra), .val (.ref s1), .val (.ref s2), .val (.int (1 : Int32)), .val (.double (0 : UInt64)), .second, .val (.int (1 : Int32))] [(.double v1)])) _
    refine XS.dstore X8.here hx rfl (hb hby d6_36) rfl (l' := #[.val (.ref o0), .val (.int ra), .val (.ref s1), .val (.ref s2), .val (.int (1 : Int32)), .val (.double v1), .second, .val (.int (1 : Int32))]) rfl ?_
    refine XS.goto X8.here hx rfl (pc0 := 38) (pc' := 57) rfl (hb hby d6_38) (by decide) (by decide) ?_
    refine XS.iinc X8.here hx rfl (hb hby d6_57) rfl (l' := #[.val (.ref o0), .val (.int ra), .val (.ref s1), .val (.ref s2), .val (.int (1 : Int32)), .val (.double v1), .second, .val (.int ((1 : Int32) + (1 : Int32)))]) rfl ?_
    show Steps p.tables e below (T8.setTop (mkF m 60 #[.val (.ref o0), .val (.int ra), .val (.ref s1), .val (.ref s2), .val (.int (1 : Int32)), .val (.double v1), .second, .val (.int ((1 : Int32) + (1 : Int32)))] [])) _
    rw [show ((1 : Int32) + (1 : Int32)) = (2 : Int32) by decide]
    show Steps p.tables e below (T8.setTop (mkF m 60 #[.val (.ref o0), .val (.int ra), .val (.ref s1), .val (.ref s2), .val (.int (1 : Int32)), .val (.double v1), .second, .val (.int (2 : Int32))] [])) _
    refine XS.goto X8.here hx rfl (pc0 := 60) (pc' := 17) rfl (hb hby d6_60) (by decide) (by decide) ?_
    refine XS.iload X8.here hx rfl (hb hby d6_17) rfl ?_
    refine XS.aloadN X8.here hx rfl (hb hby d6_19) rfl rfl ?_
    refine X8.arraylength hx Arq26.1 (State.isArrayOf_alike hZ.alike Arq26.2.1) (g := (mkF m 20 #[.val (.ref o0), .val (.int ra), .val (.ref s1), .val (.ref s2), .val (.int (1 : Int32)), .val (.double v1), .second, .val (.int (2 : Int32))] [(.ref s1), (.int (2 : Int32))])) rfl rfl (hb hby d6_20) _ ?_
    rw [len_of Sq26 Nq26]
    show Steps p.tables e below (T8.setTop (mkF m 21 #[.val (.ref o0), .val (.int ra), .val (.ref s1), .val (.ref s2), .val (.int (1 : Int32)), .val (.double v1), .second, .val (.int (2 : Int32))] [(.int (3 : Int32)), (.int (2 : Int32))])) _
    refine XS.icmpNo X8.here hx rfl (hb hby d6_21) rfl (tlt (by decide : (2 : Int32) < (3 : Int32))).2.1 ?_
    show Steps p.tables e below (T8.setTop (mkF m 24 #[.val (.ref o0), .val (.int ra), .val (.ref s1), .val (.ref s2), .val (.int (1 : Int32)), .val (.double v1), .second, .val (.int (2 : Int32))] [])) _
    refine XS.aloadN X8.here hx rfl (hb hby d6_24) rfl rfl ?_
    refine XS.iload X8.here hx rfl (hb hby d6_25) rfl ?_
    refine X8.iaload hx (j := (2 : Int32)) (v := (.int (2 : Int32))) Arq27.1 (State.isArrayOf_alike hZ.alike Arq27.2.1) Arq27.2.2 (inb_of Sq27 ⟨by decide, by decide⟩) (Has.at Hq27 (inb_of Sq27 ⟨by decide, by decide⟩) rfl) (g := (mkF m 27 #[.val (.ref o0), .val (.int ra), .val (.ref s1), .val (.ref s2), .val (.int (1 : Int32)), .val (.double v1), .second, .val (.int (2 : Int32))] [(.int (2 : Int32)), (.ref s1)])) rfl rfl (hb hby d6_27) _ ?_
    show Steps p.tables e below (T8.setTop (mkF m 28 #[.val (.ref o0), .val (.int ra), .val (.ref s1), .val (.ref s2), .val (.int (1 : Int32)), .val (.double v1), .second, .val (.int (2 : Int32))] [(.int (2 : Int32))])) _
    refine XS.iloadN X8.here hx rfl (hb hby d6_28) rfl ?_
    refine XS.icmpYes X8.here hx rfl (pc0 := 29) (pc' := 41) rfl (hb hby d6_29) rfl (feq hc29_2).2 (by decide) (by decide) ?_
    refine XS.aloadN X8.here hx rfl (hb hby d6_41) rfl rfl ?_
    show Steps p.tables e below (T8.setTop (mkF m 42 #[.val (.ref o0), .val (.int ra), .val (.ref s1), .val (.ref s2), .val (.int (1 : Int32)), .val (.double v1), .second, .val (.int (2 : Int32))] [(.ref o0)])) _
    refine XS.iload X8.here hx rfl (hb hby d6_42) rfl ?_
    refine XS.aloadN X8.here hx rfl (hb hby d6_44) rfl rfl ?_
    refine XS.iload X8.here hx rfl (hb hby d6_45) rfl ?_
    refine X8.iaload hx (j := (2 : Int32)) (v := (.int (2 : Int32))) Arq28.1 (State.isArrayOf_alike hZ.alike Arq28.2.1) Arq28.2.2 (inb_of Sq28 ⟨by decide, by decide⟩) (Has.at Hq28 (inb_of Sq28 ⟨by decide, by decide⟩) rfl) (g := (mkF m 47 #[.val (.ref o0), .val (.int ra), .val (.ref s1), .val (.ref s2), .val (.int (1 : Int32)), .val (.double v1), .second, .val (.int (2 : Int32))] [(.int (2 : Int32)), (.ref s1), (.int (1 : Int32)), (.ref o0)])) rfl rfl (hb hby d6_47) _ ?_
    show Steps p.tables e below (T8.setTop (mkF m 48 #[.val (.ref o0), .val (.int ra), .val (.ref s1), .val (.ref s2), .val (.int (1 : Int32)), .val (.double v1), .second, .val (.int (2 : Int32))] [(.int (2 : Int32)), (.int (1 : Int32)), (.ref o0)])) _
    refine XS.aloadN X8.here hx rfl (hb hby d6_48) rfl rfl ?_
    refine XS.iload X8.here hx rfl (hb hby d6_49) rfl ?_
    show Steps p.tables e below (T8.setTop (mkF m 51 #[.val (.ref o0), .val (.int ra), .val (.ref s1), .val (.ref s2), .val (.int (1 : Int32)), .val (.double v1), .second, .val (.int (2 : Int32))] [(.int (2 : Int32)), (.ref s2), (.int (2 : Int32)), (.int (1 : Int32)), (.ref o0)])) _
    refine X8.daload hx (j := (2 : Int32)) (v := (.double v2)) Arq29.1 (State.isArrayOf_alike hZ.alike Arq29.2.1) Arq29.2.2 (inb_of Sq29 ⟨by decide, by decide⟩) (Has.at Hq29 (inb_of Sq29 ⟨by decide, by decide⟩) rfl) (g := (mkF m 51 #[.val (.ref o0), .val (.int ra), .val (.ref s1), .val (.ref s2), .val (.int (1 : Int32)), .val (.double v1), .second, .val (.int (2 : Int32))] [(.int (2 : Int32)), (.ref s2), (.int (2 : Int32)), (.int (1 : Int32)), (.ref o0)])) rfl rfl (hb hby d6_51) _ ?_
    show Steps p.tables e below (T8.setTop (mkF m 52 #[.val (.ref o0), .val (.int ra), .val (.ref s1), .val (.ref s2), .val (.int (1 : Int32)), .val (.double v1), .second, .val (.int (2 : Int32))] [(.double v2), (.int (2 : Int32)), (.int (1 : Int32)), (.ref o0)])) _
    refine st30.trans ?_
    show Steps p.tables e below (T30.setTop (mkF m 55 #[.val (.ref o0), .val (.int ra), .val (.ref s1), .val (.ref s2), .val (.int (1 : Int32)), .val (.double v1), .second, .val (.int (2 : Int32))] [(.int (2 : Int32))])) _
    refine XS.istore X30.here hx rfl (hb hby d6_55) rfl (l' := #[.val (.ref o0), .val (.int ra), .val (.ref s1), .val (.ref s2), .val (.int (2 : Int32)), .val (.double v1), .second, .val (.int (2 : Int32))]) rfl ?_
    refine XS.iinc X30.here hx rfl (hb hby d6_57) rfl (l' := #[.val (.ref o0), .val (.int ra), .val (.ref s1), .val (.ref s2), .val (.int (2 : Int32)), .val (.double v1), .second, .val (.int ((2 : Int32) + (1 : Int32)))]) rfl ?_
    show Steps p.tables e below (T30.setTop (mkF m 60 #[.val (.ref o0), .val (.int ra), .val (.ref s1), .val (.ref s2), .val (.int (2 : Int32)), .val (.double v1), .second, .val (.int ((2 : Int32) + (1 : Int32)))] [])) _
    rw [show ((2 : Int32) + (1 : Int32)) = (3 : Int32) by decide]
    show Steps p.tables e below (T30.setTop (mkF m 60 #[.val (.ref o0), .val (.int ra), .val (.ref s1), .val (.ref s2), .val (.int (2 : Int32)), .val (.double v1), .second, .val (.int (3 : Int32))] [])) _
    refine XS.goto X30.here hx rfl (pc0 := 60) (pc' := 17) rfl (hb hby d6_60) (by decide) (by decide) ?_
    show Steps p.tables e below (T30.setTop (mkF m 17 #[.val (.ref o0), .val (.int ra), .val (.ref s1), .val (.ref s2), .val (.int (2 : Int32)), .val (.double v1), .second, .val (.int (3 : Int32))] [])) _
    refine XS.iload X30.here hx rfl (hb hby d6_17) rfl ?_
    refine XS.aloadN X30.here hx rfl (hb hby d6_19) rfl rfl ?_
    refine X30.arraylength hx Arq45.1 (State.isArrayOf_alike hZ.alike Arq45.2.1) (g := (mkF m 20 #[.val (.ref o0), .val (.int ra), .val (.ref s1), .val (.ref s2), .val (.int (2 : Int32)), .val (.double v1), .second, .val (.int (3 : Int32))] [(.ref s1), (.int (3 : Int32))])) rfl rfl (hb hby d6_20) _ ?_
    rw [len_of Sq45 Nq45]
    show Steps p.tables e below (T30.setTop (mkF m 21 #[.val (.ref o0), .val (.int ra), .val (.ref s1), .val (.ref s2), .val (.int (2 : Int32)), .val (.double v1), .second, .val (.int (3 : Int32))] [(.int (3 : Int32)), (.int (3 : Int32))])) _
    refine XS.icmpYes X30.here hx rfl (pc0 := 21) (pc' := 63) rfl (hb hby d6_21) rfl (flt (by decide : ¬ ((3 : Int32) < (3 : Int32)))).2.1 (by decide) (by decide) ?_
    refine XS.aloadN X30.here hx rfl (hb hby d6_63) rfl rfl ?_
    refine XS.iloadN X30.here hx rfl (hb hby d6_64) rfl ?_
    show Steps p.tables e below (T30.setTop (mkF m 65 #[.val (.ref o0), .val (.int ra), .val (.ref s1), .val (.ref s2), .val (.int (2 : Int32)), .val (.double v1), .second, .val (.int (3 : Int32))] [(.int ra), (.ref o0)])) _
    refine XS.dload X30.here hx rfl (hb hby d6_65) rfl ?_
    refine XS.iload X30.here hx rfl (hb hby d6_67) rfl ?_
    refine st46.trans ?_
    show Steps p.tables e below (T46.setTop (mkF m 72 #[.val (.ref o0), .val (.int ra), .val (.ref s1), .val (.ref s2), .val (.int (2 : Int32)), .val (.double v1), .second, .val (.int (3 : Int32))] [])) _
    exact X46.returnOut hx Bd.returns (hb hby d6_72) hr
  · show Q_rp11 Z o0 fa0 fa1 fa2 fa3 fa4 kfa0 kfa1 kfa2 kfa3 kfa4 s1 s2 ks1 ks2 v0 v1 v2 ra pe1 tx ty va vb h0 n0 _ T46.heap _
    exact ⟨rfl, N46, K46, f56, f47, f48, f49, f50, f51, f52, f53, f61, f55, f62, f63⟩
def Q_rp12 (Z : State) (o0 : Addr) (fa0 : Addr) (fa1 : Addr) (fa2 : Addr) (fa3 : Addr) (fa4 : Addr) (kfa0 : ClassId) (kfa1 : ClassId) (kfa2 : ClassId) (kfa3 : ClassId) (kfa4 : ClassId) (s1 : Addr) (s2 : Addr) (ks1 : ClassId) (ks2 : ClassId) (v0 : UInt64) (v1 : UInt64) (v2 : UInt64) (ra : Int32) (pe1 : UInt64) (tx : Int32) (ty : Int32) (va : UInt64) (vb : UInt64) (h0 : Heap) (n0 : Nat) (v : Option Value) (h : Heap) (L : List Loc) : Prop := v = none ∧ Fr n0 L ∧ Keep h0 h [fa4, fa3, fa2, o0, fa1, fa0] ∧ Exa Z h o0 "com/example/leeway/leeway/lp/BasisInverse" ∧ Fld Z h o0 "com/example/leeway/leeway/lp/BasisInverse" "pivotRows" "[I" (.ref fa0) ∧ Fld Z h o0 "com/example/leeway/leeway/lp/BasisInverse" "pivots" "[D" (.ref fa1) ∧ Fld Z h o0 "com/example/leeway/leeway/lp/BasisInverse" "termStart" "[I" (.ref fa2) ∧ Fld Z h o0 "com/example/leeway/leeway/lp/BasisInverse" "termRows" "[I" (.ref fa3) ∧ Fld Z h o0 "com/example/leeway/leeway/lp/BasisInverse" "termValues" "[D" (.ref fa4) ∧ Fld Z h o0 "com/example/leeway/leeway/lp/BasisInverse" "count" "I" (.int (1 : Int32)) ∧ Arv Z h fa0 kfa0 .int (16 : Int32) [(.int ra), (.int (0 : Int32)), (.int (0 : Int32)), (.int (0 : Int32))] (.int (0 : Int32)) ∧ Arv Z h fa1 kfa1 .double (16 : Int32) [(.double pe1), (.double (0 : UInt64)), (.double (0 : UInt64)), (.double (0 : UInt64))] (.double (0 : UInt64)) ∧ Arv Z h fa2 kfa2 .int (17 : Int32) [(.int (0 : Int32)), (.int (2 : Int32)), (.int (0 : Int32)), (.int (0 : Int32))] (.int (0 : Int32)) ∧ Arv Z h fa3 kfa3 .int (64 : Int32) [(.int tx), (.int ty), (.int (0 : Int32)), (.int (0 : Int32))] (.int (0 : Int32)) ∧ Arv Z h fa4 kfa4 .double (64 : Int32) [(.double va), (.double vb), (.double (0 : UInt64)), (.double (0 : UInt64))] (.double (0 : UInt64))
set_option maxRecDepth 65536 in
set_option maxHeartbeats 40000000 in
theorem rp12 (l : Launch) (Z : State) (a0 : Array Value) (hw : ∀ d ∈ tables_1, d.before a0 Z = true) (ws : List Jvm.Cond) (o0 : Addr) (fa0 : Addr) (fa1 : Addr) (fa2 : Addr) (fa3 : Addr) (fa4 : Addr) (kfa0 : ClassId) (kfa1 : ClassId) (kfa2 : ClassId) (kfa3 : ClassId) (kfa4 : ClassId) (s1 : Addr) (s2 : Addr) (ks1 : ClassId) (ks2 : ClassId) (v0 : UInt64) (v1 : UInt64) (v2 : UInt64) (ra : Int32) (pe1 : UInt64) (tx : Int32) (ty : Int32) (va : UInt64) (vb : UInt64) (h0 : Heap) (n0 : Nat) (Z0 : n0 ≤ h0.size) (F_pivotRows_o0 : Fld Z h0 o0 "com/example/leeway/leeway/lp/BasisInverse" "pivotRows" "[I" (.ref fa0)) (F_pivots_o0 : Fld Z h0 o0 "com/example/leeway/leeway/lp/BasisInverse" "pivots" "[D" (.ref fa1)) (F_termStart_o0 : Fld Z h0 o0 "com/example/leeway/leeway/lp/BasisInverse" "termStart" "[I" (.ref fa2)) (F_termRows_o0 : Fld Z h0 o0 "com/example/leeway/leeway/lp/BasisInverse" "termRows" "[I" (.ref fa3)) (F_termValues_o0 : Fld Z h0 o0 "com/example/leeway/leeway/lp/BasisInverse" "termValues" "[D" (.ref fa4)) (F_count_o0 : Fld Z h0 o0 "com/example/leeway/leeway/lp/BasisInverse" "count" "I" (.int (0 : Int32))) (E_o0 : Exa Z h0 o0 "com/example/leeway/leeway/lp/BasisInverse") (V_fa0 : Arv Z h0 fa0 kfa0 .int (16 : Int32) [(.int (0 : Int32)), (.int (0 : Int32)), (.int (0 : Int32)), (.int (0 : Int32))] (.int (0 : Int32))) (V_fa1 : Arv Z h0 fa1 kfa1 .double (16 : Int32) [(.double (0 : UInt64)), (.double (0 : UInt64)), (.double (0 : UInt64)), (.double (0 : UInt64))] (.double (0 : UInt64))) (V_fa2 : Arv Z h0 fa2 kfa2 .int (17 : Int32) [(.int (0 : Int32)), (.int (0 : Int32)), (.int (0 : Int32)), (.int (0 : Int32))] (.int (0 : Int32))) (V_fa3 : Arv Z h0 fa3 kfa3 .int (64 : Int32) [(.int (0 : Int32)), (.int (0 : Int32)), (.int (0 : Int32)), (.int (0 : Int32))] (.int (0 : Int32))) (V_fa4 : Arv Z h0 fa4 kfa4 .double (64 : Int32) [(.double (0 : UInt64)), (.double (0 : UInt64)), (.double (0 : UInt64)), (.double (0 : UInt64))] (.double (0 : UInt64))) (g_o0 : n0 ≤ o0) (g_fa0 : n0 ≤ fa0) (g_fa1 : n0 ≤ fa1) (g_fa2 : n0 ≤ fa2) (g_fa3 : n0 ≤ fa3) (g_fa4 : n0 ≤ fa4) (ne_o0_fa0 : o0 ≠ fa0) (ne_o0_fa1 : o0 ≠ fa1) (ne_o0_fa2 : o0 ≠ fa2) (ne_o0_fa3 : o0 ≠ fa3) (ne_o0_fa4 : o0 ≠ fa4) (ne_fa0_fa1 : fa0 ≠ fa1) (ne_fa0_fa2 : fa0 ≠ fa2) (ne_fa0_fa3 : fa0 ≠ fa3) (ne_fa0_fa4 : fa0 ≠ fa4) (ne_fa1_fa2 : fa1 ≠ fa2) (ne_fa1_fa3 : fa1 ≠ fa3) (ne_fa1_fa4 : fa1 ≠ fa4) (ne_fa2_fa3 : fa2 ≠ fa3) (ne_fa2_fa4 : fa2 ≠ fa4) (ne_fa3_fa4 : fa3 ≠ fa4) (V_s1 : Arv Z h0 s1 ks1 .int (3 : Int32) [(.int (0 : Int32)), (.int (1 : Int32)), (.int (2 : Int32))] (.int (0 : Int32))) (V_s2 : Arv Z h0 s2 ks2 .double (3 : Int32) [(.double v0), (.double v1), (.double v2)] (.double (0 : UInt64))) (ne_o0_s1 : o0 ≠ s1) (ne_o0_s2 : o0 ≠ s2) (ne_fa0_s1 : fa0 ≠ s1) (ne_fa0_s2 : fa0 ≠ s2) (ne_fa1_s1 : fa1 ≠ s1) (ne_fa1_s2 : fa1 ≠ s2) (ne_fa2_s1 : fa2 ≠ s1) (ne_fa2_s2 : fa2 ≠ s2) (ne_fa3_s1 : fa3 ≠ s1) (ne_fa3_s2 : fa3 ≠ s2) (ne_fa4_s1 : fa4 ≠ s1) (ne_fa4_s2 : fa4 ≠ s2) (hE : v2 = pe1) (hX : (0 : Int32) = tx) (hY : (1 : Int32) = ty) (hA : v0 = va) (hB : v1 = vb) (hc29 : ¬ ((0 : Int32) = ra)) (hc29_1 : ¬ ((1 : Int32) = ra)) (hc29_2 : (2 : Int32) = ra) :
    MetFree l (⟨"com/example/leeway/leeway/lp/BasisInverse", "replace", "(I[I[D)V"⟩ : MethodName) (head1 (Jvm.Cond.code (⟨"com/example/leeway/leeway/lp/BasisInverse", "replace", "(I[I[D)V"⟩ : MethodName) prog_85_method_5_code 8 none :: ws) ({ frames := 1, cells := 0, slots := 0, locals := 17 } : Room)) (fun a U => a = #[(.ref o0), (.int ra), (.ref s1), (.ref s2)] ∧ Z.Warmed39 U.vm ∧ U.heap = h0) (fun _ _ _ _ _ => True) (fun _ U o U' => ∃ v L, o = .returned v ∧ Q_rp12 Z o0 fa0 fa1 fa2 fa3 fa4 kfa0 kfa1 kfa2 kfa3 kfa4 s1 s2 ks1 ks2 v0 v1 v2 ra pe1 tx ty va vb h0 n0 v U'.heap L ∧ FrameEnd U o U' L ({ frames := 1, cells := 0, slots := 0, locals := 17 } : Room).cells ({ frames := 1, cells := 0, slots := 0, locals := 17 } : Room).slots) := by
  refine MetFree.of_bodySF (plainFor_of_name pn_com_example_leeway_leeway_lp_BasisInverse) hisR ?_
  intro p e s m args below meth c s₁ Bd hml0 hP hK
  obtain ⟨rfl, hZ, hh⟩ := hP
  have hx := Bd.exec
  have hby := Bd.bytes
  have hml : c.maxLocals = 8 := hml0
  have hown : s.vm.findClass "com/example/leeway/leeway/lp/BasisInverse" = some m.cls := findClass_of_methodNamed Bd.named
  have hnm := (name_of_methodNamed Bd.named Bd.method).1
  have X0 : Stand p l e ({ frames := 1, cells := 0, slots := 0, locals := 17 } : Room) s m #[(.ref o0), (.int ra), (.ref s1), (.ref s2)] below meth c s₁ [] 0 0 := Stand.of_body Bd
  have e0 : s₁.heap = h0 := by rw [← hh, Bd.state]; rfl
  have N0 := Fr.nil n0
  have pre0 : ∀ t, Steps p.tables e below (s₁.setTop (mkF m 0 #[.val (.ref o0), .val (.int ra), .val (.ref s1), .val (.ref s2), .unset, .unset, .unset, .unset] [])) t → Steps p.tables e below (s₁.setTop (entryFrame m #[(.ref o0), (.int ra), (.ref s1), (.ref s2)] 8)) t := fun t k => castTop (ef_6_RIRR m o0 ra s1 s2) k
  obtain ⟨T1, X1, e1, st1⟩ := getF X0 hx hZ hown (host := "") (Or.inl (hw _ (List.mem_of_getElem? (i := 19) rfl))) Via.refl e0 F_termStart_o0 (g := (mkF m 1 #[.val (.ref o0), .val (.int ra), .val (.ref s1), .val (.ref s2), .unset, .unset, .unset, .unset] [(.ref o0)])) rfl rfl (hb hby d6_1)
  obtain ⟨T2, X2, e2, st2⟩ := getF X1 hx hZ hown (host := "") (Or.inl (hw _ (List.mem_of_getElem? (i := 30) rfl))) Via.refl e1 F_count_o0 (g := (mkF m 5 #[.val (.ref o0), .val (.int ra), .val (.ref s1), .val (.ref s2), .unset, .unset, .unset, .unset] [(.ref o0), (.ref fa2)])) rfl rfl (hb hby d6_5)
  obtain ⟨cq3, Arq3, -, Sq3, -, Hq3, -⟩ := id V_fa2
  obtain ⟨cq4, Arq4, -, Sq4, Nq4, -, -⟩ := id V_s1
  obtain ⟨cq5, Arq5, -, Sq5, -, Hq5, -⟩ := id V_s1
  obtain ⟨cq6, Arq6, -, Sq6, -, Hq6, -⟩ := id V_s1
  obtain ⟨cq7, Arq7, -, Sq7, -, Hq7, -⟩ := id V_s2
  obtain ⟨cq8, q8, q8'⟩ := E_o0.cell
  obtain ⟨_, _, ⟨T8, L8, k8, n8⟩, -, X8, ⟨Lc8, hQ8, lq8, yq8, zq8⟩, st8⟩ := X2.privateBack hx (y := (⟨"com/example/leeway/leeway/lp/BasisInverse", "keep", "(IID)I"⟩ : MethodName)) hown (mvT hZ (hw _ (List.mem_of_getElem? (i := 41) rfl))) (mvT hZ (hw _ (List.mem_of_getElem? (i := 42) rfl))) (mvT hZ (own_selp (by decide) (hw _ (List.mem_of_getElem? (i := 7) rfl)) (hw _ (List.mem_of_getElem? (i := 43) rfl)) (hw _ (List.mem_of_getElem? (i := 42) rfl)))) (Cond.privateMethod_at (mvP hZ (hw _ (List.mem_of_getElem? (i := 43) rfl)) (args := #[]))) (mvT hZ (hw _ (List.mem_of_getElem? (i := 44) rfl))) (by decide) (backOf (W := 0) (kp0 l Z a0 hw [] o0 fa3 fa4 kfa3 kfa4 (0 : Int32) (0 : Int32) (0 : Int32) (0 : Int32) (0 : UInt64) (0 : UInt64) (0 : UInt64) (0 : UInt64) (0 : Int32) v0 (0 : Int32) h0 n0 Z0 F_termRows_o0 F_termValues_o0 F_count_o0 E_o0 V_fa3 V_fa4 g_o0 g_fa3 g_fa4 ne_o0_fa3 ne_o0_fa4 ne_fa3_fa4) hZ (hw _ (List.mem_of_getElem? (i := 44) rfl)) (hw _ (List.mem_of_getElem? (i := 8) rfl)) (by decide) (by decide)) (g := (mkF m 52 #[.val (.ref o0), .val (.int ra), .val (.ref s1), .val (.ref s2), .val (.int (0 : Int32)), .val (.double (0 : UInt64)), .second, .val (.int (0 : Int32))] [(.double v0), (.int (0 : Int32)), (.int (0 : Int32)), (.ref o0)])) rfl (by rw [hml]; rfl) (Steps.refl _) (a := o0) (by rw [e2]; exact q8) q8' (argsL := [(.int (0 : Int32)), (.int (0 : Int32)), (.double v0)]) (rest := []) (lenOf pd_0 rfl) rfl (by show 2 * 0 + _ ≤ _; exact Nat.le_of_eq rfl) (hb hby d6_52) (fun _ _ => ⟨rfl, e2, (by decide : 0 + 0 ≤ _), (by decide : 0 + 0 ≤ _)⟩)
  dsimp only [Pt.U, Pt.locs, Pt.cells, Pt.slots] at X8 lq8 yq8 zq8 st8 hQ8
  rw [lq8, yq8, zq8] at X8
  obtain ⟨rfl, N8q, K8q, f9, f10⟩ := hQ8
  have N8 := Fr.app N0 N8q
  have f11 := F_pivotRows_o0.keep K8q (own_niS ne_o0_fa3 (own_niS ne_o0_fa4 own_ni0))
  have f12 := F_pivots_o0.keep K8q (own_niS ne_o0_fa3 (own_niS ne_o0_fa4 own_ni0))
  have f13 := F_termStart_o0.keep K8q (own_niS ne_o0_fa3 (own_niS ne_o0_fa4 own_ni0))
  have f14 := F_termRows_o0.keep K8q (own_niS ne_o0_fa3 (own_niS ne_o0_fa4 own_ni0))
  have f15 := F_termValues_o0.keep K8q (own_niS ne_o0_fa3 (own_niS ne_o0_fa4 own_ni0))
  have f16 := F_count_o0.keep K8q (own_niS ne_o0_fa3 (own_niS ne_o0_fa4 own_ni0))
  have f17 := E_o0.keep K8q
  have f18 := V_fa0.keep K8q (own_niS ne_fa0_fa3 (own_niS ne_fa0_fa4 own_ni0))
  have f19 := V_fa1.keep K8q (own_niS ne_fa1_fa3 (own_niS ne_fa1_fa4 own_ni0))
  have f20 := V_fa2.keep K8q (own_niS ne_fa2_fa3 (own_niS ne_fa2_fa4 own_ni0))
  have f21 := V_s1.keep K8q (own_niS (Ne.symm ne_fa3_s1) (own_niS (Ne.symm ne_fa4_s1) own_ni0))
  have f22 := V_s2.keep K8q (own_niS (Ne.symm ne_fa3_s2) (own_niS (Ne.symm ne_fa4_s2) own_ni0))
  have K8 : Keep h0 T8.heap [fa4, fa3, fa2, o0, fa1, fa0] := (Keep.refl h0 [fa4, fa3, fa2, o0, fa1, fa0]).trans K8q (own_allS (Or.inl (List.mem_of_getElem? (i := 1) rfl)) (own_allS (Or.inl (List.mem_of_getElem? (i := 0) rfl)) own_all0))
  have Zs8 := Nat.le_trans Z0 K8q.1
  obtain ⟨cq23, Arq23, -, Sq23, Nq23, -, -⟩ := id f21
  obtain ⟨cq24, Arq24, -, Sq24, -, Hq24, -⟩ := id f21
  obtain ⟨cq25, Arq25, -, Sq25, -, Hq25, -⟩ := id f21
  obtain ⟨cq26, Arq26, -, Sq26, -, Hq26, -⟩ := id f22
  obtain ⟨cq27, q27, q27'⟩ := f17.cell
  obtain ⟨_, _, ⟨T27, L27, k27, n27⟩, -, X27, ⟨Lc27, hQ27, lq27, yq27, zq27⟩, st27⟩ := X8.privateBack hx (y := (⟨"com/example/leeway/leeway/lp/BasisInverse", "keep", "(IID)I"⟩ : MethodName)) hown (mvT hZ (hw _ (List.mem_of_getElem? (i := 41) rfl))) (mvT hZ (hw _ (List.mem_of_getElem? (i := 42) rfl))) (mvT hZ (own_selp (by decide) (hw _ (List.mem_of_getElem? (i := 7) rfl)) (hw _ (List.mem_of_getElem? (i := 43) rfl)) (hw _ (List.mem_of_getElem? (i := 42) rfl)))) (Cond.privateMethod_at (mvP hZ (hw _ (List.mem_of_getElem? (i := 43) rfl)) (args := #[]))) (mvT hZ (hw _ (List.mem_of_getElem? (i := 44) rfl))) (by decide) (backOf (W := 0) (kp1 l Z a0 hw [] o0 fa3 fa4 kfa3 kfa4 (0 : Int32) (0 : Int32) (0 : Int32) (0 : Int32) v0 (0 : UInt64) (0 : UInt64) (0 : UInt64) (1 : Int32) v1 (0 : Int32) T8.heap n0 Zs8 f14 f15 f16 f17 f9 f10 g_o0 g_fa3 g_fa4 ne_o0_fa3 ne_o0_fa4 ne_fa3_fa4) hZ (hw _ (List.mem_of_getElem? (i := 44) rfl)) (hw _ (List.mem_of_getElem? (i := 8) rfl)) (by decide) (by decide)) (g := (mkF m 52 #[.val (.ref o0), .val (.int ra), .val (.ref s1), .val (.ref s2), .val (.int (1 : Int32)), .val (.double (0 : UInt64)), .second, .val (.int (1 : Int32))] [(.double v1), (.int (1 : Int32)), (.int (1 : Int32)), (.ref o0)])) rfl (by rw [hml]; rfl) (Steps.refl _) (a := o0) q27 q27' (argsL := [(.int (1 : Int32)), (.int (1 : Int32)), (.double v1)]) (rest := []) (lenOf pd_0 rfl) rfl (by show 2 * 0 + _ ≤ _; exact Nat.le_of_eq rfl) (hb hby d6_52) (fun _ _ => ⟨rfl, rfl, (by decide : 0 + 0 ≤ _), (by decide : 0 + 0 ≤ _)⟩)
  dsimp only [Pt.U, Pt.locs, Pt.cells, Pt.slots] at X27 lq27 yq27 zq27 st27 hQ27
  rw [lq27, yq27, zq27] at X27
  obtain ⟨rfl, N27q, K27q, f28, f29⟩ := hQ27
  have N27 := Fr.app N8 N27q
  have f30 := f11.keep K27q (own_niS ne_o0_fa3 (own_niS ne_o0_fa4 own_ni0))
  have f31 := f12.keep K27q (own_niS ne_o0_fa3 (own_niS ne_o0_fa4 own_ni0))
  have f32 := f13.keep K27q (own_niS ne_o0_fa3 (own_niS ne_o0_fa4 own_ni0))
  have f33 := f14.keep K27q (own_niS ne_o0_fa3 (own_niS ne_o0_fa4 own_ni0))
  have f34 := f15.keep K27q (own_niS ne_o0_fa3 (own_niS ne_o0_fa4 own_ni0))
  have f35 := f16.keep K27q (own_niS ne_o0_fa3 (own_niS ne_o0_fa4 own_ni0))
  have f36 := f17.keep K27q
  have f37 := f18.keep K27q (own_niS ne_fa0_fa3 (own_niS ne_fa0_fa4 own_ni0))
  have f38 := f19.keep K27q (own_niS ne_fa1_fa3 (own_niS ne_fa1_fa4 own_ni0))
  have f39 := f20.keep K27q (own_niS ne_fa2_fa3 (own_niS ne_fa2_fa4 own_ni0))
  have f40 := f21.keep K27q (own_niS (Ne.symm ne_fa3_s1) (own_niS (Ne.symm ne_fa4_s1) own_ni0))
  have f41 := f22.keep K27q (own_niS (Ne.symm ne_fa3_s2) (own_niS (Ne.symm ne_fa4_s2) own_ni0))
  have K27 : Keep h0 T27.heap [fa4, fa3, fa2, o0, fa1, fa0] := K8.trans K27q (own_allS (Or.inl (List.mem_of_getElem? (i := 1) rfl)) (own_allS (Or.inl (List.mem_of_getElem? (i := 0) rfl)) own_all0))
  have Zs27 := Nat.le_trans Zs8 K27q.1
  obtain ⟨cq42, Arq42, -, Sq42, Nq42, -, -⟩ := id f40
  obtain ⟨cq43, Arq43, -, Sq43, -, Hq43, -⟩ := id f40
  obtain ⟨cq44, Arq44, -, Sq44, -, Hq44, -⟩ := id f41
  obtain ⟨cq45, Arq45, -, Sq45, Nq45, -, -⟩ := id f40
  obtain ⟨cq46, q46, q46'⟩ := f36.cell
  obtain ⟨_, _, ⟨T46, L46, k46, n46⟩, -, X46, ⟨Lc46, hQ46, lq46, yq46, zq46⟩, st46⟩ := X27.privateBack hx (y := (⟨"com/example/leeway/leeway/lp/BasisInverse", "close", "(IDI)V"⟩ : MethodName)) hown (mvT hZ (hw _ (List.mem_of_getElem? (i := 45) rfl))) (mvT hZ (hw _ (List.mem_of_getElem? (i := 46) rfl))) (mvT hZ (own_selp (by decide) (hw _ (List.mem_of_getElem? (i := 7) rfl)) (hw _ (List.mem_of_getElem? (i := 47) rfl)) (hw _ (List.mem_of_getElem? (i := 46) rfl)))) (Cond.privateMethod_at (mvP hZ (hw _ (List.mem_of_getElem? (i := 47) rfl)) (args := #[]))) (mvT hZ (hw _ (List.mem_of_getElem? (i := 48) rfl))) (by decide) (backOf (W := 0) (cs0 l Z a0 hw [] o0 fa0 fa1 fa2 fa3 fa4 kfa0 kfa1 kfa2 (0 : Int32) (0 : Int32) (0 : Int32) (0 : Int32) (0 : UInt64) (0 : UInt64) (0 : UInt64) (0 : UInt64) (0 : Int32) (0 : Int32) (0 : Int32) (0 : Int32) ra v2 (2 : Int32) T27.heap n0 Zs27 f30 f31 f32 f35 f36 f37 f38 f39 g_o0 g_fa0 g_fa1 g_fa2 ne_o0_fa0 ne_o0_fa1 ne_o0_fa2 ne_fa0_fa1 ne_fa0_fa2 ne_fa1_fa2 f33 f34) hZ (hw _ (List.mem_of_getElem? (i := 48) rfl)) (hw _ (List.mem_of_getElem? (i := 8) rfl)) (by decide) (by decide)) (g := (mkF m 69 #[.val (.ref o0), .val (.int ra), .val (.ref s1), .val (.ref s2), .val (.int (2 : Int32)), .val (.double v2), .second, .val (.int (3 : Int32))] [(.int (2 : Int32)), (.double v2), (.int ra), (.ref o0)])) rfl (by rw [hml]; rfl) (Steps.refl _) (a := o0) q46 q46' (argsL := [(.int ra), (.double v2), (.int (2 : Int32))]) (rest := []) (lenOf pd_1 rfl) rfl (by show 2 * 0 + _ ≤ _; exact Nat.le_of_eq rfl) (hb hby d6_69) (fun _ _ => ⟨rfl, rfl, (by decide : 0 + 0 ≤ _), (by decide : 0 + 0 ≤ _)⟩)
  dsimp only [Pt.U, Pt.locs, Pt.cells, Pt.slots] at X46 lq46 yq46 zq46 st46 hQ46
  rw [lq46, yq46, zq46] at X46
  obtain ⟨rfl, N46q, K46q, f47, f48, f49, f50, f51, f52, f53, f54, f55⟩ := hQ46
  have N46 := Fr.app N27 N46q
  have f56 := f36.keep K46q
  have f57 := f28.keep K46q (own_niS (Ne.symm ne_fa0_fa3) (own_niS (Ne.symm ne_fa1_fa3) (own_niS (Ne.symm ne_o0_fa3) (own_niS (Ne.symm ne_fa2_fa3) own_ni0))))
  have f58 := f29.keep K46q (own_niS (Ne.symm ne_fa0_fa4) (own_niS (Ne.symm ne_fa1_fa4) (own_niS (Ne.symm ne_o0_fa4) (own_niS (Ne.symm ne_fa2_fa4) own_ni0))))
  have f59 := f40.keep K46q (own_niS (Ne.symm ne_fa0_s1) (own_niS (Ne.symm ne_fa1_s1) (own_niS (Ne.symm ne_o0_s1) (own_niS (Ne.symm ne_fa2_s1) own_ni0))))
  have f60 := f41.keep K46q (own_niS (Ne.symm ne_fa0_s2) (own_niS (Ne.symm ne_fa1_s2) (own_niS (Ne.symm ne_o0_s2) (own_niS (Ne.symm ne_fa2_s2) own_ni0))))
  have K46 : Keep h0 T46.heap [fa4, fa3, fa2, o0, fa1, fa0] := K27.trans K46q (own_allS (Or.inl (List.mem_of_getElem? (i := 5) rfl)) (own_allS (Or.inl (List.mem_of_getElem? (i := 4) rfl)) (own_allS (Or.inl (List.mem_of_getElem? (i := 3) rfl)) (own_allS (Or.inl (List.mem_of_getElem? (i := 2) rfl)) own_all0))))
  have Zs46 := Nat.le_trans Zs27 K46q.1
  have f61 := own_arvL (vs1 := [(.double pe1), (.double (0 : UInt64)), (.double (0 : UInt64)), (.double (0 : UInt64))]) ((by rw [hE]) : ([(.double v2), (.double (0 : UInt64)), (.double (0 : UInt64)), (.double (0 : UInt64))] : List Value) = [(.double pe1), (.double (0 : UInt64)), (.double (0 : UInt64)), (.double (0 : UInt64))]) f54
  have f62 := own_arvL (vs1 := [(.int tx), (.int ty), (.int (0 : Int32)), (.int (0 : Int32))]) ((by rw [hX, hY]) : ([(.int (0 : Int32)), (.int (1 : Int32)), (.int (0 : Int32)), (.int (0 : Int32))] : List Value) = [(.int tx), (.int ty), (.int (0 : Int32)), (.int (0 : Int32))]) f57
  have f63 := own_arvL (vs1 := [(.double va), (.double vb), (.double (0 : UInt64)), (.double (0 : UInt64))]) ((by rw [hA, hB]) : ([(.double v0), (.double v1), (.double (0 : UInt64)), (.double (0 : UInt64))] : List Value) = [(.double va), (.double vb), (.double (0 : UInt64)), (.double (0 : UInt64))]) f58
  obtain ⟨fs, hr, hrun, hended, hW, hsame⟩ := X46.leave (v := none) (fun _ => rfl)
  refine ⟨_, _, pre0 _ ?_, hrun, hended, _, _, rfl, ?_, ⟨_, rfl⟩, hW, hsame.mono (by decide) (by decide)⟩
  · show Steps p.tables e below (s₁.setTop (mkF m 0 #[.val (.ref o0), .val (.int ra), .val (.ref s1), .val (.ref s2), .unset, .unset, .unset, .unset] [])) _
    refine XS.aloadN X0.here hx rfl (hb hby d6_0) rfl rfl ?_
    refine st1 _ ?_
    show Steps p.tables e below (T1.setTop (mkF m 4 #[.val (.ref o0), .val (.int ra), .val (.ref s1), .val (.ref s2), .unset, .unset, .unset, .unset] [(.ref fa2)])) _
    refine XS.aloadN X1.here hx rfl (hb hby d6_4) rfl rfl ?_
    refine st2 _ ?_
    show Steps p.tables e below (T2.setTop (mkF m 8 #[.val (.ref o0), .val (.int ra), .val (.ref s1), .val (.ref s2), .unset, .unset, .unset, .unset] [(.int (0 : Int32)), (.ref fa2)])) _
    refine X2.iaload hx (j := (0 : Int32)) (v := (.int (0 : Int32))) (by rw [e2]; exact Arq3.1) (State.isArrayOf_alike hZ.alike Arq3.2.1) Arq3.2.2 (inb_of Sq3 ⟨by decide, by decide⟩) (Has.at Hq3 (inb_of Sq3 ⟨by decide, by decide⟩) rfl) (g := (mkF m 8 #[.val (.ref o0), .val (.int ra), .val (.ref s1), .val (.ref s2), .unset, .unset, .unset, .unset] [(.int (0 : Int32)), (.ref fa2)])) rfl rfl (hb hby d6_8) _ ?_
    show Steps p.tables e below (T2.setTop (mkF m 9 #[.val (.ref o0), .val (.int ra), .val (.ref s1), .val (.ref s2), .unset, .unset, .unset, .unset] [(.int (0 : Int32))])) _
    refine XS.istore X2.here hx rfl (hb hby d6_9) rfl (l' := #[.val (.ref o0), .val (.int ra), .val (.ref s1), .val (.ref s2), .val (.int (0 : Int32)), .unset, .unset, .unset]) rfl ?_
    refine XS.dconst0 X2.here hx rfl (hb hby d6_11) (v := (0 : UInt64)) rfl ?_
    refine XS.dstore X2.here hx rfl (hb hby d6_12) rfl (l' := #[.val (.ref o0), .val (.int ra), .val (.ref s1), .val (.ref s2), .val (.int (0 : Int32)), .val (.double (0 : UInt64)), .second, .unset]) rfl ?_
    refine XS.iconst X2.here hx rfl (hb hby d6_14) ?_
    refine XS.istore X2.here hx rfl (hb hby d6_15) rfl (l' := #[.val (.ref o0), .val (.int ra), .val (.ref s1), .val (.ref s2), .val (.int (0 : Int32)), .val (.double (0 : UInt64)), .second, .val (.int (0 : Int32))]) rfl ?_
    refine XS.iload X2.here hx rfl (hb hby d6_17) rfl ?_
    show Steps p.tables e below (T2.setTop (mkF m 19 #[.val (.ref o0), .val (.int ra), .val (.ref s1), .val (.ref s2), .val (.int (0 : Int32)), .val (.double (0 : UInt64)), .second, .val (.int (0 : Int32))] [(.int (0 : Int32))])) _
    refine XS.aloadN X2.here hx rfl (hb hby d6_19) rfl rfl ?_
    refine X2.arraylength hx (by rw [e2]; exact Arq4.1) (State.isArrayOf_alike hZ.alike Arq4.2.1) (g := (mkF m 20 #[.val (.ref o0), .val (.int ra), .val (.ref s1), .val (.ref s2), .val (.int (0 : Int32)), .val (.double (0 : UInt64)), .second, .val (.int (0 : Int32))] [(.ref s1), (.int (0 : Int32))])) rfl rfl (hb hby d6_20) _ ?_
    rw [len_of Sq4 Nq4]
    show Steps p.tables e below (T2.setTop (mkF m 21 #[.val (.ref o0), .val (.int ra), .val (.ref s1), .val (.ref s2), .val (.int (0 : Int32)), .val (.double (0 : UInt64)), .second, .val (.int (0 : Int32))] [(.int (3 : Int32)), (.int (0 : Int32))])) _
    refine XS.icmpNo X2.here hx rfl (hb hby d6_21) rfl (tlt (by decide : (0 : Int32) < (3 : Int32))).2.1 ?_
    refine XS.aloadN X2.here hx rfl (hb hby d6_24) rfl rfl ?_
    refine XS.iload X2.here hx rfl (hb hby d6_25) rfl ?_
    refine X2.iaload hx (j := (0 : Int32)) (v := (.int (0 : Int32))) (by rw [e2]; exact Arq5.1) (State.isArrayOf_alike hZ.alike Arq5.2.1) Arq5.2.2 (inb_of Sq5 ⟨by decide, by decide⟩) (Has.at Hq5 (inb_of Sq5 ⟨by decide, by decide⟩) rfl) (g := (mkF m 27 #[.val (.ref o0), .val (.int ra), .val (.ref s1), .val (.ref s2), .val (.int (0 : Int32)), .val (.double (0 : UInt64)), .second, .val (.int (0 : Int32))] [(.int (0 : Int32)), (.ref s1)])) rfl rfl (hb hby d6_27) _ ?_
    show Steps p.tables e below (T2.setTop (mkF m 28 #[.val (.ref o0), .val (.int ra), .val (.ref s1), .val (.ref s2), .val (.int (0 : Int32)), .val (.double (0 : UInt64)), .second, .val (.int (0 : Int32))] [(.int (0 : Int32))])) _
    refine XS.iloadN X2.here hx rfl (hb hby d6_28) rfl ?_
    refine XS.icmpYes X2.here hx rfl (pc0 := 29) (pc' := 41) rfl (hb hby d6_29) rfl (feq hc29).2 (by decide) (by decide) ?_
    refine XS.aloadN X2.here hx rfl (hb hby d6_41) rfl rfl ?_
    refine XS.iload X2.here hx rfl (hb hby d6_42) rfl ?_
    refine XS.aloadN X2.here hx rfl (hb hby d6_44) rfl rfl ?_
    refine XS.iload X2.here hx rfl (hb hby d6_45) rfl ?_
    show Steps p.tables e below (T2.setTop (mkF m 47 #[.val (.ref o0), .val (.int ra), .val (.ref s1), .val (.ref s2), .val (.int (0 : Int32)), .val (.double (0 : UInt64)), .second, .val (.int (0 : Int32))] [(.int (0 : Int32)), (.ref s1), (.int (0 : Int32)), (.ref o0)])) _
    refine X2.iaload hx (j := (0 : Int32)) (v := (.int (0 : Int32))) (by rw [e2]; exact Arq6.1) (State.isArrayOf_alike hZ.alike Arq6.2.1) Arq6.2.2 (inb_of Sq6 ⟨by decide, by decide⟩) (Has.at Hq6 (inb_of Sq6 ⟨by decide, by decide⟩) rfl) (g := (mkF m 47 #[.val (.ref o0), .val (.int ra), .val (.ref s1), .val (.ref s2), .val (.int (0 : Int32)), .val (.double (0 : UInt64)), .second, .val (.int (0 : Int32))] [(.int (0 : Int32)), (.ref s1), (.int (0 : Int32)), (.ref o0)])) rfl rfl (hb hby d6_47) _ ?_
    show Steps p.tables e below (T2.setTop (mkF m 48 #[.val (.ref o0), .val (.int ra), .val (.ref s1), .val (.ref s2), .val (.int (0 : Int32)), .val (.double (0 : UInt64)), .second, .val (.int (0 : Int32))] [(.int (0 : Int32)), (.int (0 : Int32)), (.ref o0)])) _
    refine XS.aloadN X2.here hx rfl (hb hby d6_48) rfl rfl ?_
    refine XS.iload X2.here hx rfl (hb hby d6_49) rfl ?_
    refine X2.daload hx (j := (0 : Int32)) (v := (.double v0)) (by rw [e2]; exact Arq7.1) (State.isArrayOf_alike hZ.alike Arq7.2.1) Arq7.2.2 (inb_of Sq7 ⟨by decide, by decide⟩) (Has.at Hq7 (inb_of Sq7 ⟨by decide, by decide⟩) rfl) (g := (mkF m 51 #[.val (.ref o0), .val (.int ra), .val (.ref s1), .val (.ref s2), .val (.int (0 : Int32)), .val (.double (0 : UInt64)), .second, .val (.int (0 : Int32))] [(.int (0 : Int32)), (.ref s2), (.int (0 : Int32)), (.int (0 : Int32)), (.ref o0)])) rfl rfl (hb hby d6_51) _ ?_
    show Steps p.tables e below (T2.setTop (mkF m 52 #[.val (.ref o0), .val (.int ra), .val (.ref s1), .val (.ref s2), .val (.int (0 : Int32)), .val (.double (0 : UInt64)), .second, .val (.int (0 : Int32))] [(.double v0), (.int (0 : Int32)), (.int (0 : Int32)), (.ref o0)])) _
    refine st8.trans ?_
    show Steps p.tables e below (T8.setTop (mkF m 55 #[.val (.ref o0), .val (.int ra), .val (.ref s1), .val (.ref s2), .val (.int (0 : Int32)), .val (.double (0 : UInt64)), .second, .val (.int (0 : Int32))] [(.int (1 : Int32))])) _
    refine XS.istore X8.here hx rfl (hb hby d6_55) rfl (l' := #[.val (.ref o0), .val (.int ra), .val (.ref s1), .val (.ref s2), .val (.int (1 : Int32)), .val (.double (0 : UInt64)), .second, .val (.int (0 : Int32))]) rfl ?_
    show Steps p.tables e below (T8.setTop (mkF m 57 #[.val (.ref o0), .val (.int ra), .val (.ref s1), .val (.ref s2), .val (.int (1 : Int32)), .val (.double (0 : UInt64)), .second, .val (.int (0 : Int32))] [])) _
    refine XS.iinc X8.here hx rfl (hb hby d6_57) rfl (l' := #[.val (.ref o0), .val (.int ra), .val (.ref s1), .val (.ref s2), .val (.int (1 : Int32)), .val (.double (0 : UInt64)), .second, .val (.int ((0 : Int32) + (1 : Int32)))]) rfl ?_
    show Steps p.tables e below (T8.setTop (mkF m 60 #[.val (.ref o0), .val (.int ra), .val (.ref s1), .val (.ref s2), .val (.int (1 : Int32)), .val (.double (0 : UInt64)), .second, .val (.int ((0 : Int32) + (1 : Int32)))] [])) _
    rw [show ((0 : Int32) + (1 : Int32)) = (1 : Int32) by decide]
    show Steps p.tables e below (T8.setTop (mkF m 60 #[.val (.ref o0), .val (.int ra), .val (.ref s1), .val (.ref s2), .val (.int (1 : Int32)), .val (.double (0 : UInt64)), .second, .val (.int (1 : Int32))] [])) _
    refine XS.goto X8.here hx rfl (pc0 := 60) (pc' := 17) rfl (hb hby d6_60) (by decide) (by decide) ?_
    refine XS.iload X8.here hx rfl (hb hby d6_17) rfl ?_
    refine XS.aloadN X8.here hx rfl (hb hby d6_19) rfl rfl ?_
    refine X8.arraylength hx Arq23.1 (State.isArrayOf_alike hZ.alike Arq23.2.1) (g := (mkF m 20 #[.val (.ref o0), .val (.int ra), .val (.ref s1), .val (.ref s2), .val (.int (1 : Int32)), .val (.double (0 : UInt64)), .second, .val (.int (1 : Int32))] [(.ref s1), (.int (1 : Int32))])) rfl rfl (hb hby d6_20) _ ?_
    rw [len_of Sq23 Nq23]
    show Steps p.tables e below (T8.setTop (mkF m 21 #[.val (.ref o0), .val (.int ra), .val (.ref s1), .val (.ref s2), .val (.int (1 : Int32)), .val (.double (0 : UInt64)), .second, .val (.int (1 : Int32))] [(.int (3 : Int32)), (.int (1 : Int32))])) _
    refine XS.icmpNo X8.here hx rfl (hb hby d6_21) rfl (tlt (by decide : (1 : Int32) < (3 : Int32))).2.1 ?_
    refine XS.aloadN X8.here hx rfl (hb hby d6_24) rfl rfl ?_
    refine XS.iload X8.here hx rfl (hb hby d6_25) rfl ?_
    refine X8.iaload hx (j := (1 : Int32)) (v := (.int (1 : Int32))) Arq24.1 (State.isArrayOf_alike hZ.alike Arq24.2.1) Arq24.2.2 (inb_of Sq24 ⟨by decide, by decide⟩) (Has.at Hq24 (inb_of Sq24 ⟨by decide, by decide⟩) rfl) (g := (mkF m 27 #[.val (.ref o0), .val (.int ra), .val (.ref s1), .val (.ref s2), .val (.int (1 : Int32)), .val (.double (0 : UInt64)), .second, .val (.int (1 : Int32))] [(.int (1 : Int32)), (.ref s1)])) rfl rfl (hb hby d6_27) _ ?_
    show Steps p.tables e below (T8.setTop (mkF m 28 #[.val (.ref o0), .val (.int ra), .val (.ref s1), .val (.ref s2), .val (.int (1 : Int32)), .val (.double (0 : UInt64)), .second, .val (.int (1 : Int32))] [(.int (1 : Int32))])) _
    refine XS.iloadN X8.here hx rfl (hb hby d6_28) rfl ?_
    refine XS.icmpYes X8.here hx rfl (pc0 := 29) (pc' := 41) rfl (hb hby d6_29) rfl (feq hc29_1).2 (by decide) (by decide) ?_
    show Steps p.tables e below (T8.setTop (mkF m 41 #[.val (.ref o0), .val (.int ra), .val (.ref s1), .val (.ref s2), .val (.int (1 : Int32)), .val (.double (0 : UInt64)), .second, .val (.int (1 : Int32))] [])) _
    refine XS.aloadN X8.here hx rfl (hb hby d6_41) rfl rfl ?_
    refine XS.iload X8.here hx rfl (hb hby d6_42) rfl ?_
    refine XS.aloadN X8.here hx rfl (hb hby d6_44) rfl rfl ?_
    refine XS.iload X8.here hx rfl (hb hby d6_45) rfl ?_
    refine X8.iaload hx (j := (1 : Int32)) (v := (.int (1 : Int32))) Arq25.1 (State.isArrayOf_alike hZ.alike Arq25.2.1) Arq25.2.2 (inb_of Sq25 ⟨by decide, by decide⟩) (Has.at Hq25 (inb_of Sq25 ⟨by decide, by decide⟩) rfl) (g := (mkF m 47 #[.val (.ref o0), .val (.int ra), .val (.ref s1), .val (.ref s2), .val (.int (1 : Int32)), .val (.double (0 : UInt64)), .second, .val (.int (1 : Int32))] [(.int (1 : Int32)), (.ref s1), (.int (1 : Int32)), (.ref o0)])) rfl rfl (hb hby d6_47) _ ?_
    show Steps p.tables e below (T8.setTop (mkF m 48 #[.val (.ref o0), .val (.int ra), .val (.ref s1), .val (.ref s2), .val (.int (1 : Int32)), .val (.double (0 : UInt64)), .second, .val (.int (1 : Int32))] [(.int (1 : Int32)), (.int (1 : Int32)), (.ref o0)])) _
    refine XS.aloadN X8.here hx rfl (hb hby d6_48) rfl rfl ?_
    show Steps p.tables e below (T8.setTop (mkF m 49 #[.val (.ref o0), .val (.int ra), .val (.ref s1), .val (.ref s2), .val (.int (1 : Int32)), .val (.double (0 : UInt64)), .second, .val (.int (1 : Int32))] [(.ref s2), (.int (1 : Int32)), (.int (1 : Int32)), (.ref o0)])) _
    refine XS.iload X8.here hx rfl (hb hby d6_49) rfl ?_
    refine X8.daload hx (j := (1 : Int32)) (v := (.double v1)) Arq26.1 (State.isArrayOf_alike hZ.alike Arq26.2.1) Arq26.2.2 (inb_of Sq26 ⟨by decide, by decide⟩) (Has.at Hq26 (inb_of Sq26 ⟨by decide, by decide⟩) rfl) (g := (mkF m 51 #[.val (.ref o0), .val (.int ra), .val (.ref s1), .val (.ref s2), .val (.int (1 : Int32)), .val (.double (0 : UInt64)), .second, .val (.int (1 : Int32))] [(.int (1 : Int32)), (.ref s2), (.int (1 : Int32)), (.int (1 : Int32)), (.ref o0)])) rfl rfl (hb hby d6_51) _ ?_
    show Steps p.tables e below (T8.setTop (mkF m 52 #[.val (.ref o0), .val (.int ra), .val (.ref s1), .val (.ref s2), .val (.int (1 : Int32)), .val (.double (0 : UInt64)), .second, .val (.int (1 : Int32))] [(.double v1), (.int (1 : Int32)), (.int (1 : Int32)), (.ref o0)])) _
    refine st27.trans ?_
    show Steps p.tables e below (T27.setTop (mkF m 55 #[.val (.ref o0), .val (.int ra), .val (.ref s1), .val (.ref s2), .val (.int (1 : Int32)), .val (.double (0 : UInt64)), .second, .val (.int (1 : Int32))] [(.int (2 : Int32))])) _
    refine XS.istore X27.here hx rfl (hb hby d6_55) rfl (l' := #[.val (.ref o0), .val (.int ra), .val (.ref s1), .val (.ref s2), .val (.int (2 : Int32)), .val (.double (0 : UInt64)), .second, .val (.int (1 : Int32))]) rfl ?_
    refine XS.iinc X27.here hx rfl (hb hby d6_57) rfl (l' := #[.val (.ref o0), .val (.int ra), .val (.ref s1), .val (.ref s2), .val (.int (2 : Int32)), .val (.double (0 : UInt64)), .second, .val (.int ((1 : Int32) + (1 : Int32)))]) rfl ?_
    show Steps p.tables e below (T27.setTop (mkF m 60 #[.val (.ref o0), .val (.int ra), .val (.ref s1), .val (.ref s2), .val (.int (2 : Int32)), .val (.double (0 : UInt64)), .second, .val (.int ((1 : Int32) + (1 : Int32)))] [])) _
    rw [show ((1 : Int32) + (1 : Int32)) = (2 : Int32) by decide]
    show Steps p.tables e below (T27.setTop (mkF m 60 #[.val (.ref o0), .val (.int ra), .val (.ref s1), .val (.ref s2), .val (.int (2 : Int32)), .val (.double (0 : UInt64)), .second, .val (.int (2 : Int32))] [])) _
    refine XS.goto X27.here hx rfl (pc0 := 60) (pc' := 17) rfl (hb hby d6_60) (by decide) (by decide) ?_
    refine XS.iload X27.here hx rfl (hb hby d6_17) rfl ?_
    refine XS.aloadN X27.here hx rfl (hb hby d6_19) rfl rfl ?_
    refine X27.arraylength hx Arq42.1 (State.isArrayOf_alike hZ.alike Arq42.2.1) (g := (mkF m 20 #[.val (.ref o0), .val (.int ra), .val (.ref s1), .val (.ref s2), .val (.int (2 : Int32)), .val (.double (0 : UInt64)), .second, .val (.int (2 : Int32))] [(.ref s1), (.int (2 : Int32))])) rfl rfl (hb hby d6_20) _ ?_
    rw [len_of Sq42 Nq42]
    show Steps p.tables e below (T27.setTop (mkF m 21 #[.val (.ref o0), .val (.int ra), .val (.ref s1), .val (.ref s2), .val (.int (2 : Int32)), .val (.double (0 : UInt64)), .second, .val (.int (2 : Int32))] [(.int (3 : Int32)), (.int (2 : Int32))])) _
    refine XS.icmpNo X27.here hx rfl (hb hby d6_21) rfl (tlt (by decide : (2 : Int32) < (3 : Int32))).2.1 ?_
    refine XS.aloadN X27.here hx rfl (hb hby d6_24) rfl rfl ?_
    show Steps p.tables e below (T27.setTop (mkF m 25 #[.val (.ref o0), .val (.int ra), .val (.ref s1), .val (.ref s2), .val (.int (2 : Int32)), .val (.double (0 : UInt64)), .second, .val (.int (2 : Int32))] [(.ref s1)])) _
    refine XS.iload X27.here hx rfl (hb hby d6_25) rfl ?_
    refine X27.iaload hx (j := (2 : Int32)) (v := (.int (2 : Int32))) Arq43.1 (State.isArrayOf_alike hZ.alike Arq43.2.1) Arq43.2.2 (inb_of Sq43 ⟨by decide, by decide⟩) (Has.at Hq43 (inb_of Sq43 ⟨by decide, by decide⟩) rfl) (g := (mkF m 27 #[.val (.ref o0), .val (.int ra), .val (.ref s1), .val (.ref s2), .val (.int (2 : Int32)), .val (.double (0 : UInt64)), .second, .val (.int (2 : Int32))] [(.int (2 : Int32)), (.ref s1)])) rfl rfl (hb hby d6_27) _ ?_
    show Steps p.tables e below (T27.setTop (mkF m 28 #[.val (.ref o0), .val (.int ra), .val (.ref s1), .val (.ref s2), .val (.int (2 : Int32)), .val (.double (0 : UInt64)), .second, .val (.int (2 : Int32))] [(.int (2 : Int32))])) _
    refine XS.iloadN X27.here hx rfl (hb hby d6_28) rfl ?_
    refine XS.icmpNo X27.here hx rfl (hb hby d6_29) rfl (teq hc29_2).2 ?_
    refine XS.aloadN X27.here hx rfl (hb hby d6_32) rfl rfl ?_
    refine XS.iload X27.here hx rfl (hb hby d6_33) rfl ?_
    show Steps p.tables e below (T27.setTop (mkF m 35 #[.val (.ref o0), .val (.int ra), .val (.ref s1), .val (.ref s2), .val (.int (2 : Int32)), .val (.double (0 : UInt64)), .second, .val (.int (2 : Int32))] [(.int (2 : Int32)), (.ref s2)])) _
    refine X27.daload hx (j := (2 : Int32)) (v := (.double v2)) Arq44.1 (State.isArrayOf_alike hZ.alike Arq44.2.1) Arq44.2.2 (inb_of Sq44 ⟨by decide, by decide⟩) (Has.at Hq44 (inb_of Sq44 ⟨by decide, by decide⟩) rfl) (g := (mkF m 35 #[.val (.ref o0), .val (.int ra), .val (.ref s1), .val (.ref s2), .val (.int (2 : Int32)), .val (.double (0 : UInt64)), .second, .val (.int (2 : Int32))] [(.int (2 : Int32)), (.ref s2)])) rfl rfl (hb hby d6_35) _ ?_
    show Steps p.tables e below (T27.setTop (mkF m 36 #[.val (.ref o0), .val (.int ra), .val (.ref s1), .val (.ref s2), .val (.int (2 : Int32)), .val (.double (0 : UInt64)), .second, .val (.int (2 : Int32))] [(.double v2)])) _
    refine XS.dstore X27.here hx rfl (hb hby d6_36) rfl (l' := #[.val (.ref o0), .val (.int ra), .val (.ref s1), .val (.ref s2), .val (.int (2 : Int32)), .val (.double v2), .second, .val (.int (2 : Int32))]) rfl ?_
    refine XS.goto X27.here hx rfl (pc0 := 38) (pc' := 57) rfl (hb hby d6_38) (by decide) (by decide) ?_
    refine XS.iinc X27.here hx rfl (hb hby d6_57) rfl (l' := #[.val (.ref o0), .val (.int ra), .val (.ref s1), .val (.ref s2), .val (.int (2 : Int32)), .val (.double v2), .second, .val (.int ((2 : Int32) + (1 : Int32)))]) rfl ?_
    show Steps p.tables e below (T27.setTop (mkF m 60 #[.val (.ref o0), .val (.int ra), .val (.ref s1), .val (.ref s2), .val (.int (2 : Int32)), .val (.double v2), .second, .val (.int ((2 : Int32) + (1 : Int32)))] [])) _
    rw [show ((2 : Int32) + (1 : Int32)) = (3 : Int32) by decide]
    show Steps p.tables e below (T27.setTop (mkF m 60 #[.val (.ref o0), .val (.int ra), .val (.ref s1), .val (.ref s2), .val (.int (2 : Int32)), .val (.double v2), .second, .val (.int (3 : Int32))] [])) _
    refine XS.goto X27.here hx rfl (pc0 := 60) (pc' := 17) rfl (hb hby d6_60) (by decide) (by decide) ?_
    show Steps p.tables e below (T27.setTop (mkF m 17 #[.val (.ref o0), .val (.int ra), .val (.ref s1), .val (.ref s2), .val (.int (2 : Int32)), .val (.double v2), .second, .val (.int (3 : Int32))] [])) _
    refine XS.iload X27.here hx rfl (hb hby d6_17) rfl ?_
    refine XS.aloadN X27.here hx rfl (hb hby d6_19) rfl rfl ?_
    refine X27.arraylength hx Arq45.1 (State.isArrayOf_alike hZ.alike Arq45.2.1) (g := (mkF m 20 #[.val (.ref o0), .val (.int ra), .val (.ref s1), .val (.ref s2), .val (.int (2 : Int32)), .val (.double v2), .second, .val (.int (3 : Int32))] [(.ref s1), (.int (3 : Int32))])) rfl rfl (hb hby d6_20) _ ?_
    rw [len_of Sq45 Nq45]
    show Steps p.tables e below (T27.setTop (mkF m 21 #[.val (.ref o0), .val (.int ra), .val (.ref s1), .val (.ref s2), .val (.int (2 : Int32)), .val (.double v2), .second, .val (.int (3 : Int32))] [(.int (3 : Int32)), (.int (3 : Int32))])) _
    refine XS.icmpYes X27.here hx rfl (pc0 := 21) (pc' := 63) rfl (hb hby d6_21) rfl (flt (by decide : ¬ ((3 : Int32) < (3 : Int32)))).2.1 (by decide) (by decide) ?_
    refine XS.aloadN X27.here hx rfl (hb hby d6_63) rfl rfl ?_
    refine XS.iloadN X27.here hx rfl (hb hby d6_64) rfl ?_
    show Steps p.tables e below (T27.setTop (mkF m 65 #[.val (.ref o0), .val (.int ra), .val (.ref s1), .val (.ref s2), .val (.int (2 : Int32)), .val (.double v2), .second, .val (.int (3 : Int32))] [(.int ra), (.ref o0)])) _
    refine XS.dload X27.here hx rfl (hb hby d6_65) rfl ?_
    refine XS.iload X27.here hx rfl (hb hby d6_67) rfl ?_
    refine st46.trans ?_
    show Steps p.tables e below (T46.setTop (mkF m 72 #[.val (.ref o0), .val (.int ra), .val (.ref s1), .val (.ref s2), .val (.int (2 : Int32)), .val (.double v2), .second, .val (.int (3 : Int32))] [])) _
    exact X46.returnOut hx Bd.returns (hb hby d6_72) hr
  · show Q_rp12 Z o0 fa0 fa1 fa2 fa3 fa4 kfa0 kfa1 kfa2 kfa3 kfa4 s1 s2 ks1 ks2 v0 v1 v2 ra pe1 tx ty va vb h0 n0 _ T46.heap _
    exact ⟨rfl, N46, K46, f56, f47, f48, f49, f50, f51, f52, f53, f61, f55, f62, f63⟩
def Q_rp1 (Z : State) (o0 : Addr) (fa0 : Addr) (fa1 : Addr) (fa2 : Addr) (fa3 : Addr) (fa4 : Addr) (kfa0 : ClassId) (kfa1 : ClassId) (kfa2 : ClassId) (kfa3 : ClassId) (kfa4 : ClassId) (s1 : Addr) (s2 : Addr) (ks1 : ClassId) (ks2 : ClassId) (v0 : UInt64) (v1 : UInt64) (v2 : UInt64) (ra : Int32) (pe1 : UInt64) (tx : Int32) (ty : Int32) (va : UInt64) (vb : UInt64) (h0 : Heap) (n0 : Nat) (v : Option Value) (h : Heap) (L : List Loc) : Prop := v = none ∧ Fr n0 L ∧ Keep h0 h [fa4, fa3, fa2, o0, fa1, fa0] ∧ Exa Z h o0 "com/example/leeway/leeway/lp/BasisInverse" ∧ Fld Z h o0 "com/example/leeway/leeway/lp/BasisInverse" "pivotRows" "[I" (.ref fa0) ∧ Fld Z h o0 "com/example/leeway/leeway/lp/BasisInverse" "pivots" "[D" (.ref fa1) ∧ Fld Z h o0 "com/example/leeway/leeway/lp/BasisInverse" "termStart" "[I" (.ref fa2) ∧ Fld Z h o0 "com/example/leeway/leeway/lp/BasisInverse" "termRows" "[I" (.ref fa3) ∧ Fld Z h o0 "com/example/leeway/leeway/lp/BasisInverse" "termValues" "[D" (.ref fa4) ∧ Fld Z h o0 "com/example/leeway/leeway/lp/BasisInverse" "count" "I" (.int (1 : Int32)) ∧ Arv Z h fa0 kfa0 .int (16 : Int32) [(.int ra), (.int (0 : Int32)), (.int (0 : Int32)), (.int (0 : Int32))] (.int (0 : Int32)) ∧ Arv Z h fa1 kfa1 .double (16 : Int32) [(.double pe1), (.double (0 : UInt64)), (.double (0 : UInt64)), (.double (0 : UInt64))] (.double (0 : UInt64)) ∧ Arv Z h fa2 kfa2 .int (17 : Int32) [(.int (0 : Int32)), (.int (2 : Int32)), (.int (0 : Int32)), (.int (0 : Int32))] (.int (0 : Int32)) ∧ Arv Z h fa3 kfa3 .int (64 : Int32) [(.int tx), (.int ty), (.int (0 : Int32)), (.int (0 : Int32))] (.int (0 : Int32)) ∧ Arv Z h fa4 kfa4 .double (64 : Int32) [(.double va), (.double vb), (.double (0 : UInt64)), (.double (0 : UInt64))] (.double (0 : UInt64))
theorem rp1 (l : Launch) (Z : State) (a0 : Array Value) (hw : ∀ d ∈ tables_1, d.before a0 Z = true) (ws : List Jvm.Cond) (o0 : Addr) (fa0 : Addr) (fa1 : Addr) (fa2 : Addr) (fa3 : Addr) (fa4 : Addr) (kfa0 : ClassId) (kfa1 : ClassId) (kfa2 : ClassId) (kfa3 : ClassId) (kfa4 : ClassId) (s1 : Addr) (s2 : Addr) (ks1 : ClassId) (ks2 : ClassId) (v0 : UInt64) (v1 : UInt64) (v2 : UInt64) (ra : Int32) (pe1 : UInt64) (tx : Int32) (ty : Int32) (va : UInt64) (vb : UInt64) (h0 : Heap) (n0 : Nat) (Z0 : n0 ≤ h0.size) (F_pivotRows_o0 : Fld Z h0 o0 "com/example/leeway/leeway/lp/BasisInverse" "pivotRows" "[I" (.ref fa0)) (F_pivots_o0 : Fld Z h0 o0 "com/example/leeway/leeway/lp/BasisInverse" "pivots" "[D" (.ref fa1)) (F_termStart_o0 : Fld Z h0 o0 "com/example/leeway/leeway/lp/BasisInverse" "termStart" "[I" (.ref fa2)) (F_termRows_o0 : Fld Z h0 o0 "com/example/leeway/leeway/lp/BasisInverse" "termRows" "[I" (.ref fa3)) (F_termValues_o0 : Fld Z h0 o0 "com/example/leeway/leeway/lp/BasisInverse" "termValues" "[D" (.ref fa4)) (F_count_o0 : Fld Z h0 o0 "com/example/leeway/leeway/lp/BasisInverse" "count" "I" (.int (0 : Int32))) (E_o0 : Exa Z h0 o0 "com/example/leeway/leeway/lp/BasisInverse") (V_fa0 : Arv Z h0 fa0 kfa0 .int (16 : Int32) [(.int (0 : Int32)), (.int (0 : Int32)), (.int (0 : Int32)), (.int (0 : Int32))] (.int (0 : Int32))) (V_fa1 : Arv Z h0 fa1 kfa1 .double (16 : Int32) [(.double (0 : UInt64)), (.double (0 : UInt64)), (.double (0 : UInt64)), (.double (0 : UInt64))] (.double (0 : UInt64))) (V_fa2 : Arv Z h0 fa2 kfa2 .int (17 : Int32) [(.int (0 : Int32)), (.int (0 : Int32)), (.int (0 : Int32)), (.int (0 : Int32))] (.int (0 : Int32))) (V_fa3 : Arv Z h0 fa3 kfa3 .int (64 : Int32) [(.int (0 : Int32)), (.int (0 : Int32)), (.int (0 : Int32)), (.int (0 : Int32))] (.int (0 : Int32))) (V_fa4 : Arv Z h0 fa4 kfa4 .double (64 : Int32) [(.double (0 : UInt64)), (.double (0 : UInt64)), (.double (0 : UInt64)), (.double (0 : UInt64))] (.double (0 : UInt64))) (g_o0 : n0 ≤ o0) (g_fa0 : n0 ≤ fa0) (g_fa1 : n0 ≤ fa1) (g_fa2 : n0 ≤ fa2) (g_fa3 : n0 ≤ fa3) (g_fa4 : n0 ≤ fa4) (ne_o0_fa0 : o0 ≠ fa0) (ne_o0_fa1 : o0 ≠ fa1) (ne_o0_fa2 : o0 ≠ fa2) (ne_o0_fa3 : o0 ≠ fa3) (ne_o0_fa4 : o0 ≠ fa4) (ne_fa0_fa1 : fa0 ≠ fa1) (ne_fa0_fa2 : fa0 ≠ fa2) (ne_fa0_fa3 : fa0 ≠ fa3) (ne_fa0_fa4 : fa0 ≠ fa4) (ne_fa1_fa2 : fa1 ≠ fa2) (ne_fa1_fa3 : fa1 ≠ fa3) (ne_fa1_fa4 : fa1 ≠ fa4) (ne_fa2_fa3 : fa2 ≠ fa3) (ne_fa2_fa4 : fa2 ≠ fa4) (ne_fa3_fa4 : fa3 ≠ fa4) (V_s1 : Arv Z h0 s1 ks1 .int (3 : Int32) [(.int (0 : Int32)), (.int (1 : Int32)), (.int (2 : Int32))] (.int (0 : Int32))) (V_s2 : Arv Z h0 s2 ks2 .double (3 : Int32) [(.double v0), (.double v1), (.double v2)] (.double (0 : UInt64))) (ne_o0_s1 : o0 ≠ s1) (ne_o0_s2 : o0 ≠ s2) (ne_fa0_s1 : fa0 ≠ s1) (ne_fa0_s2 : fa0 ≠ s2) (ne_fa1_s1 : fa1 ≠ s1) (ne_fa1_s2 : fa1 ≠ s2) (ne_fa2_s1 : fa2 ≠ s1) (ne_fa2_s2 : fa2 ≠ s2) (ne_fa3_s1 : fa3 ≠ s1) (ne_fa3_s2 : fa3 ≠ s2) (ne_fa4_s1 : fa4 ≠ s1) (ne_fa4_s2 : fa4 ≠ s2) (hcase : ((v0 = pe1) ∧ ((1 : Int32) = tx) ∧ ((2 : Int32) = ty) ∧ (v1 = va) ∧ (v2 = vb) ∧ ((0 : Int32) = ra) ∧ (¬ ((1 : Int32) = ra)) ∧ (¬ ((2 : Int32) = ra))) ∨ ((v1 = pe1) ∧ ((0 : Int32) = tx) ∧ ((2 : Int32) = ty) ∧ (v0 = va) ∧ (v2 = vb) ∧ (¬ ((0 : Int32) = ra)) ∧ ((1 : Int32) = ra) ∧ (¬ ((2 : Int32) = ra))) ∨ ((v2 = pe1) ∧ ((0 : Int32) = tx) ∧ ((1 : Int32) = ty) ∧ (v0 = va) ∧ (v1 = vb) ∧ (¬ ((0 : Int32) = ra)) ∧ (¬ ((1 : Int32) = ra)) ∧ ((2 : Int32) = ra))) :
    MetFree l (⟨"com/example/leeway/leeway/lp/BasisInverse", "replace", "(I[I[D)V"⟩ : MethodName) (head1 (Jvm.Cond.code (⟨"com/example/leeway/leeway/lp/BasisInverse", "replace", "(I[I[D)V"⟩ : MethodName) prog_85_method_5_code 8 none :: ws) ({ frames := 1, cells := 0, slots := 0, locals := 17 } : Room)) (fun a U => a = #[(.ref o0), (.int ra), (.ref s1), (.ref s2)] ∧ Z.Warmed39 U.vm ∧ U.heap = h0) (fun _ _ _ _ _ => True) (fun _ U o U' => ∃ v L, o = .returned v ∧ Q_rp1 Z o0 fa0 fa1 fa2 fa3 fa4 kfa0 kfa1 kfa2 kfa3 kfa4 s1 s2 ks1 ks2 v0 v1 v2 ra pe1 tx ty va vb h0 n0 v U'.heap L ∧ FrameEnd U o U' L ({ frames := 1, cells := 0, slots := 0, locals := 17 } : Room).cells ({ frames := 1, cells := 0, slots := 0, locals := 17 } : Room).slots) := by
  rcases hcase with ⟨h_hE, h_hX, h_hY, h_hA, h_hB, h_hc29, h_hc29_1, h_hc29_2⟩ | ⟨h_hE, h_hX, h_hY, h_hA, h_hB, h_hc29, h_hc29_1, h_hc29_2⟩ | ⟨h_hE, h_hX, h_hY, h_hA, h_hB, h_hc29, h_hc29_1, h_hc29_2⟩
  · exact rp10 l Z a0 hw ws o0 fa0 fa1 fa2 fa3 fa4 kfa0 kfa1 kfa2 kfa3 kfa4 s1 s2 ks1 ks2 v0 v1 v2 ra pe1 tx ty va vb h0 n0 Z0 (F_pivotRows_o0 := F_pivotRows_o0) (F_pivots_o0 := F_pivots_o0) (F_termStart_o0 := F_termStart_o0) (F_termRows_o0 := F_termRows_o0) (F_termValues_o0 := F_termValues_o0) (F_count_o0 := F_count_o0) (E_o0 := E_o0) (V_fa0 := V_fa0) (V_fa1 := V_fa1) (V_fa2 := V_fa2) (V_fa3 := V_fa3) (V_fa4 := V_fa4) (g_o0 := g_o0) (g_fa0 := g_fa0) (g_fa1 := g_fa1) (g_fa2 := g_fa2) (g_fa3 := g_fa3) (g_fa4 := g_fa4) (ne_o0_fa0 := ne_o0_fa0) (ne_o0_fa1 := ne_o0_fa1) (ne_o0_fa2 := ne_o0_fa2) (ne_o0_fa3 := ne_o0_fa3) (ne_o0_fa4 := ne_o0_fa4) (ne_fa0_fa1 := ne_fa0_fa1) (ne_fa0_fa2 := ne_fa0_fa2) (ne_fa0_fa3 := ne_fa0_fa3) (ne_fa0_fa4 := ne_fa0_fa4) (ne_fa1_fa2 := ne_fa1_fa2) (ne_fa1_fa3 := ne_fa1_fa3) (ne_fa1_fa4 := ne_fa1_fa4) (ne_fa2_fa3 := ne_fa2_fa3) (ne_fa2_fa4 := ne_fa2_fa4) (ne_fa3_fa4 := ne_fa3_fa4) (V_s1 := V_s1) (V_s2 := V_s2) (ne_o0_s1 := ne_o0_s1) (ne_o0_s2 := ne_o0_s2) (ne_fa0_s1 := ne_fa0_s1) (ne_fa0_s2 := ne_fa0_s2) (ne_fa1_s1 := ne_fa1_s1) (ne_fa1_s2 := ne_fa1_s2) (ne_fa2_s1 := ne_fa2_s1) (ne_fa2_s2 := ne_fa2_s2) (ne_fa3_s1 := ne_fa3_s1) (ne_fa3_s2 := ne_fa3_s2) (ne_fa4_s1 := ne_fa4_s1) (ne_fa4_s2 := ne_fa4_s2) (hE := h_hE) (hX := h_hX) (hY := h_hY) (hA := h_hA) (hB := h_hB) (hc29 := h_hc29) (hc29_1 := h_hc29_1) (hc29_2 := h_hc29_2)
  · exact rp11 l Z a0 hw ws o0 fa0 fa1 fa2 fa3 fa4 kfa0 kfa1 kfa2 kfa3 kfa4 s1 s2 ks1 ks2 v0 v1 v2 ra pe1 tx ty va vb h0 n0 Z0 (F_pivotRows_o0 := F_pivotRows_o0) (F_pivots_o0 := F_pivots_o0) (F_termStart_o0 := F_termStart_o0) (F_termRows_o0 := F_termRows_o0) (F_termValues_o0 := F_termValues_o0) (F_count_o0 := F_count_o0) (E_o0 := E_o0) (V_fa0 := V_fa0) (V_fa1 := V_fa1) (V_fa2 := V_fa2) (V_fa3 := V_fa3) (V_fa4 := V_fa4) (g_o0 := g_o0) (g_fa0 := g_fa0) (g_fa1 := g_fa1) (g_fa2 := g_fa2) (g_fa3 := g_fa3) (g_fa4 := g_fa4) (ne_o0_fa0 := ne_o0_fa0) (ne_o0_fa1 := ne_o0_fa1) (ne_o0_fa2 := ne_o0_fa2) (ne_o0_fa3 := ne_o0_fa3) (ne_o0_fa4 := ne_o0_fa4) (ne_fa0_fa1 := ne_fa0_fa1) (ne_fa0_fa2 := ne_fa0_fa2) (ne_fa0_fa3 := ne_fa0_fa3) (ne_fa0_fa4 := ne_fa0_fa4) (ne_fa1_fa2 := ne_fa1_fa2) (ne_fa1_fa3 := ne_fa1_fa3) (ne_fa1_fa4 := ne_fa1_fa4) (ne_fa2_fa3 := ne_fa2_fa3) (ne_fa2_fa4 := ne_fa2_fa4) (ne_fa3_fa4 := ne_fa3_fa4) (V_s1 := V_s1) (V_s2 := V_s2) (ne_o0_s1 := ne_o0_s1) (ne_o0_s2 := ne_o0_s2) (ne_fa0_s1 := ne_fa0_s1) (ne_fa0_s2 := ne_fa0_s2) (ne_fa1_s1 := ne_fa1_s1) (ne_fa1_s2 := ne_fa1_s2) (ne_fa2_s1 := ne_fa2_s1) (ne_fa2_s2 := ne_fa2_s2) (ne_fa3_s1 := ne_fa3_s1) (ne_fa3_s2 := ne_fa3_s2) (ne_fa4_s1 := ne_fa4_s1) (ne_fa4_s2 := ne_fa4_s2) (hE := h_hE) (hX := h_hX) (hY := h_hY) (hA := h_hA) (hB := h_hB) (hc29 := h_hc29) (hc29_1 := h_hc29_1) (hc29_2 := h_hc29_2)
  · exact rp12 l Z a0 hw ws o0 fa0 fa1 fa2 fa3 fa4 kfa0 kfa1 kfa2 kfa3 kfa4 s1 s2 ks1 ks2 v0 v1 v2 ra pe1 tx ty va vb h0 n0 Z0 (F_pivotRows_o0 := F_pivotRows_o0) (F_pivots_o0 := F_pivots_o0) (F_termStart_o0 := F_termStart_o0) (F_termRows_o0 := F_termRows_o0) (F_termValues_o0 := F_termValues_o0) (F_count_o0 := F_count_o0) (E_o0 := E_o0) (V_fa0 := V_fa0) (V_fa1 := V_fa1) (V_fa2 := V_fa2) (V_fa3 := V_fa3) (V_fa4 := V_fa4) (g_o0 := g_o0) (g_fa0 := g_fa0) (g_fa1 := g_fa1) (g_fa2 := g_fa2) (g_fa3 := g_fa3) (g_fa4 := g_fa4) (ne_o0_fa0 := ne_o0_fa0) (ne_o0_fa1 := ne_o0_fa1) (ne_o0_fa2 := ne_o0_fa2) (ne_o0_fa3 := ne_o0_fa3) (ne_o0_fa4 := ne_o0_fa4) (ne_fa0_fa1 := ne_fa0_fa1) (ne_fa0_fa2 := ne_fa0_fa2) (ne_fa0_fa3 := ne_fa0_fa3) (ne_fa0_fa4 := ne_fa0_fa4) (ne_fa1_fa2 := ne_fa1_fa2) (ne_fa1_fa3 := ne_fa1_fa3) (ne_fa1_fa4 := ne_fa1_fa4) (ne_fa2_fa3 := ne_fa2_fa3) (ne_fa2_fa4 := ne_fa2_fa4) (ne_fa3_fa4 := ne_fa3_fa4) (V_s1 := V_s1) (V_s2 := V_s2) (ne_o0_s1 := ne_o0_s1) (ne_o0_s2 := ne_o0_s2) (ne_fa0_s1 := ne_fa0_s1) (ne_fa0_s2 := ne_fa0_s2) (ne_fa1_s1 := ne_fa1_s1) (ne_fa1_s2 := ne_fa1_s2) (ne_fa2_s1 := ne_fa2_s1) (ne_fa2_s2 := ne_fa2_s2) (ne_fa3_s1 := ne_fa3_s1) (ne_fa3_s2 := ne_fa3_s2) (ne_fa4_s1 := ne_fa4_s1) (ne_fa4_s2 := ne_fa4_s2) (hE := h_hE) (hX := h_hX) (hY := h_hY) (hA := h_hA) (hB := h_hB) (hc29 := h_hc29) (hc29_1 := h_hc29_1) (hc29_2 := h_hc29_2)
def Q_rp2 (Z : State) (o0 : Addr) (fa0 : Addr) (fa1 : Addr) (fa2 : Addr) (fa3 : Addr) (fa4 : Addr) (kfa0 : ClassId) (kfa1 : ClassId) (kfa2 : ClassId) (kfa3 : ClassId) (kfa4 : ClassId) (ra : Int32) (pe1 : UInt64) (tx : Int32) (ty : Int32) (va : UInt64) (vb : UInt64) (s1 : Addr) (s2 : Addr) (ks1 : ClassId) (ks2 : ClassId) (rb : Int32) (rc : Int32) (w0 : UInt64) (w1 : UInt64) (h0 : Heap) (n0 : Nat) (v : Option Value) (h : Heap) (L : List Loc) : Prop := v = none ∧ Fr n0 L ∧ Keep h0 h [fa4, fa3, fa2, o0, fa1, fa0] ∧ Exa Z h o0 "com/example/leeway/leeway/lp/BasisInverse" ∧ Fld Z h o0 "com/example/leeway/leeway/lp/BasisInverse" "pivotRows" "[I" (.ref fa0) ∧ Fld Z h o0 "com/example/leeway/leeway/lp/BasisInverse" "pivots" "[D" (.ref fa1) ∧ Fld Z h o0 "com/example/leeway/leeway/lp/BasisInverse" "termStart" "[I" (.ref fa2) ∧ Fld Z h o0 "com/example/leeway/leeway/lp/BasisInverse" "termRows" "[I" (.ref fa3) ∧ Fld Z h o0 "com/example/leeway/leeway/lp/BasisInverse" "termValues" "[D" (.ref fa4) ∧ Fld Z h o0 "com/example/leeway/leeway/lp/BasisInverse" "count" "I" (.int (2 : Int32)) ∧ Arv Z h fa0 kfa0 .int (16 : Int32) [(.int ra), (.int rb), (.int (0 : Int32)), (.int (0 : Int32))] (.int (0 : Int32)) ∧ Arv Z h fa1 kfa1 .double (16 : Int32) [(.double pe1), (.double w0), (.double (0 : UInt64)), (.double (0 : UInt64))] (.double (0 : UInt64)) ∧ Arv Z h fa2 kfa2 .int (17 : Int32) [(.int (0 : Int32)), (.int (2 : Int32)), (.int (3 : Int32)), (.int (0 : Int32))] (.int (0 : Int32)) ∧ Arv Z h fa3 kfa3 .int (64 : Int32) [(.int tx), (.int ty), (.int rc), (.int (0 : Int32))] (.int (0 : Int32)) ∧ Arv Z h fa4 kfa4 .double (64 : Int32) [(.double va), (.double vb), (.double w1), (.double (0 : UInt64))] (.double (0 : UInt64))
set_option maxRecDepth 65536 in
set_option maxHeartbeats 40000000 in
theorem rp2 (l : Launch) (Z : State) (a0 : Array Value) (hw : ∀ d ∈ tables_1, d.before a0 Z = true) (ws : List Jvm.Cond) (o0 : Addr) (fa0 : Addr) (fa1 : Addr) (fa2 : Addr) (fa3 : Addr) (fa4 : Addr) (kfa0 : ClassId) (kfa1 : ClassId) (kfa2 : ClassId) (kfa3 : ClassId) (kfa4 : ClassId) (ra : Int32) (pe1 : UInt64) (tx : Int32) (ty : Int32) (va : UInt64) (vb : UInt64) (s1 : Addr) (s2 : Addr) (ks1 : ClassId) (ks2 : ClassId) (rb : Int32) (rc : Int32) (w0 : UInt64) (w1 : UInt64) (h0 : Heap) (n0 : Nat) (Z0 : n0 ≤ h0.size) (F_pivotRows_o0 : Fld Z h0 o0 "com/example/leeway/leeway/lp/BasisInverse" "pivotRows" "[I" (.ref fa0)) (F_pivots_o0 : Fld Z h0 o0 "com/example/leeway/leeway/lp/BasisInverse" "pivots" "[D" (.ref fa1)) (F_termStart_o0 : Fld Z h0 o0 "com/example/leeway/leeway/lp/BasisInverse" "termStart" "[I" (.ref fa2)) (F_termRows_o0 : Fld Z h0 o0 "com/example/leeway/leeway/lp/BasisInverse" "termRows" "[I" (.ref fa3)) (F_termValues_o0 : Fld Z h0 o0 "com/example/leeway/leeway/lp/BasisInverse" "termValues" "[D" (.ref fa4)) (F_count_o0 : Fld Z h0 o0 "com/example/leeway/leeway/lp/BasisInverse" "count" "I" (.int (1 : Int32))) (E_o0 : Exa Z h0 o0 "com/example/leeway/leeway/lp/BasisInverse") (V_fa0 : Arv Z h0 fa0 kfa0 .int (16 : Int32) [(.int ra), (.int (0 : Int32)), (.int (0 : Int32)), (.int (0 : Int32))] (.int (0 : Int32))) (V_fa1 : Arv Z h0 fa1 kfa1 .double (16 : Int32) [(.double pe1), (.double (0 : UInt64)), (.double (0 : UInt64)), (.double (0 : UInt64))] (.double (0 : UInt64))) (V_fa2 : Arv Z h0 fa2 kfa2 .int (17 : Int32) [(.int (0 : Int32)), (.int (2 : Int32)), (.int (0 : Int32)), (.int (0 : Int32))] (.int (0 : Int32))) (V_fa3 : Arv Z h0 fa3 kfa3 .int (64 : Int32) [(.int tx), (.int ty), (.int (0 : Int32)), (.int (0 : Int32))] (.int (0 : Int32))) (V_fa4 : Arv Z h0 fa4 kfa4 .double (64 : Int32) [(.double va), (.double vb), (.double (0 : UInt64)), (.double (0 : UInt64))] (.double (0 : UInt64))) (g_o0 : n0 ≤ o0) (g_fa0 : n0 ≤ fa0) (g_fa1 : n0 ≤ fa1) (g_fa2 : n0 ≤ fa2) (g_fa3 : n0 ≤ fa3) (g_fa4 : n0 ≤ fa4) (ne_o0_fa0 : o0 ≠ fa0) (ne_o0_fa1 : o0 ≠ fa1) (ne_o0_fa2 : o0 ≠ fa2) (ne_o0_fa3 : o0 ≠ fa3) (ne_o0_fa4 : o0 ≠ fa4) (ne_fa0_fa1 : fa0 ≠ fa1) (ne_fa0_fa2 : fa0 ≠ fa2) (ne_fa0_fa3 : fa0 ≠ fa3) (ne_fa0_fa4 : fa0 ≠ fa4) (ne_fa1_fa2 : fa1 ≠ fa2) (ne_fa1_fa3 : fa1 ≠ fa3) (ne_fa1_fa4 : fa1 ≠ fa4) (ne_fa2_fa3 : fa2 ≠ fa3) (ne_fa2_fa4 : fa2 ≠ fa4) (ne_fa3_fa4 : fa3 ≠ fa4) (V_s1 : Arv Z h0 s1 ks1 .int (2 : Int32) [(.int rb), (.int rc)] (.int (0 : Int32))) (V_s2 : Arv Z h0 s2 ks2 .double (2 : Int32) [(.double w0), (.double w1)] (.double (0 : UInt64))) (ne_o0_s1 : o0 ≠ s1) (ne_o0_s2 : o0 ≠ s2) (ne_fa0_s1 : fa0 ≠ s1) (ne_fa0_s2 : fa0 ≠ s2) (ne_fa1_s1 : fa1 ≠ s1) (ne_fa1_s2 : fa1 ≠ s2) (ne_fa2_s1 : fa2 ≠ s1) (ne_fa2_s2 : fa2 ≠ s2) (ne_fa3_s1 : fa3 ≠ s1) (ne_fa3_s2 : fa3 ≠ s2) (ne_fa4_s1 : fa4 ≠ s1) (ne_fa4_s2 : fa4 ≠ s2) (hc29 : ¬ (rc = rb)) :
    MetFree l (⟨"com/example/leeway/leeway/lp/BasisInverse", "replace", "(I[I[D)V"⟩ : MethodName) (head1 (Jvm.Cond.code (⟨"com/example/leeway/leeway/lp/BasisInverse", "replace", "(I[I[D)V"⟩ : MethodName) prog_85_method_5_code 8 none :: ws) ({ frames := 1, cells := 0, slots := 0, locals := 17 } : Room)) (fun a U => a = #[(.ref o0), (.int rb), (.ref s1), (.ref s2)] ∧ Z.Warmed39 U.vm ∧ U.heap = h0) (fun _ _ _ _ _ => True) (fun _ U o U' => ∃ v L, o = .returned v ∧ Q_rp2 Z o0 fa0 fa1 fa2 fa3 fa4 kfa0 kfa1 kfa2 kfa3 kfa4 ra pe1 tx ty va vb s1 s2 ks1 ks2 rb rc w0 w1 h0 n0 v U'.heap L ∧ FrameEnd U o U' L ({ frames := 1, cells := 0, slots := 0, locals := 17 } : Room).cells ({ frames := 1, cells := 0, slots := 0, locals := 17 } : Room).slots) := by
  refine MetFree.of_bodySF (plainFor_of_name pn_com_example_leeway_leeway_lp_BasisInverse) hisR ?_
  intro p e s m args below meth c s₁ Bd hml0 hP hK
  obtain ⟨rfl, hZ, hh⟩ := hP
  have hx := Bd.exec
  have hby := Bd.bytes
  have hml : c.maxLocals = 8 := hml0
  have hown : s.vm.findClass "com/example/leeway/leeway/lp/BasisInverse" = some m.cls := findClass_of_methodNamed Bd.named
  have hnm := (name_of_methodNamed Bd.named Bd.method).1
  have X0 : Stand p l e ({ frames := 1, cells := 0, slots := 0, locals := 17 } : Room) s m #[(.ref o0), (.int rb), (.ref s1), (.ref s2)] below meth c s₁ [] 0 0 := Stand.of_body Bd
  have e0 : s₁.heap = h0 := by rw [← hh, Bd.state]; rfl
  have N0 := Fr.nil n0
  have pre0 : ∀ t, Steps p.tables e below (s₁.setTop (mkF m 0 #[.val (.ref o0), .val (.int rb), .val (.ref s1), .val (.ref s2), .unset, .unset, .unset, .unset] [])) t → Steps p.tables e below (s₁.setTop (entryFrame m #[(.ref o0), (.int rb), (.ref s1), (.ref s2)] 8)) t := fun t k => castTop (ef_6_RIRR m o0 rb s1 s2) k
  obtain ⟨T1, X1, e1, st1⟩ := getF X0 hx hZ hown (host := "") (Or.inl (hw _ (List.mem_of_getElem? (i := 19) rfl))) Via.refl e0 F_termStart_o0 (g := (mkF m 1 #[.val (.ref o0), .val (.int rb), .val (.ref s1), .val (.ref s2), .unset, .unset, .unset, .unset] [(.ref o0)])) rfl rfl (hb hby d6_1)
  obtain ⟨T2, X2, e2, st2⟩ := getF X1 hx hZ hown (host := "") (Or.inl (hw _ (List.mem_of_getElem? (i := 30) rfl))) Via.refl e1 F_count_o0 (g := (mkF m 5 #[.val (.ref o0), .val (.int rb), .val (.ref s1), .val (.ref s2), .unset, .unset, .unset, .unset] [(.ref o0), (.ref fa2)])) rfl rfl (hb hby d6_5)
  obtain ⟨cq3, Arq3, -, Sq3, -, Hq3, -⟩ := id V_fa2
  obtain ⟨cq4, Arq4, -, Sq4, Nq4, -, -⟩ := id V_s1
  obtain ⟨cq5, Arq5, -, Sq5, -, Hq5, -⟩ := id V_s1
  obtain ⟨cq6, Arq6, -, Sq6, -, Hq6, -⟩ := id V_s2
  obtain ⟨cq7, Arq7, -, Sq7, Nq7, -, -⟩ := id V_s1
  obtain ⟨cq8, Arq8, -, Sq8, -, Hq8, -⟩ := id V_s1
  obtain ⟨cq9, Arq9, -, Sq9, -, Hq9, -⟩ := id V_s1
  obtain ⟨cq10, Arq10, -, Sq10, -, Hq10, -⟩ := id V_s2
  obtain ⟨cq11, q11, q11'⟩ := E_o0.cell
  obtain ⟨_, _, ⟨T11, L11, k11, n11⟩, -, X11, ⟨Lc11, hQ11, lq11, yq11, zq11⟩, st11⟩ := X2.privateBack hx (y := (⟨"com/example/leeway/leeway/lp/BasisInverse", "keep", "(IID)I"⟩ : MethodName)) hown (mvT hZ (hw _ (List.mem_of_getElem? (i := 41) rfl))) (mvT hZ (hw _ (List.mem_of_getElem? (i := 42) rfl))) (mvT hZ (own_selp (by decide) (hw _ (List.mem_of_getElem? (i := 7) rfl)) (hw _ (List.mem_of_getElem? (i := 43) rfl)) (hw _ (List.mem_of_getElem? (i := 42) rfl)))) (Cond.privateMethod_at (mvP hZ (hw _ (List.mem_of_getElem? (i := 43) rfl)) (args := #[]))) (mvT hZ (hw _ (List.mem_of_getElem? (i := 44) rfl))) (by decide) (backOf (W := 0) (kp2 l Z a0 hw [] o0 fa3 fa4 kfa3 kfa4 tx ty (0 : Int32) (0 : Int32) va vb (0 : UInt64) (0 : UInt64) rc w1 (1 : Int32) h0 n0 Z0 F_termRows_o0 F_termValues_o0 F_count_o0 E_o0 V_fa3 V_fa4 g_o0 g_fa3 g_fa4 ne_o0_fa3 ne_o0_fa4 ne_fa3_fa4) hZ (hw _ (List.mem_of_getElem? (i := 44) rfl)) (hw _ (List.mem_of_getElem? (i := 8) rfl)) (by decide) (by decide)) (g := (mkF m 52 #[.val (.ref o0), .val (.int rb), .val (.ref s1), .val (.ref s2), .val (.int (2 : Int32)), .val (.double w0), .second, .val (.int (1 : Int32))] [(.double w1), (.int rc), (.int (2 : Int32)), (.ref o0)])) rfl (by rw [hml]; rfl) (Steps.refl _) (a := o0) (by rw [e2]; exact q11) q11' (argsL := [(.int (2 : Int32)), (.int rc), (.double w1)]) (rest := []) (lenOf pd_0 rfl) rfl (by show 2 * 0 + _ ≤ _; exact Nat.le_of_eq rfl) (hb hby d6_52) (fun _ _ => ⟨rfl, e2, (by decide : 0 + 0 ≤ _), (by decide : 0 + 0 ≤ _)⟩)
  dsimp only [Pt.U, Pt.locs, Pt.cells, Pt.slots] at X11 lq11 yq11 zq11 st11 hQ11
  rw [lq11, yq11, zq11] at X11
  obtain ⟨rfl, N11q, K11q, f12, f13⟩ := hQ11
  have N11 := Fr.app N0 N11q
  have f14 := F_pivotRows_o0.keep K11q (own_niS ne_o0_fa3 (own_niS ne_o0_fa4 own_ni0))
  have f15 := F_pivots_o0.keep K11q (own_niS ne_o0_fa3 (own_niS ne_o0_fa4 own_ni0))
  have f16 := F_termStart_o0.keep K11q (own_niS ne_o0_fa3 (own_niS ne_o0_fa4 own_ni0))
  have f17 := F_termRows_o0.keep K11q (own_niS ne_o0_fa3 (own_niS ne_o0_fa4 own_ni0))
  have f18 := F_termValues_o0.keep K11q (own_niS ne_o0_fa3 (own_niS ne_o0_fa4 own_ni0))
  have f19 := F_count_o0.keep K11q (own_niS ne_o0_fa3 (own_niS ne_o0_fa4 own_ni0))
  have f20 := E_o0.keep K11q
  have f21 := V_fa0.keep K11q (own_niS ne_fa0_fa3 (own_niS ne_fa0_fa4 own_ni0))
  have f22 := V_fa1.keep K11q (own_niS ne_fa1_fa3 (own_niS ne_fa1_fa4 own_ni0))
  have f23 := V_fa2.keep K11q (own_niS ne_fa2_fa3 (own_niS ne_fa2_fa4 own_ni0))
  have f24 := V_s1.keep K11q (own_niS (Ne.symm ne_fa3_s1) (own_niS (Ne.symm ne_fa4_s1) own_ni0))
  have f25 := V_s2.keep K11q (own_niS (Ne.symm ne_fa3_s2) (own_niS (Ne.symm ne_fa4_s2) own_ni0))
  have K11 : Keep h0 T11.heap [fa4, fa3, fa2, o0, fa1, fa0] := (Keep.refl h0 [fa4, fa3, fa2, o0, fa1, fa0]).trans K11q (own_allS (Or.inl (List.mem_of_getElem? (i := 1) rfl)) (own_allS (Or.inl (List.mem_of_getElem? (i := 0) rfl)) own_all0))
  have Zs11 := Nat.le_trans Z0 K11q.1
  obtain ⟨cq26, Arq26, -, Sq26, Nq26, -, -⟩ := id f24
  obtain ⟨cq27, q27, q27'⟩ := f20.cell
  obtain ⟨_, _, ⟨T27, L27, k27, n27⟩, -, X27, ⟨Lc27, hQ27, lq27, yq27, zq27⟩, st27⟩ := X11.privateBack hx (y := (⟨"com/example/leeway/leeway/lp/BasisInverse", "close", "(IDI)V"⟩ : MethodName)) hown (mvT hZ (hw _ (List.mem_of_getElem? (i := 45) rfl))) (mvT hZ (hw _ (List.mem_of_getElem? (i := 46) rfl))) (mvT hZ (own_selp (by decide) (hw _ (List.mem_of_getElem? (i := 7) rfl)) (hw _ (List.mem_of_getElem? (i := 47) rfl)) (hw _ (List.mem_of_getElem? (i := 46) rfl)))) (Cond.privateMethod_at (mvP hZ (hw _ (List.mem_of_getElem? (i := 47) rfl)) (args := #[]))) (mvT hZ (hw _ (List.mem_of_getElem? (i := 48) rfl))) (by decide) (backOf (W := 0) (cs1 l Z a0 hw [] o0 fa0 fa1 fa2 fa3 fa4 kfa0 kfa1 kfa2 ra (0 : Int32) (0 : Int32) (0 : Int32) pe1 (0 : UInt64) (0 : UInt64) (0 : UInt64) (0 : Int32) (2 : Int32) (0 : Int32) (0 : Int32) rb w0 (3 : Int32) T11.heap n0 Zs11 f14 f15 f16 f19 f20 f21 f22 f23 g_o0 g_fa0 g_fa1 g_fa2 ne_o0_fa0 ne_o0_fa1 ne_o0_fa2 ne_fa0_fa1 ne_fa0_fa2 ne_fa1_fa2 f17 f18) hZ (hw _ (List.mem_of_getElem? (i := 48) rfl)) (hw _ (List.mem_of_getElem? (i := 8) rfl)) (by decide) (by decide)) (g := (mkF m 69 #[.val (.ref o0), .val (.int rb), .val (.ref s1), .val (.ref s2), .val (.int (3 : Int32)), .val (.double w0), .second, .val (.int (2 : Int32))] [(.int (3 : Int32)), (.double w0), (.int rb), (.ref o0)])) rfl (by rw [hml]; rfl) (Steps.refl _) (a := o0) q27 q27' (argsL := [(.int rb), (.double w0), (.int (3 : Int32))]) (rest := []) (lenOf pd_1 rfl) rfl (by show 2 * 0 + _ ≤ _; exact Nat.le_of_eq rfl) (hb hby d6_69) (fun _ _ => ⟨rfl, rfl, (by decide : 0 + 0 ≤ _), (by decide : 0 + 0 ≤ _)⟩)
  dsimp only [Pt.U, Pt.locs, Pt.cells, Pt.slots] at X27 lq27 yq27 zq27 st27 hQ27
  rw [lq27, yq27, zq27] at X27
  obtain ⟨rfl, N27q, K27q, f28, f29, f30, f31, f32, f33, f34, f35, f36⟩ := hQ27
  have N27 := Fr.app N11 N27q
  have f37 := f20.keep K27q
  have f38 := f12.keep K27q (own_niS (Ne.symm ne_fa0_fa3) (own_niS (Ne.symm ne_fa1_fa3) (own_niS (Ne.symm ne_o0_fa3) (own_niS (Ne.symm ne_fa2_fa3) own_ni0))))
  have f39 := f13.keep K27q (own_niS (Ne.symm ne_fa0_fa4) (own_niS (Ne.symm ne_fa1_fa4) (own_niS (Ne.symm ne_o0_fa4) (own_niS (Ne.symm ne_fa2_fa4) own_ni0))))
  have f40 := f24.keep K27q (own_niS (Ne.symm ne_fa0_s1) (own_niS (Ne.symm ne_fa1_s1) (own_niS (Ne.symm ne_o0_s1) (own_niS (Ne.symm ne_fa2_s1) own_ni0))))
  have f41 := f25.keep K27q (own_niS (Ne.symm ne_fa0_s2) (own_niS (Ne.symm ne_fa1_s2) (own_niS (Ne.symm ne_o0_s2) (own_niS (Ne.symm ne_fa2_s2) own_ni0))))
  have K27 : Keep h0 T27.heap [fa4, fa3, fa2, o0, fa1, fa0] := K11.trans K27q (own_allS (Or.inl (List.mem_of_getElem? (i := 5) rfl)) (own_allS (Or.inl (List.mem_of_getElem? (i := 4) rfl)) (own_allS (Or.inl (List.mem_of_getElem? (i := 3) rfl)) (own_allS (Or.inl (List.mem_of_getElem? (i := 2) rfl)) own_all0))))
  have Zs27 := Nat.le_trans Zs11 K27q.1
  obtain ⟨fs, hr, hrun, hended, hW, hsame⟩ := X27.leave (v := none) (fun _ => rfl)
  refine ⟨_, _, pre0 _ ?_, hrun, hended, _, _, rfl, ?_, ⟨_, rfl⟩, hW, hsame.mono (by decide) (by decide)⟩
  · show Steps p.tables e below (s₁.setTop (mkF m 0 #[.val (.ref o0), .val (.int rb), .val (.ref s1), .val (.ref s2), .unset, .unset, .unset, .unset] [])) _
    refine XS.aloadN X0.here hx rfl (hb hby d6_0) rfl rfl ?_
    refine st1 _ ?_
    show Steps p.tables e below (T1.setTop (mkF m 4 #[.val (.ref o0), .val (.int rb), .val (.ref s1), .val (.ref s2), .unset, .unset, .unset, .unset] [(.ref fa2)])) _
    refine XS.aloadN X1.here hx rfl (hb hby d6_4) rfl rfl ?_
    refine st2 _ ?_
    show Steps p.tables e below (T2.setTop (mkF m 8 #[.val (.ref o0), .val (.int rb), .val (.ref s1), .val (.ref s2), .unset, .unset, .unset, .unset] [(.int (1 : Int32)), (.ref fa2)])) _
    refine X2.iaload hx (j := (1 : Int32)) (v := (.int (2 : Int32))) (by rw [e2]; exact Arq3.1) (State.isArrayOf_alike hZ.alike Arq3.2.1) Arq3.2.2 (inb_of Sq3 ⟨by decide, by decide⟩) (Has.at Hq3 (inb_of Sq3 ⟨by decide, by decide⟩) rfl) (g := (mkF m 8 #[.val (.ref o0), .val (.int rb), .val (.ref s1), .val (.ref s2), .unset, .unset, .unset, .unset] [(.int (1 : Int32)), (.ref fa2)])) rfl rfl (hb hby d6_8) _ ?_
    show Steps p.tables e below (T2.setTop (mkF m 9 #[.val (.ref o0), .val (.int rb), .val (.ref s1), .val (.ref s2), .unset, .unset, .unset, .unset] [(.int (2 : Int32))])) _
    refine XS.istore X2.here hx rfl (hb hby d6_9) rfl (l' := #[.val (.ref o0), .val (.int rb), .val (.ref s1), .val (.ref s2), .val (.int (2 : Int32)), .unset, .unset, .unset]) rfl ?_
    refine XS.dconst0 X2.here hx rfl (hb hby d6_11) (v := (0 : UInt64)) rfl ?_
    refine XS.dstore X2.here hx rfl (hb hby d6_12) rfl (l' := #[.val (.ref o0), .val (.int rb), .val (.ref s1), .val (.ref s2), .val (.int (2 : Int32)), .val (.double (0 : UInt64)), .second, .unset]) rfl ?_
    refine XS.iconst X2.here hx rfl (hb hby d6_14) ?_
    refine XS.istore X2.here hx rfl (hb hby d6_15) rfl (l' := #[.val (.ref o0), .val (.int rb), .val (.ref s1), .val (.ref s2), .val (.int (2 : Int32)), .val (.double (0 : UInt64)), .second, .val (.int (0 : Int32))]) rfl ?_
    refine XS.iload X2.here hx rfl (hb hby d6_17) rfl ?_
    show Steps p.tables e below (T2.setTop (mkF m 19 #[.val (.ref o0), .val (.int rb), .val (.ref s1), .val (.ref s2), .val (.int (2 : Int32)), .val (.double (0 : UInt64)), .second, .val (.int (0 : Int32))] [(.int (0 : Int32))])) _
    refine XS.aloadN X2.here hx rfl (hb hby d6_19) rfl rfl ?_
    refine X2.arraylength hx (by rw [e2]; exact Arq4.1) (State.isArrayOf_alike hZ.alike Arq4.2.1) (g := (mkF m 20 #[.val (.ref o0), .val (.int rb), .val (.ref s1), .val (.ref s2), .val (.int (2 : Int32)), .val (.double (0 : UInt64)), .second, .val (.int (0 : Int32))] [(.ref s1), (.int (0 : Int32))])) rfl rfl (hb hby d6_20) _ ?_
    rw [len_of Sq4 Nq4]
    show Steps p.tables e below (T2.setTop (mkF m 21 #[.val (.ref o0), .val (.int rb), .val (.ref s1), .val (.ref s2), .val (.int (2 : Int32)), .val (.double (0 : UInt64)), .second, .val (.int (0 : Int32))] [(.int (2 : Int32)), (.int (0 : Int32))])) _
    refine XS.icmpNo X2.here hx rfl (hb hby d6_21) rfl (tlt (by decide : (0 : Int32) < (2 : Int32))).2.1 ?_
    refine XS.aloadN X2.here hx rfl (hb hby d6_24) rfl rfl ?_
    refine XS.iload X2.here hx rfl (hb hby d6_25) rfl ?_
    refine X2.iaload hx (j := (0 : Int32)) (v := (.int rb)) (by rw [e2]; exact Arq5.1) (State.isArrayOf_alike hZ.alike Arq5.2.1) Arq5.2.2 (inb_of Sq5 ⟨by decide, by decide⟩) (Has.at Hq5 (inb_of Sq5 ⟨by decide, by decide⟩) rfl) (g := (mkF m 27 #[.val (.ref o0), .val (.int rb), .val (.ref s1), .val (.ref s2), .val (.int (2 : Int32)), .val (.double (0 : UInt64)), .second, .val (.int (0 : Int32))] [(.int (0 : Int32)), (.ref s1)])) rfl rfl (hb hby d6_27) _ ?_
    show Steps p.tables e below (T2.setTop (mkF m 28 #[.val (.ref o0), .val (.int rb), .val (.ref s1), .val (.ref s2), .val (.int (2 : Int32)), .val (.double (0 : UInt64)), .second, .val (.int (0 : Int32))] [(.int rb)])) _
    refine XS.iloadN X2.here hx rfl (hb hby d6_28) rfl ?_
    refine XS.icmpNo X2.here hx rfl (hb hby d6_29) rfl (teq (rfl : rb = rb)).2 ?_
    refine XS.aloadN X2.here hx rfl (hb hby d6_32) rfl rfl ?_
    refine XS.iload X2.here hx rfl (hb hby d6_33) rfl ?_
    refine X2.daload hx (j := (0 : Int32)) (v := (.double w0)) (by rw [e2]; exact Arq6.1) (State.isArrayOf_alike hZ.alike Arq6.2.1) Arq6.2.2 (inb_of Sq6 ⟨by decide, by decide⟩) (Has.at Hq6 (inb_of Sq6 ⟨by decide, by decide⟩) rfl) (g := (mkF m 35 #[.val (.ref o0), .val (.int rb), .val (.ref s1), .val (.ref s2), .val (.int (2 : Int32)), .val (.double (0 : UInt64)), .second, .val (.int (0 : Int32))] [(.int (0 : Int32)), (.ref s2)])) rfl rfl (hb hby d6_35) _ ?_
    show Steps p.tables e below (T2.setTop (mkF m 36 #[.val (.ref o0), .val (.int rb), .val (.ref s1), .val (.ref s2), .val (.int (2 : Int32)), .val (.double (0 : UInt64)), .second, .val (.int (0 : Int32))] [(.double w0)])) _
    refine XS.dstore X2.here hx rfl (hb hby d6_36) rfl (l' := #[.val (.ref o0), .val (.int rb), .val (.ref s1), .val (.ref s2), .val (.int (2 : Int32)), .val (.double w0), .second, .val (.int (0 : Int32))]) rfl ?_
    show Steps p.tables e below (T2.setTop (mkF m 38 #[.val (.ref o0), .val (.int rb), .val (.ref s1), .val (.ref s2), .val (.int (2 : Int32)), .val (.double w0), .second, .val (.int (0 : Int32))] [])) _
    refine XS.goto X2.here hx rfl (pc0 := 38) (pc' := 57) rfl (hb hby d6_38) (by decide) (by decide) ?_
    refine XS.iinc X2.here hx rfl (hb hby d6_57) rfl (l' := #[.val (.ref o0), .val (.int rb), .val (.ref s1), .val (.ref s2), .val (.int (2 : Int32)), .val (.double w0), .second, .val (.int ((0 : Int32) + (1 : Int32)))]) rfl ?_
    show Steps p.tables e below (T2.setTop (mkF m 60 #[.val (.ref o0), .val (.int rb), .val (.ref s1), .val (.ref s2), .val (.int (2 : Int32)), .val (.double w0), .second, .val (.int ((0 : Int32) + (1 : Int32)))] [])) _
    rw [show ((0 : Int32) + (1 : Int32)) = (1 : Int32) by decide]
    show Steps p.tables e below (T2.setTop (mkF m 60 #[.val (.ref o0), .val (.int rb), .val (.ref s1), .val (.ref s2), .val (.int (2 : Int32)), .val (.double w0), .second, .val (.int (1 : Int32))] [])) _
    refine XS.goto X2.here hx rfl (pc0 := 60) (pc' := 17) rfl (hb hby d6_60) (by decide) (by decide) ?_
    refine XS.iload X2.here hx rfl (hb hby d6_17) rfl ?_
    refine XS.aloadN X2.here hx rfl (hb hby d6_19) rfl rfl ?_
    show Steps p.tables e below (T2.setTop (mkF m 20 #[.val (.ref o0), .val (.int rb), .val (.ref s1), .val (.ref s2), .val (.int (2 : Int32)), .val (.double w0), .second, .val (.int (1 : Int32))] [(.ref s1), (.int (1 : Int32))])) _
    refine X2.arraylength hx (by rw [e2]; exact Arq7.1) (State.isArrayOf_alike hZ.alike Arq7.2.1) (g := (mkF m 20 #[.val (.ref o0), .val (.int rb), .val (.ref s1), .val (.ref s2), .val (.int (2 : Int32)), .val (.double w0), .second, .val (.int (1 : Int32))] [(.ref s1), (.int (1 : Int32))])) rfl rfl (hb hby d6_20) _ ?_
    rw [len_of Sq7 Nq7]
    show Steps p.tables e below (T2.setTop (mkF m 21 #[.val (.ref o0), .val (.int rb), .val (.ref s1), .val (.ref s2), .val (.int (2 : Int32)), .val (.double w0), .second, .val (.int (1 : Int32))] [(.int (2 : Int32)), (.int (1 : Int32))])) _
    refine XS.icmpNo X2.here hx rfl (hb hby d6_21) rfl (tlt (by decide : (1 : Int32) < (2 : Int32))).2.1 ?_
    refine XS.aloadN X2.here hx rfl (hb hby d6_24) rfl rfl ?_
    refine XS.iload X2.here hx rfl (hb hby d6_25) rfl ?_
    refine X2.iaload hx (j := (1 : Int32)) (v := (.int rc)) (by rw [e2]; exact Arq8.1) (State.isArrayOf_alike hZ.alike Arq8.2.1) Arq8.2.2 (inb_of Sq8 ⟨by decide, by decide⟩) (Has.at Hq8 (inb_of Sq8 ⟨by decide, by decide⟩) rfl) (g := (mkF m 27 #[.val (.ref o0), .val (.int rb), .val (.ref s1), .val (.ref s2), .val (.int (2 : Int32)), .val (.double w0), .second, .val (.int (1 : Int32))] [(.int (1 : Int32)), (.ref s1)])) rfl rfl (hb hby d6_27) _ ?_
    show Steps p.tables e below (T2.setTop (mkF m 28 #[.val (.ref o0), .val (.int rb), .val (.ref s1), .val (.ref s2), .val (.int (2 : Int32)), .val (.double w0), .second, .val (.int (1 : Int32))] [(.int rc)])) _
    refine XS.iloadN X2.here hx rfl (hb hby d6_28) rfl ?_
    show Steps p.tables e below (T2.setTop (mkF m 29 #[.val (.ref o0), .val (.int rb), .val (.ref s1), .val (.ref s2), .val (.int (2 : Int32)), .val (.double w0), .second, .val (.int (1 : Int32))] [(.int rb), (.int rc)])) _
    refine XS.icmpYes X2.here hx rfl (pc0 := 29) (pc' := 41) rfl (hb hby d6_29) rfl (feq hc29).2 (by decide) (by decide) ?_
    refine XS.aloadN X2.here hx rfl (hb hby d6_41) rfl rfl ?_
    refine XS.iload X2.here hx rfl (hb hby d6_42) rfl ?_
    refine XS.aloadN X2.here hx rfl (hb hby d6_44) rfl rfl ?_
    refine XS.iload X2.here hx rfl (hb hby d6_45) rfl ?_
    refine X2.iaload hx (j := (1 : Int32)) (v := (.int rc)) (by rw [e2]; exact Arq9.1) (State.isArrayOf_alike hZ.alike Arq9.2.1) Arq9.2.2 (inb_of Sq9 ⟨by decide, by decide⟩) (Has.at Hq9 (inb_of Sq9 ⟨by decide, by decide⟩) rfl) (g := (mkF m 47 #[.val (.ref o0), .val (.int rb), .val (.ref s1), .val (.ref s2), .val (.int (2 : Int32)), .val (.double w0), .second, .val (.int (1 : Int32))] [(.int (1 : Int32)), (.ref s1), (.int (2 : Int32)), (.ref o0)])) rfl rfl (hb hby d6_47) _ ?_
    show Steps p.tables e below (T2.setTop (mkF m 48 #[.val (.ref o0), .val (.int rb), .val (.ref s1), .val (.ref s2), .val (.int (2 : Int32)), .val (.double w0), .second, .val (.int (1 : Int32))] [(.int rc), (.int (2 : Int32)), (.ref o0)])) _
    refine XS.aloadN X2.here hx rfl (hb hby d6_48) rfl rfl ?_
    refine XS.iload X2.here hx rfl (hb hby d6_49) rfl ?_
    refine X2.daload hx (j := (1 : Int32)) (v := (.double w1)) (by rw [e2]; exact Arq10.1) (State.isArrayOf_alike hZ.alike Arq10.2.1) Arq10.2.2 (inb_of Sq10 ⟨by decide, by decide⟩) (Has.at Hq10 (inb_of Sq10 ⟨by decide, by decide⟩) rfl) (g := (mkF m 51 #[.val (.ref o0), .val (.int rb), .val (.ref s1), .val (.ref s2), .val (.int (2 : Int32)), .val (.double w0), .second, .val (.int (1 : Int32))] [(.int (1 : Int32)), (.ref s2), (.int rc), (.int (2 : Int32)), (.ref o0)])) rfl rfl (hb hby d6_51) _ ?_
    show Steps p.tables e below (T2.setTop (mkF m 52 #[.val (.ref o0), .val (.int rb), .val (.ref s1), .val (.ref s2), .val (.int (2 : Int32)), .val (.double w0), .second, .val (.int (1 : Int32))] [(.double w1), (.int rc), (.int (2 : Int32)), (.ref o0)])) _
    refine st11.trans ?_
    show Steps p.tables e below (T11.setTop (mkF m 55 #[.val (.ref o0), .val (.int rb), .val (.ref s1), .val (.ref s2), .val (.int (2 : Int32)), .val (.double w0), .second, .val (.int (1 : Int32))] [(.int (3 : Int32))])) _
    refine XS.istore X11.here hx rfl (hb hby d6_55) rfl (l' := #[.val (.ref o0), .val (.int rb), .val (.ref s1), .val (.ref s2), .val (.int (3 : Int32)), .val (.double w0), .second, .val (.int (1 : Int32))]) rfl ?_
    refine XS.iinc X11.here hx rfl (hb hby d6_57) rfl (l' := #[.val (.ref o0), .val (.int rb), .val (.ref s1), .val (.ref s2), .val (.int (3 : Int32)), .val (.double w0), .second, .val (.int ((1 : Int32) + (1 : Int32)))]) rfl ?_
    show Steps p.tables e below (T11.setTop (mkF m 60 #[.val (.ref o0), .val (.int rb), .val (.ref s1), .val (.ref s2), .val (.int (3 : Int32)), .val (.double w0), .second, .val (.int ((1 : Int32) + (1 : Int32)))] [])) _
    rw [show ((1 : Int32) + (1 : Int32)) = (2 : Int32) by decide]
    show Steps p.tables e below (T11.setTop (mkF m 60 #[.val (.ref o0), .val (.int rb), .val (.ref s1), .val (.ref s2), .val (.int (3 : Int32)), .val (.double w0), .second, .val (.int (2 : Int32))] [])) _
    refine XS.goto X11.here hx rfl (pc0 := 60) (pc' := 17) rfl (hb hby d6_60) (by decide) (by decide) ?_
    refine XS.iload X11.here hx rfl (hb hby d6_17) rfl ?_
    refine XS.aloadN X11.here hx rfl (hb hby d6_19) rfl rfl ?_
    refine X11.arraylength hx Arq26.1 (State.isArrayOf_alike hZ.alike Arq26.2.1) (g := (mkF m 20 #[.val (.ref o0), .val (.int rb), .val (.ref s1), .val (.ref s2), .val (.int (3 : Int32)), .val (.double w0), .second, .val (.int (2 : Int32))] [(.ref s1), (.int (2 : Int32))])) rfl rfl (hb hby d6_20) _ ?_
    rw [len_of Sq26 Nq26]
    show Steps p.tables e below (T11.setTop (mkF m 21 #[.val (.ref o0), .val (.int rb), .val (.ref s1), .val (.ref s2), .val (.int (3 : Int32)), .val (.double w0), .second, .val (.int (2 : Int32))] [(.int (2 : Int32)), (.int (2 : Int32))])) _
    refine XS.icmpYes X11.here hx rfl (pc0 := 21) (pc' := 63) rfl (hb hby d6_21) rfl (flt (by decide : ¬ ((2 : Int32) < (2 : Int32)))).2.1 (by decide) (by decide) ?_
    show Steps p.tables e below (T11.setTop (mkF m 63 #[.val (.ref o0), .val (.int rb), .val (.ref s1), .val (.ref s2), .val (.int (3 : Int32)), .val (.double w0), .second, .val (.int (2 : Int32))] [])) _
    refine XS.aloadN X11.here hx rfl (hb hby d6_63) rfl rfl ?_
    refine XS.iloadN X11.here hx rfl (hb hby d6_64) rfl ?_
    refine XS.dload X11.here hx rfl (hb hby d6_65) rfl ?_
    refine XS.iload X11.here hx rfl (hb hby d6_67) rfl ?_
    refine st27.trans ?_
    show Steps p.tables e below (T27.setTop (mkF m 72 #[.val (.ref o0), .val (.int rb), .val (.ref s1), .val (.ref s2), .val (.int (3 : Int32)), .val (.double w0), .second, .val (.int (2 : Int32))] [])) _
    exact X27.returnOut hx Bd.returns (hb hby d6_72) hr
  · show Q_rp2 Z o0 fa0 fa1 fa2 fa3 fa4 kfa0 kfa1 kfa2 kfa3 kfa4 ra pe1 tx ty va vb s1 s2 ks1 ks2 rb rc w0 w1 h0 n0 _ T27.heap _
    exact ⟨rfl, N27, K27, f37, f28, f29, f30, f31, f32, f33, f34, f35, f36, f38, f39⟩
theorem d4_0 : decode prog_85_method_9_code 0 = .ok (.aload_n 0, 1) := by decide +kernel
theorem d4_1 : decode prog_85_method_9_code 1 = .ok (.getfield 26, 3) := by decide +kernel
theorem d4_4 : decode prog_85_method_9_code 4 = .ok (.iconst 1, 1) := by decide +kernel
theorem d4_5 : decode prog_85_method_9_code 5 = .ok (.isub, 1) := by decide +kernel
theorem d4_6 : decode prog_85_method_9_code 6 = .ok (.istore_n 2, 1) := by decide +kernel
theorem d4_7 : decode prog_85_method_9_code 7 = .ok (.iload_n 2, 1) := by decide +kernel
theorem d4_8 : decode prog_85_method_9_code 8 = .ok (.ifCond .lt 82, 3) := by decide +kernel
theorem d4_90 : decode prog_85_method_9_code 90 = .ok (.return_, 1) := by decide +kernel
theorem ef_4_RR (m : MethodId) (x0 : Addr) (x1 : Addr) : entryFrame m #[(.ref x0), (.ref x1)] 7 = mkF m 0 #[.val (.ref x0), .val (.ref x1), .unset, .unset, .unset, .unset, .unset] [] := by first | (simp [entryFrame, mkF, argsToLocals, Value.category]; done) | rfl
def Q_so0 (Z : State) (o0 : Addr) (fa0 : Addr) (fa1 : Addr) (fa2 : Addr) (fa3 : Addr) (fa4 : Addr) (kfa0 : ClassId) (kfa1 : ClassId) (kfa2 : ClassId) (kfa3 : ClassId) (kfa4 : ClassId) (s0 : Addr) (ks : ClassId) (c0 : UInt64) (c1 : UInt64) (c2 : UInt64) (h0 : Heap) (n0 : Nat) (v : Option Value) (h : Heap) (L : List Loc) : Prop := v = none ∧ Fr n0 L ∧ h = h0
set_option maxRecDepth 65536 in
set_option maxHeartbeats 40000000 in
theorem so0 (l : Launch) (Z : State) (a0 : Array Value) (hw : ∀ d ∈ tables_1, d.before a0 Z = true) (ws : List Jvm.Cond) (o0 : Addr) (fa0 : Addr) (fa1 : Addr) (fa2 : Addr) (fa3 : Addr) (fa4 : Addr) (kfa0 : ClassId) (kfa1 : ClassId) (kfa2 : ClassId) (kfa3 : ClassId) (kfa4 : ClassId) (s0 : Addr) (ks : ClassId) (c0 : UInt64) (c1 : UInt64) (c2 : UInt64) (h0 : Heap) (n0 : Nat) (Z0 : n0 ≤ h0.size) (F_pivotRows_o0 : Fld Z h0 o0 "com/example/leeway/leeway/lp/BasisInverse" "pivotRows" "[I" (.ref fa0)) (F_pivots_o0 : Fld Z h0 o0 "com/example/leeway/leeway/lp/BasisInverse" "pivots" "[D" (.ref fa1)) (F_termStart_o0 : Fld Z h0 o0 "com/example/leeway/leeway/lp/BasisInverse" "termStart" "[I" (.ref fa2)) (F_termRows_o0 : Fld Z h0 o0 "com/example/leeway/leeway/lp/BasisInverse" "termRows" "[I" (.ref fa3)) (F_termValues_o0 : Fld Z h0 o0 "com/example/leeway/leeway/lp/BasisInverse" "termValues" "[D" (.ref fa4)) (F_count_o0 : Fld Z h0 o0 "com/example/leeway/leeway/lp/BasisInverse" "count" "I" (.int (0 : Int32))) (E_o0 : Exa Z h0 o0 "com/example/leeway/leeway/lp/BasisInverse") (V_fa0 : Arv Z h0 fa0 kfa0 .int (16 : Int32) [(.int (0 : Int32)), (.int (0 : Int32)), (.int (0 : Int32)), (.int (0 : Int32))] (.int (0 : Int32))) (V_fa1 : Arv Z h0 fa1 kfa1 .double (16 : Int32) [(.double (0 : UInt64)), (.double (0 : UInt64)), (.double (0 : UInt64)), (.double (0 : UInt64))] (.double (0 : UInt64))) (V_fa2 : Arv Z h0 fa2 kfa2 .int (17 : Int32) [(.int (0 : Int32)), (.int (0 : Int32)), (.int (0 : Int32)), (.int (0 : Int32))] (.int (0 : Int32))) (V_fa3 : Arv Z h0 fa3 kfa3 .int (64 : Int32) [(.int (0 : Int32)), (.int (0 : Int32)), (.int (0 : Int32)), (.int (0 : Int32))] (.int (0 : Int32))) (V_fa4 : Arv Z h0 fa4 kfa4 .double (64 : Int32) [(.double (0 : UInt64)), (.double (0 : UInt64)), (.double (0 : UInt64)), (.double (0 : UInt64))] (.double (0 : UInt64))) (V_s0 : Arv Z h0 s0 ks .double (3 : Int32) [(.double c0), (.double c1), (.double c2)] (.double (0 : UInt64))) (g_s0 : n0 ≤ s0) (ne_o0_s0 : o0 ≠ s0) (ne_fa0_s0 : fa0 ≠ s0) (ne_fa1_s0 : fa1 ≠ s0) (ne_fa2_s0 : fa2 ≠ s0) (ne_fa3_s0 : fa3 ≠ s0) (ne_fa4_s0 : fa4 ≠ s0) :
    MetFree l (⟨"com/example/leeway/leeway/lp/BasisInverse", "solveTransposed", "([D)V"⟩ : MethodName) (head1 (Jvm.Cond.code (⟨"com/example/leeway/leeway/lp/BasisInverse", "solveTransposed", "([D)V"⟩ : MethodName) prog_85_method_9_code 7 none :: ws) ({ frames := 0, cells := 0, slots := 0, locals := 0 } : Room)) (fun a U => a = #[(.ref o0), (.ref s0)] ∧ Z.Warmed39 U.vm ∧ U.heap = h0) (fun _ _ _ _ _ => True) (fun _ U o U' => ∃ v L, o = .returned v ∧ Q_so0 Z o0 fa0 fa1 fa2 fa3 fa4 kfa0 kfa1 kfa2 kfa3 kfa4 s0 ks c0 c1 c2 h0 n0 v U'.heap L ∧ FrameEnd U o U' L ({ frames := 0, cells := 0, slots := 0, locals := 0 } : Room).cells ({ frames := 0, cells := 0, slots := 0, locals := 0 } : Room).slots) := by
  refine MetFree.of_bodySF (plainFor_of_name pn_com_example_leeway_leeway_lp_BasisInverse) hisR ?_
  intro p e s m args below meth c s₁ Bd hml0 hP hK
  obtain ⟨rfl, hZ, hh⟩ := hP
  have hx := Bd.exec
  have hby := Bd.bytes
  have hml : c.maxLocals = 7 := hml0
  have hown : s.vm.findClass "com/example/leeway/leeway/lp/BasisInverse" = some m.cls := findClass_of_methodNamed Bd.named
  have hnm := (name_of_methodNamed Bd.named Bd.method).1
  have X0 : Stand p l e ({ frames := 0, cells := 0, slots := 0, locals := 0 } : Room) s m #[(.ref o0), (.ref s0)] below meth c s₁ [] 0 0 := Stand.of_body Bd
  have e0 : s₁.heap = h0 := by rw [← hh, Bd.state]; rfl
  have N0 := Fr.nil n0
  have pre0 : ∀ t, Steps p.tables e below (s₁.setTop (mkF m 0 #[.val (.ref o0), .val (.ref s0), .unset, .unset, .unset, .unset, .unset] [])) t → Steps p.tables e below (s₁.setTop (entryFrame m #[(.ref o0), (.ref s0)] 7)) t := fun t k => castTop (ef_4_RR m o0 s0) k
  obtain ⟨T1, X1, e1, st1⟩ := getF X0 hx hZ hown (host := "") (Or.inl (hw _ (List.mem_of_getElem? (i := 30) rfl))) Via.refl e0 F_count_o0 (g := (mkF m 1 #[.val (.ref o0), .val (.ref s0), .unset, .unset, .unset, .unset, .unset] [(.ref o0)])) rfl rfl (hb hby d4_1)
  obtain ⟨fs, hr, hrun, hended, hW, hsame⟩ := X1.leave (v := none) (fun _ => rfl)
  refine ⟨_, _, pre0 _ ?_, hrun, hended, _, _, rfl, ?_, ⟨_, rfl⟩, hW, hsame.mono (by decide) (by decide)⟩
  · show Steps p.tables e below (s₁.setTop (mkF m 0 #[.val (.ref o0), .val (.ref s0), .unset, .unset, .unset, .unset, .unset] [])) _
    refine XS.aloadN X0.here hx rfl (hb hby d4_0) rfl rfl ?_
    refine st1 _ ?_
    show Steps p.tables e below (T1.setTop (mkF m 4 #[.val (.ref o0), .val (.ref s0), .unset, .unset, .unset, .unset, .unset] [(.int (0 : Int32))])) _
    refine XS.iconst X1.here hx rfl (hb hby d4_4) ?_
    refine XS.isub X1.here hx rfl (hb hby d4_5) rfl ?_
    show Steps p.tables e below (T1.setTop (mkF m 6 #[.val (.ref o0), .val (.ref s0), .unset, .unset, .unset, .unset, .unset] [(.int ((0 : Int32) - (1 : Int32)))])) _
    rw [show ((0 : Int32) - (1 : Int32)) = (-1 : Int32) by decide]
    show Steps p.tables e below (T1.setTop (mkF m 6 #[.val (.ref o0), .val (.ref s0), .unset, .unset, .unset, .unset, .unset] [(.int (-1 : Int32))])) _
    refine XS.istoreN X1.here hx rfl (hb hby d4_6) rfl (l' := #[.val (.ref o0), .val (.ref s0), .val (.int (-1 : Int32)), .unset, .unset, .unset, .unset]) rfl ?_
    refine XS.iloadN X1.here hx rfl (hb hby d4_7) rfl ?_
    refine XS.ifYes X1.here hx rfl (pc0 := 8) (pc' := 90) rfl (hb hby d4_8) rfl ((if0 _ _).trans (tlt (by decide : (-1 : Int32) < (0 : Int32))).1) (by decide) (by decide) ?_
    exact X1.returnOut hx Bd.returns (hb hby d4_90) hr
  · show Q_so0 Z o0 fa0 fa1 fa2 fa3 fa4 kfa0 kfa1 kfa2 kfa3 kfa4 s0 ks c0 c1 c2 h0 n0 _ T1.heap _
    rw [e1]
    exact ⟨rfl, N0, rfl⟩
theorem d4_11 : decode prog_85_method_9_code 11 = .ok (.aload_n 0, 1) := by decide +kernel
theorem d4_12 : decode prog_85_method_9_code 12 = .ok (.getfield 7, 3) := by decide +kernel
theorem d4_15 : decode prog_85_method_9_code 15 = .ok (.iload_n 2, 1) := by decide +kernel
theorem d4_16 : decode prog_85_method_9_code 16 = .ok (.iaload, 1) := by decide +kernel
theorem d4_17 : decode prog_85_method_9_code 17 = .ok (.istore_n 3, 1) := by decide +kernel
theorem d4_18 : decode prog_85_method_9_code 18 = .ok (.aload_n 1, 1) := by decide +kernel
theorem d4_19 : decode prog_85_method_9_code 19 = .ok (.iload_n 3, 1) := by decide +kernel
theorem d4_20 : decode prog_85_method_9_code 20 = .ok (.daload, 1) := by decide +kernel
theorem d4_21 : decode prog_85_method_9_code 21 = .ok (.dstore 4, 2) := by decide +kernel
theorem d4_23 : decode prog_85_method_9_code 23 = .ok (.aload_n 0, 1) := by decide +kernel
theorem d4_24 : decode prog_85_method_9_code 24 = .ok (.getfield 17, 3) := by decide +kernel
theorem d4_27 : decode prog_85_method_9_code 27 = .ok (.iload_n 2, 1) := by decide +kernel
theorem d4_28 : decode prog_85_method_9_code 28 = .ok (.iaload, 1) := by decide +kernel
theorem d4_29 : decode prog_85_method_9_code 29 = .ok (.istore 6, 2) := by decide +kernel
theorem d4_31 : decode prog_85_method_9_code 31 = .ok (.iload 6, 2) := by decide +kernel
theorem d4_33 : decode prog_85_method_9_code 33 = .ok (.aload_n 0, 1) := by decide +kernel
theorem d4_34 : decode prog_85_method_9_code 34 = .ok (.getfield 17, 3) := by decide +kernel
theorem d4_37 : decode prog_85_method_9_code 37 = .ok (.iload_n 2, 1) := by decide +kernel
theorem d4_38 : decode prog_85_method_9_code 38 = .ok (.iconst 1, 1) := by decide +kernel
theorem d4_39 : decode prog_85_method_9_code 39 = .ok (.iadd, 1) := by decide +kernel
theorem d4_40 : decode prog_85_method_9_code 40 = .ok (.iaload, 1) := by decide +kernel
theorem d4_41 : decode prog_85_method_9_code 41 = .ok (.if_icmp .ge 31, 3) := by decide +kernel
theorem d4_44 : decode prog_85_method_9_code 44 = .ok (.dload 4, 2) := by decide +kernel
theorem d4_46 : decode prog_85_method_9_code 46 = .ok (.aload_n 0, 1) := by decide +kernel
theorem d4_47 : decode prog_85_method_9_code 47 = .ok (.getfield 23, 3) := by decide +kernel
theorem d4_50 : decode prog_85_method_9_code 50 = .ok (.iload 6, 2) := by decide +kernel
theorem d4_52 : decode prog_85_method_9_code 52 = .ok (.daload, 1) := by decide +kernel
theorem d4_53 : decode prog_85_method_9_code 53 = .ok (.aload_n 1, 1) := by decide +kernel
theorem d4_54 : decode prog_85_method_9_code 54 = .ok (.aload_n 0, 1) := by decide +kernel
theorem d4_55 : decode prog_85_method_9_code 55 = .ok (.getfield 20, 3) := by decide +kernel
theorem d4_58 : decode prog_85_method_9_code 58 = .ok (.iload 6, 2) := by decide +kernel
theorem d4_60 : decode prog_85_method_9_code 60 = .ok (.iaload, 1) := by decide +kernel
theorem d4_61 : decode prog_85_method_9_code 61 = .ok (.daload, 1) := by decide +kernel
theorem d4_62 : decode prog_85_method_9_code 62 = .ok (.dmul, 1) := by decide +kernel
theorem d4_63 : decode prog_85_method_9_code 63 = .ok (.dsub, 1) := by decide +kernel
theorem d4_64 : decode prog_85_method_9_code 64 = .ok (.dstore 4, 2) := by decide +kernel
theorem d4_66 : decode prog_85_method_9_code 66 = .ok (.iinc 6 1, 3) := by decide +kernel
theorem d4_69 : decode prog_85_method_9_code 69 = .ok (.goto (-38), 3) := by decide +kernel
theorem d4_72 : decode prog_85_method_9_code 72 = .ok (.aload_n 1, 1) := by decide +kernel
theorem d4_73 : decode prog_85_method_9_code 73 = .ok (.iload_n 3, 1) := by decide +kernel
theorem d4_74 : decode prog_85_method_9_code 74 = .ok (.dload 4, 2) := by decide +kernel
theorem d4_76 : decode prog_85_method_9_code 76 = .ok (.aload_n 0, 1) := by decide +kernel
theorem d4_77 : decode prog_85_method_9_code 77 = .ok (.getfield 13, 3) := by decide +kernel
theorem d4_80 : decode prog_85_method_9_code 80 = .ok (.iload_n 2, 1) := by decide +kernel
theorem d4_81 : decode prog_85_method_9_code 81 = .ok (.daload, 1) := by decide +kernel
theorem d4_82 : decode prog_85_method_9_code 82 = .ok (.ddiv, 1) := by decide +kernel
theorem d4_83 : decode prog_85_method_9_code 83 = .ok (.dastore, 1) := by decide +kernel
theorem d4_84 : decode prog_85_method_9_code 84 = .ok (.iinc 2 (-1), 3) := by decide +kernel
theorem d4_87 : decode prog_85_method_9_code 87 = .ok (.goto (-80), 3) := by decide +kernel
def Q_so1 (Z : State) (o0 : Addr) (fa0 : Addr) (fa1 : Addr) (fa2 : Addr) (fa3 : Addr) (fa4 : Addr) (kfa0 : ClassId) (kfa1 : ClassId) (kfa2 : ClassId) (kfa3 : ClassId) (kfa4 : ClassId) (ra : Int32) (pe1 : UInt64) (tx : Int32) (ty : Int32) (va : UInt64) (vb : UInt64) (s0 : Addr) (ks : ClassId) (c0 : UInt64) (c1 : UInt64) (c2 : UInt64) (ca : UInt64) (cx : UInt64) (cy : UInt64) (qa : UInt64) (y0 : UInt64) (y1 : UInt64) (y2 : UInt64) (h0 : Heap) (n0 : Nat) (v : Option Value) (h : Heap) (L : List Loc) : Prop := v = none ∧ Fr n0 L ∧ Keep h0 h [s0] ∧ Arv Z h s0 ks .double (3 : Int32) [(.double y0), (.double y1), (.double y2)] (.double (0 : UInt64))
set_option maxRecDepth 65536 in
set_option maxHeartbeats 40000000 in
theorem so1 (l : Launch) (Z : State) (a0 : Array Value) (hw : ∀ d ∈ tables_1, d.before a0 Z = true) (ws : List Jvm.Cond) (o0 : Addr) (fa0 : Addr) (fa1 : Addr) (fa2 : Addr) (fa3 : Addr) (fa4 : Addr) (kfa0 : ClassId) (kfa1 : ClassId) (kfa2 : ClassId) (kfa3 : ClassId) (kfa4 : ClassId) (ra : Int32) (pe1 : UInt64) (tx : Int32) (ty : Int32) (va : UInt64) (vb : UInt64) (s0 : Addr) (ks : ClassId) (c0 : UInt64) (c1 : UInt64) (c2 : UInt64) (ca : UInt64) (cx : UInt64) (cy : UInt64) (qa : UInt64) (y0 : UInt64) (y1 : UInt64) (y2 : UInt64) (h0 : Heap) (n0 : Nat) (Z0 : n0 ≤ h0.size) (F_pivotRows_o0 : Fld Z h0 o0 "com/example/leeway/leeway/lp/BasisInverse" "pivotRows" "[I" (.ref fa0)) (F_pivots_o0 : Fld Z h0 o0 "com/example/leeway/leeway/lp/BasisInverse" "pivots" "[D" (.ref fa1)) (F_termStart_o0 : Fld Z h0 o0 "com/example/leeway/leeway/lp/BasisInverse" "termStart" "[I" (.ref fa2)) (F_termRows_o0 : Fld Z h0 o0 "com/example/leeway/leeway/lp/BasisInverse" "termRows" "[I" (.ref fa3)) (F_termValues_o0 : Fld Z h0 o0 "com/example/leeway/leeway/lp/BasisInverse" "termValues" "[D" (.ref fa4)) (F_count_o0 : Fld Z h0 o0 "com/example/leeway/leeway/lp/BasisInverse" "count" "I" (.int (1 : Int32))) (E_o0 : Exa Z h0 o0 "com/example/leeway/leeway/lp/BasisInverse") (V_fa0 : Arv Z h0 fa0 kfa0 .int (16 : Int32) [(.int ra), (.int (0 : Int32)), (.int (0 : Int32)), (.int (0 : Int32))] (.int (0 : Int32))) (V_fa1 : Arv Z h0 fa1 kfa1 .double (16 : Int32) [(.double pe1), (.double (0 : UInt64)), (.double (0 : UInt64)), (.double (0 : UInt64))] (.double (0 : UInt64))) (V_fa2 : Arv Z h0 fa2 kfa2 .int (17 : Int32) [(.int (0 : Int32)), (.int (2 : Int32)), (.int (0 : Int32)), (.int (0 : Int32))] (.int (0 : Int32))) (V_fa3 : Arv Z h0 fa3 kfa3 .int (64 : Int32) [(.int tx), (.int ty), (.int (0 : Int32)), (.int (0 : Int32))] (.int (0 : Int32))) (V_fa4 : Arv Z h0 fa4 kfa4 .double (64 : Int32) [(.double va), (.double vb), (.double (0 : UInt64)), (.double (0 : UInt64))] (.double (0 : UInt64))) (V_s0 : Arv Z h0 s0 ks .double (3 : Int32) [(.double c0), (.double c1), (.double c2)] (.double (0 : UInt64))) (g_s0 : n0 ≤ s0) (ne_o0_s0 : o0 ≠ s0) (ne_fa0_s0 : fa0 ≠ s0) (ne_fa1_s0 : fa1 ≠ s0) (ne_fa2_s0 : fa2 ≠ s0) (ne_fa3_s0 : fa3 ≠ s0) (ne_fa4_s0 : fa4 ≠ s0) (hn_ra : ¬ ra < 0 ∧ ra < (3 : Int32)) (hca : ([(.double c0), (.double c1), (.double c2)] : List Value).getD ra.toNatClampNeg (.double (0 : UInt64)) = .double ca) (hn_tx : ¬ tx < 0 ∧ tx < (3 : Int32)) (hcx : ([(.double c0), (.double c1), (.double c2)] : List Value).getD tx.toNatClampNeg (.double (0 : UInt64)) = .double cx) (hn_ty : ¬ ty < 0 ∧ ty < (3 : Int32)) (hcy : ([(.double c0), (.double c1), (.double c2)] : List Value).getD ty.toNatClampNeg (.double (0 : UInt64)) = .double cy) (hl_ra : ra.toNatClampNeg < 3) (hy : (([(.double c0), (.double c1), (.double c2)] : List Value).set ra.toNatClampNeg (.double qa)) = [(.double y0), (.double y1), (.double y2)]) (nn62 : Jvm.Free.Fl.NoNaN64 (FP.dmul va cx)) (nn63 : Jvm.Free.Fl.NoNaN64 (FP.dsub ca (FP.dmul va cx))) (nn62_1 : Jvm.Free.Fl.NoNaN64 (FP.dmul vb cy)) (nn63_1 : Jvm.Free.Fl.NoNaN64 (FP.dsub (FP.dsub ca (FP.dmul va cx)) (FP.dmul vb cy))) (nn82 : Jvm.Free.Fl.NoNaN64 (FP.ddiv (FP.dsub (FP.dsub ca (FP.dmul va cx)) (FP.dmul vb cy)) pe1)) (hq82 : (FP.ddiv (FP.dsub (FP.dsub ca (FP.dmul va cx)) (FP.dmul vb cy)) pe1) = qa) :
    MetFree l (⟨"com/example/leeway/leeway/lp/BasisInverse", "solveTransposed", "([D)V"⟩ : MethodName) (head1 (Jvm.Cond.code (⟨"com/example/leeway/leeway/lp/BasisInverse", "solveTransposed", "([D)V"⟩ : MethodName) prog_85_method_9_code 7 none :: ws) ({ frames := 0, cells := 0, slots := 0, locals := 0 } : Room)) (fun a U => a = #[(.ref o0), (.ref s0)] ∧ Z.Warmed39 U.vm ∧ U.heap = h0) (fun _ _ _ _ _ => True) (fun _ U o U' => ∃ v L, o = .returned v ∧ Q_so1 Z o0 fa0 fa1 fa2 fa3 fa4 kfa0 kfa1 kfa2 kfa3 kfa4 ra pe1 tx ty va vb s0 ks c0 c1 c2 ca cx cy qa y0 y1 y2 h0 n0 v U'.heap L ∧ FrameEnd U o U' L ({ frames := 0, cells := 0, slots := 0, locals := 0 } : Room).cells ({ frames := 0, cells := 0, slots := 0, locals := 0 } : Room).slots) := by
  refine MetFree.of_bodySF (plainFor_of_name pn_com_example_leeway_leeway_lp_BasisInverse) hisR ?_
  intro p e s m args below meth c s₁ Bd hml0 hP hK
  obtain ⟨rfl, hZ, hh⟩ := hP
  have hx := Bd.exec
  have hby := Bd.bytes
  have hml : c.maxLocals = 7 := hml0
  have hown : s.vm.findClass "com/example/leeway/leeway/lp/BasisInverse" = some m.cls := findClass_of_methodNamed Bd.named
  have hnm := (name_of_methodNamed Bd.named Bd.method).1
  have X0 : Stand p l e ({ frames := 0, cells := 0, slots := 0, locals := 0 } : Room) s m #[(.ref o0), (.ref s0)] below meth c s₁ [] 0 0 := Stand.of_body Bd
  have e0 : s₁.heap = h0 := by rw [← hh, Bd.state]; rfl
  have N0 := Fr.nil n0
  have pre0 : ∀ t, Steps p.tables e below (s₁.setTop (mkF m 0 #[.val (.ref o0), .val (.ref s0), .unset, .unset, .unset, .unset, .unset] [])) t → Steps p.tables e below (s₁.setTop (entryFrame m #[(.ref o0), (.ref s0)] 7)) t := fun t k => castTop (ef_4_RR m o0 s0) k
  obtain ⟨T1, X1, e1, st1⟩ := getF X0 hx hZ hown (host := "") (Or.inl (hw _ (List.mem_of_getElem? (i := 30) rfl))) Via.refl e0 F_count_o0 (g := (mkF m 1 #[.val (.ref o0), .val (.ref s0), .unset, .unset, .unset, .unset, .unset] [(.ref o0)])) rfl rfl (hb hby d4_1)
  obtain ⟨T2, X2, e2, st2⟩ := getF X1 hx hZ hown (host := "") (Or.inl (hw _ (List.mem_of_getElem? (i := 15) rfl))) Via.refl e1 F_pivotRows_o0 (g := (mkF m 12 #[.val (.ref o0), .val (.ref s0), .val (.int (0 : Int32)), .unset, .unset, .unset, .unset] [(.ref o0)])) rfl rfl (hb hby d4_12)
  obtain ⟨cq3, Arq3, -, Sq3, -, Hq3, -⟩ := id V_fa0
  obtain ⟨cq4, Arq4, -, Sq4, -, Hq4, -⟩ := id V_s0
  obtain ⟨T5, X5, e5, st5⟩ := getF X2 hx hZ hown (host := "") (Or.inl (hw _ (List.mem_of_getElem? (i := 19) rfl))) Via.refl e2 F_termStart_o0 (g := (mkF m 24 #[.val (.ref o0), .val (.ref s0), .val (.int (0 : Int32)), .val (.int ra), .val (.double ca), .second, .unset] [(.ref o0)])) rfl rfl (hb hby d4_24)
  obtain ⟨cq6, Arq6, -, Sq6, -, Hq6, -⟩ := id V_fa2
  obtain ⟨T7, X7, e7, st7⟩ := getF X5 hx hZ hown (host := "") (Or.inl (hw _ (List.mem_of_getElem? (i := 19) rfl))) Via.refl e5 F_termStart_o0 (g := (mkF m 34 #[.val (.ref o0), .val (.ref s0), .val (.int (0 : Int32)), .val (.int ra), .val (.double ca), .second, .val (.int (0 : Int32))] [(.ref o0), (.int (0 : Int32))])) rfl rfl (hb hby d4_34)
  obtain ⟨cq8, Arq8, -, Sq8, -, Hq8, -⟩ := id V_fa2
  obtain ⟨T9, X9, e9, st9⟩ := getF X7 hx hZ hown (host := "") (Or.inl (hw _ (List.mem_of_getElem? (i := 23) rfl))) Via.refl e7 F_termValues_o0 (g := (mkF m 47 #[.val (.ref o0), .val (.ref s0), .val (.int (0 : Int32)), .val (.int ra), .val (.double ca), .second, .val (.int (0 : Int32))] [(.ref o0), (.double ca)])) rfl rfl (hb hby d4_47)
  obtain ⟨cq10, Arq10, -, Sq10, -, Hq10, -⟩ := id V_fa4
  obtain ⟨T11, X11, e11, st11⟩ := getF X9 hx hZ hown (host := "") (Or.inl (hw _ (List.mem_of_getElem? (i := 21) rfl))) Via.refl e9 F_termRows_o0 (g := (mkF m 55 #[.val (.ref o0), .val (.ref s0), .val (.int (0 : Int32)), .val (.int ra), .val (.double ca), .second, .val (.int (0 : Int32))] [(.ref o0), (.ref s0), (.double va), (.double ca)])) rfl rfl (hb hby d4_55)
  obtain ⟨cq12, Arq12, -, Sq12, -, Hq12, -⟩ := id V_fa3
  obtain ⟨cq13, Arq13, -, Sq13, -, Hq13, -⟩ := id V_s0
  obtain ⟨T14, X14, e14, st14⟩ := getF X11 hx hZ hown (host := "") (Or.inl (hw _ (List.mem_of_getElem? (i := 19) rfl))) Via.refl e11 F_termStart_o0 (g := (mkF m 34 #[.val (.ref o0), .val (.ref s0), .val (.int (0 : Int32)), .val (.int ra), .val (.double (FP.dsub ca (FP.dmul va cx))), .second, .val (.int (1 : Int32))] [(.ref o0), (.int (1 : Int32))])) rfl rfl (hb hby d4_34)
  obtain ⟨cq15, Arq15, -, Sq15, -, Hq15, -⟩ := id V_fa2
  obtain ⟨T16, X16, e16, st16⟩ := getF X14 hx hZ hown (host := "") (Or.inl (hw _ (List.mem_of_getElem? (i := 23) rfl))) Via.refl e14 F_termValues_o0 (g := (mkF m 47 #[.val (.ref o0), .val (.ref s0), .val (.int (0 : Int32)), .val (.int ra), .val (.double (FP.dsub ca (FP.dmul va cx))), .second, .val (.int (1 : Int32))] [(.ref o0), (.double (FP.dsub ca (FP.dmul va cx)))])) rfl rfl (hb hby d4_47)
  obtain ⟨cq17, Arq17, -, Sq17, -, Hq17, -⟩ := id V_fa4
  obtain ⟨T18, X18, e18, st18⟩ := getF X16 hx hZ hown (host := "") (Or.inl (hw _ (List.mem_of_getElem? (i := 21) rfl))) Via.refl e16 F_termRows_o0 (g := (mkF m 55 #[.val (.ref o0), .val (.ref s0), .val (.int (0 : Int32)), .val (.int ra), .val (.double (FP.dsub ca (FP.dmul va cx))), .second, .val (.int (1 : Int32))] [(.ref o0), (.ref s0), (.double vb), (.double (FP.dsub ca (FP.dmul va cx)))])) rfl rfl (hb hby d4_55)
  obtain ⟨cq19, Arq19, -, Sq19, -, Hq19, -⟩ := id V_fa3
  obtain ⟨cq20, Arq20, -, Sq20, -, Hq20, -⟩ := id V_s0
  obtain ⟨T21, X21, e21, st21⟩ := getF X18 hx hZ hown (host := "") (Or.inl (hw _ (List.mem_of_getElem? (i := 19) rfl))) Via.refl e18 F_termStart_o0 (g := (mkF m 34 #[.val (.ref o0), .val (.ref s0), .val (.int (0 : Int32)), .val (.int ra), .val (.double (FP.dsub (FP.dsub ca (FP.dmul va cx)) (FP.dmul vb cy))), .second, .val (.int (2 : Int32))] [(.ref o0), (.int (2 : Int32))])) rfl rfl (hb hby d4_34)
  obtain ⟨cq22, Arq22, -, Sq22, -, Hq22, -⟩ := id V_fa2
  obtain ⟨T23, X23, e23, st23⟩ := getF X21 hx hZ hown (host := "") (Or.inl (hw _ (List.mem_of_getElem? (i := 17) rfl))) Via.refl e21 F_pivots_o0 (g := (mkF m 77 #[.val (.ref o0), .val (.ref s0), .val (.int (0 : Int32)), .val (.int ra), .val (.double (FP.dsub (FP.dsub ca (FP.dmul va cx)) (FP.dmul vb cy))), .second, .val (.int (2 : Int32))] [(.ref o0), (.double (FP.dsub (FP.dsub ca (FP.dmul va cx)) (FP.dmul vb cy))), (.int ra), (.ref s0)])) rfl rfl (hb hby d4_77)
  obtain ⟨cq24, Arq24, -, Sq24, -, Hq24, -⟩ := id V_fa1
  obtain ⟨cq25, Arq25, qq25, Sq25, Nq25, Hq25, Gq25⟩ := id V_s0
  obtain ⟨T26, h26, X26, e26, W26, st26⟩ := stD X23 hx hZ e23 Arq25 (j := ra) (inb_of Sq25 hn_ra) (g := (mkF m 83 #[.val (.ref o0), .val (.ref s0), .val (.int (0 : Int32)), .val (.int ra), .val (.double (FP.dsub (FP.dsub ca (FP.dmul va cx)) (FP.dmul vb cy))), .second, .val (.int (2 : Int32))] [(.double qa), (.int ra), (.ref s0)])) rfl rfl (hb hby d4_83)
  have f27 := F_pivotRows_o0.other W26 (Or.inl ne_o0_s0)
  have f28 := F_pivots_o0.other W26 (Or.inl ne_o0_s0)
  have f29 := F_termStart_o0.other W26 (Or.inl ne_o0_s0)
  have f30 := F_termRows_o0.other W26 (Or.inl ne_o0_s0)
  have f31 := F_termValues_o0.other W26 (Or.inl ne_o0_s0)
  have f32 := F_count_o0.other W26 (Or.inl ne_o0_s0)
  have f33 := E_o0.wr W26
  have f34 := V_fa0.other W26 ne_fa0_s0
  have f35 := V_fa1.other W26 ne_fa1_s0
  have f36 := V_fa2.other W26 ne_fa2_s0
  have f37 := V_fa3.other W26 ne_fa3_s0
  have f38 := V_fa4.other W26 ne_fa4_s0
  have K26 : Keep h0 h26 [s0] := (Keep.refl h0 [s0]).wr W26 (Or.inl (List.mem_of_getElem? (i := 0) rfl))
  have Zs26 := Nat.le_trans Z0 (Keep.of_wr W26).1
  have N26 := Fr.snoc X26 N0 g_s0
  have f39 : Arv Z h26 s0 ks .double (3 : Int32) ([(.double c0), (.double c1), (.double c2)].set ra.toNatClampNeg (.double qa)) (.double (0 : UInt64)) := Arv.set Arq25 qq25 Sq25 Nq25 Hq25 Gq25 rfl W26 ra.toNatClampNeg rfl hl_ra
  have f40 := own_arvL (vs1 := [(.double y0), (.double y1), (.double y2)]) (hy : (([(.double c0), (.double c1), (.double c2)].set ra.toNatClampNeg (.double qa)) : List Value) = [(.double y0), (.double y1), (.double y2)]) f39
  obtain ⟨fs, hr, hrun, hended, hW, hsame⟩ := X26.leave (v := none) (fun _ => rfl)
  refine ⟨_, _, pre0 _ ?_, hrun, hended, _, _, rfl, ?_, ⟨_, rfl⟩, hW, hsame.mono (by decide) (by decide)⟩
  · show Steps p.tables e below (s₁.setTop (mkF m 0 #[.val (.ref o0), .val (.ref s0), .unset, .unset, .unset, .unset, .unset] [])) _
    refine XS.aloadN X0.here hx rfl (hb hby d4_0) rfl rfl ?_
    refine st1 _ ?_
    show Steps p.tables e below (T1.setTop (mkF m 4 #[.val (.ref o0), .val (.ref s0), .unset, .unset, .unset, .unset, .unset] [(.int (1 : Int32))])) _
    refine XS.iconst X1.here hx rfl (hb hby d4_4) ?_
    refine XS.isub X1.here hx rfl (hb hby d4_5) rfl ?_
    show Steps p.tables e below (T1.setTop (mkF m 6 #[.val (.ref o0), .val (.ref s0), .unset, .unset, .unset, .unset, .unset] [(.int ((1 : Int32) - (1 : Int32)))])) _
    rw [show ((1 : Int32) - (1 : Int32)) = (0 : Int32) by decide]
    show Steps p.tables e below (T1.setTop (mkF m 6 #[.val (.ref o0), .val (.ref s0), .unset, .unset, .unset, .unset, .unset] [(.int (0 : Int32))])) _
    refine XS.istoreN X1.here hx rfl (hb hby d4_6) rfl (l' := #[.val (.ref o0), .val (.ref s0), .val (.int (0 : Int32)), .unset, .unset, .unset, .unset]) rfl ?_
    refine XS.iloadN X1.here hx rfl (hb hby d4_7) rfl ?_
    refine XS.ifNo X1.here hx rfl (hb hby d4_8) rfl ((if0 _ _).trans (flt (by decide : ¬ ((0 : Int32) < (0 : Int32)))).1) ?_
    refine XS.aloadN X1.here hx rfl (hb hby d4_11) rfl rfl ?_
    refine st2 _ ?_
    show Steps p.tables e below (T2.setTop (mkF m 15 #[.val (.ref o0), .val (.ref s0), .val (.int (0 : Int32)), .unset, .unset, .unset, .unset] [(.ref fa0)])) _
    refine XS.iloadN X2.here hx rfl (hb hby d4_15) rfl ?_
    show Steps p.tables e below (T2.setTop (mkF m 16 #[.val (.ref o0), .val (.ref s0), .val (.int (0 : Int32)), .unset, .unset, .unset, .unset] [(.int (0 : Int32)), (.ref fa0)])) _
    refine X2.iaload hx (j := (0 : Int32)) (v := (.int ra)) (by rw [e2]; exact Arq3.1) (State.isArrayOf_alike hZ.alike Arq3.2.1) Arq3.2.2 (inb_of Sq3 ⟨by decide, by decide⟩) (Has.at Hq3 (inb_of Sq3 ⟨by decide, by decide⟩) rfl) (g := (mkF m 16 #[.val (.ref o0), .val (.ref s0), .val (.int (0 : Int32)), .unset, .unset, .unset, .unset] [(.int (0 : Int32)), (.ref fa0)])) rfl rfl (hb hby d4_16) _ ?_
    show Steps p.tables e below (T2.setTop (mkF m 17 #[.val (.ref o0), .val (.ref s0), .val (.int (0 : Int32)), .unset, .unset, .unset, .unset] [(.int ra)])) _
    refine XS.istoreN X2.here hx rfl (hb hby d4_17) rfl (l' := #[.val (.ref o0), .val (.ref s0), .val (.int (0 : Int32)), .val (.int ra), .unset, .unset, .unset]) rfl ?_
    refine XS.aloadN X2.here hx rfl (hb hby d4_18) rfl rfl ?_
    refine XS.iloadN X2.here hx rfl (hb hby d4_19) rfl ?_
    refine X2.daload hx (j := ra) (v := (.double ca)) (by rw [e2]; exact Arq4.1) (State.isArrayOf_alike hZ.alike Arq4.2.1) Arq4.2.2 (inb_of Sq4 hn_ra) (Has.at Hq4 (inb_of Sq4 hn_ra) hca) (g := (mkF m 20 #[.val (.ref o0), .val (.ref s0), .val (.int (0 : Int32)), .val (.int ra), .unset, .unset, .unset] [(.int ra), (.ref s0)])) rfl rfl (hb hby d4_20) _ ?_
    show Steps p.tables e below (T2.setTop (mkF m 21 #[.val (.ref o0), .val (.ref s0), .val (.int (0 : Int32)), .val (.int ra), .unset, .unset, .unset] [(.double ca)])) _
    refine XS.dstore X2.here hx rfl (hb hby d4_21) rfl (l' := #[.val (.ref o0), .val (.ref s0), .val (.int (0 : Int32)), .val (.int ra), .val (.double ca), .second, .unset]) rfl ?_
    show Steps p.tables e below (T2.setTop (mkF m 23 #[.val (.ref o0), .val (.ref s0), .val (.int (0 : Int32)), .val (.int ra), .val (.double ca), .second, .unset] [])) _
    refine XS.aloadN X2.here hx rfl (hb hby d4_23) rfl rfl ?_
    refine st5 _ ?_
    show Steps p.tables e below (T5.setTop (mkF m 27 #[.val (.ref o0), .val (.ref s0), .val (.int (0 : Int32)), .val (.int ra), .val (.double ca), .second, .unset] [(.ref fa2)])) _
    refine XS.iloadN X5.here hx rfl (hb hby d4_27) rfl ?_
    refine X5.iaload hx (j := (0 : Int32)) (v := (.int (0 : Int32))) (by rw [e5]; exact Arq6.1) (State.isArrayOf_alike hZ.alike Arq6.2.1) Arq6.2.2 (inb_of Sq6 ⟨by decide, by decide⟩) (Has.at Hq6 (inb_of Sq6 ⟨by decide, by decide⟩) rfl) (g := (mkF m 28 #[.val (.ref o0), .val (.ref s0), .val (.int (0 : Int32)), .val (.int ra), .val (.double ca), .second, .unset] [(.int (0 : Int32)), (.ref fa2)])) rfl rfl (hb hby d4_28) _ ?_
    show Steps p.tables e below (T5.setTop (mkF m 29 #[.val (.ref o0), .val (.ref s0), .val (.int (0 : Int32)), .val (.int ra), .val (.double ca), .second, .unset] [(.int (0 : Int32))])) _
    refine XS.istore X5.here hx rfl (hb hby d4_29) rfl (l' := #[.val (.ref o0), .val (.ref s0), .val (.int (0 : Int32)), .val (.int ra), .val (.double ca), .second, .val (.int (0 : Int32))]) rfl ?_
    refine XS.iload X5.here hx rfl (hb hby d4_31) rfl ?_
    show Steps p.tables e below (T5.setTop (mkF m 33 #[.val (.ref o0), .val (.ref s0), .val (.int (0 : Int32)), .val (.int ra), .val (.double ca), .second, .val (.int (0 : Int32))] [(.int (0 : Int32))])) _
    refine XS.aloadN X5.here hx rfl (hb hby d4_33) rfl rfl ?_
    refine st7 _ ?_
    show Steps p.tables e below (T7.setTop (mkF m 37 #[.val (.ref o0), .val (.ref s0), .val (.int (0 : Int32)), .val (.int ra), .val (.double ca), .second, .val (.int (0 : Int32))] [(.ref fa2), (.int (0 : Int32))])) _
    refine XS.iloadN X7.here hx rfl (hb hby d4_37) rfl ?_
    refine XS.iconst X7.here hx rfl (hb hby d4_38) ?_
    refine XS.iadd X7.here hx rfl (hb hby d4_39) rfl ?_
    show Steps p.tables e below (T7.setTop (mkF m 40 #[.val (.ref o0), .val (.ref s0), .val (.int (0 : Int32)), .val (.int ra), .val (.double ca), .second, .val (.int (0 : Int32))] [(.int ((0 : Int32) + (1 : Int32))), (.ref fa2), (.int (0 : Int32))])) _
    rw [show ((0 : Int32) + (1 : Int32)) = (1 : Int32) by decide]
    show Steps p.tables e below (T7.setTop (mkF m 40 #[.val (.ref o0), .val (.ref s0), .val (.int (0 : Int32)), .val (.int ra), .val (.double ca), .second, .val (.int (0 : Int32))] [(.int (1 : Int32)), (.ref fa2), (.int (0 : Int32))])) _
    refine X7.iaload hx (j := (1 : Int32)) (v := (.int (2 : Int32))) (by rw [e7]; exact Arq8.1) (State.isArrayOf_alike hZ.alike Arq8.2.1) Arq8.2.2 (inb_of Sq8 ⟨by decide, by decide⟩) (Has.at Hq8 (inb_of Sq8 ⟨by decide, by decide⟩) rfl) (g := (mkF m 40 #[.val (.ref o0), .val (.ref s0), .val (.int (0 : Int32)), .val (.int ra), .val (.double ca), .second, .val (.int (0 : Int32))] [(.int (1 : Int32)), (.ref fa2), (.int (0 : Int32))])) rfl rfl (hb hby d4_40) _ ?_
    show Steps p.tables e below (T7.setTop (mkF m 41 #[.val (.ref o0), .val (.ref s0), .val (.int (0 : Int32)), .val (.int ra), .val (.double ca), .second, .val (.int (0 : Int32))] [(.int (2 : Int32)), (.int (0 : Int32))])) _
    refine XS.icmpNo X7.here hx rfl (hb hby d4_41) rfl (tlt (by decide : (0 : Int32) < (2 : Int32))).2.1 ?_
    refine XS.dload X7.here hx rfl (hb hby d4_44) rfl ?_
    refine XS.aloadN X7.here hx rfl (hb hby d4_46) rfl rfl ?_
    refine st9 _ ?_
    show Steps p.tables e below (T9.setTop (mkF m 50 #[.val (.ref o0), .val (.ref s0), .val (.int (0 : Int32)), .val (.int ra), .val (.double ca), .second, .val (.int (0 : Int32))] [(.ref fa4), (.double ca)])) _
    refine XS.iload X9.here hx rfl (hb hby d4_50) rfl ?_
    show Steps p.tables e below (T9.setTop (mkF m 52 #[.val (.ref o0), .val (.ref s0), .val (.int (0 : Int32)), .val (.int ra), .val (.double ca), .second, .val (.int (0 : Int32))] [(.int (0 : Int32)), (.ref fa4), (.double ca)])) _
    refine X9.daload hx (j := (0 : Int32)) (v := (.double va)) (by rw [e9]; exact Arq10.1) (State.isArrayOf_alike hZ.alike Arq10.2.1) Arq10.2.2 (inb_of Sq10 ⟨by decide, by decide⟩) (Has.at Hq10 (inb_of Sq10 ⟨by decide, by decide⟩) rfl) (g := (mkF m 52 #[.val (.ref o0), .val (.ref s0), .val (.int (0 : Int32)), .val (.int ra), .val (.double ca), .second, .val (.int (0 : Int32))] [(.int (0 : Int32)), (.ref fa4), (.double ca)])) rfl rfl (hb hby d4_52) _ ?_
    show Steps p.tables e below (T9.setTop (mkF m 53 #[.val (.ref o0), .val (.ref s0), .val (.int (0 : Int32)), .val (.int ra), .val (.double ca), .second, .val (.int (0 : Int32))] [(.double va), (.double ca)])) _
    refine XS.aloadN X9.here hx rfl (hb hby d4_53) rfl rfl ?_
    refine XS.aloadN X9.here hx rfl (hb hby d4_54) rfl rfl ?_
    refine st11 _ ?_
    show Steps p.tables e below (T11.setTop (mkF m 58 #[.val (.ref o0), .val (.ref s0), .val (.int (0 : Int32)), .val (.int ra), .val (.double ca), .second, .val (.int (0 : Int32))] [(.ref fa3), (.ref s0), (.double va), (.double ca)])) _
    refine XS.iload X11.here hx rfl (hb hby d4_58) rfl ?_
    refine X11.iaload hx (j := (0 : Int32)) (v := (.int tx)) (by rw [e11]; exact Arq12.1) (State.isArrayOf_alike hZ.alike Arq12.2.1) Arq12.2.2 (inb_of Sq12 ⟨by decide, by decide⟩) (Has.at Hq12 (inb_of Sq12 ⟨by decide, by decide⟩) rfl) (g := (mkF m 60 #[.val (.ref o0), .val (.ref s0), .val (.int (0 : Int32)), .val (.int ra), .val (.double ca), .second, .val (.int (0 : Int32))] [(.int (0 : Int32)), (.ref fa3), (.ref s0), (.double va), (.double ca)])) rfl rfl (hb hby d4_60) _ ?_
    show Steps p.tables e below (T11.setTop (mkF m 61 #[.val (.ref o0), .val (.ref s0), .val (.int (0 : Int32)), .val (.int ra), .val (.double ca), .second, .val (.int (0 : Int32))] [(.int tx), (.ref s0), (.double va), (.double ca)])) _
    refine X11.daload hx (j := tx) (v := (.double cx)) (by rw [e11]; exact Arq13.1) (State.isArrayOf_alike hZ.alike Arq13.2.1) Arq13.2.2 (inb_of Sq13 hn_tx) (Has.at Hq13 (inb_of Sq13 hn_tx) hcx) (g := (mkF m 61 #[.val (.ref o0), .val (.ref s0), .val (.int (0 : Int32)), .val (.int ra), .val (.double ca), .second, .val (.int (0 : Int32))] [(.int tx), (.ref s0), (.double va), (.double ca)])) rfl rfl (hb hby d4_61) _ ?_
    show Steps p.tables e below (T11.setTop (mkF m 62 #[.val (.ref o0), .val (.ref s0), .val (.int (0 : Int32)), .val (.int ra), .val (.double ca), .second, .val (.int (0 : Int32))] [(.double cx), (.double va), (.double ca)])) _
    refine XS.dmulS X11.here hx rfl (hb hby d4_62) rfl nn62 (v := (FP.dmul va cx)) rfl ?_
    refine XS.dsubS X11.here hx rfl (hb hby d4_63) rfl nn63 (v := (FP.dsub ca (FP.dmul va cx))) rfl ?_
    refine XS.dstore X11.here hx rfl (hb hby d4_64) rfl (l' := #[.val (.ref o0), .val (.ref s0), .val (.int (0 : Int32)), .val (.int ra), .val (.double (FP.dsub ca (FP.dmul va cx))), .second, .val (.int (0 : Int32))]) rfl ?_
    refine XS.iinc X11.here hx rfl (hb hby d4_66) rfl (l' := #[.val (.ref o0), .val (.ref s0), .val (.int (0 : Int32)), .val (.int ra), .val (.double (FP.dsub ca (FP.dmul va cx))), .second, .val (.int ((0 : Int32) + (1 : Int32)))]) rfl ?_
    show Steps p.tables e below (T11.setTop (mkF m 69 #[.val (.ref o0), .val (.ref s0), .val (.int (0 : Int32)), .val (.int ra), .val (.double (FP.dsub ca (FP.dmul va cx))), .second, .val (.int ((0 : Int32) + (1 : Int32)))] [])) _
    rw [show ((0 : Int32) + (1 : Int32)) = (1 : Int32) by decide]
    show Steps p.tables e below (T11.setTop (mkF m 69 #[.val (.ref o0), .val (.ref s0), .val (.int (0 : Int32)), .val (.int ra), .val (.double (FP.dsub ca (FP.dmul va cx))), .second, .val (.int (1 : Int32))] [])) _
    refine XS.goto X11.here hx rfl (pc0 := 69) (pc' := 31) rfl (hb hby d4_69) (by decide) (by decide) ?_
    refine XS.iload X11.here hx rfl (hb hby d4_31) rfl ?_
    refine XS.aloadN X11.here hx rfl (hb hby d4_33) rfl rfl ?_
    refine st14 _ ?_
    show Steps p.tables e below (T14.setTop (mkF m 37 #[.val (.ref o0), .val (.ref s0), .val (.int (0 : Int32)), .val (.int ra), .val (.double (FP.dsub ca (FP.dmul va cx))), .second, .val (.int (1 : Int32))] [(.ref fa2), (.int (1 : Int32))])) _
    refine XS.iloadN X14.here hx rfl (hb hby d4_37) rfl ?_
    refine XS.iconst X14.here hx rfl (hb hby d4_38) ?_
    show Steps p.tables e below (T14.setTop (mkF m 39 #[.val (.ref o0), .val (.ref s0), .val (.int (0 : Int32)), .val (.int ra), .val (.double (FP.dsub ca (FP.dmul va cx))), .second, .val (.int (1 : Int32))] [(.int (1 : Int32)), (.int (0 : Int32)), (.ref fa2), (.int (1 : Int32))])) _
    refine XS.iadd X14.here hx rfl (hb hby d4_39) rfl ?_
    show Steps p.tables e below (T14.setTop (mkF m 40 #[.val (.ref o0), .val (.ref s0), .val (.int (0 : Int32)), .val (.int ra), .val (.double (FP.dsub ca (FP.dmul va cx))), .second, .val (.int (1 : Int32))] [(.int ((0 : Int32) + (1 : Int32))), (.ref fa2), (.int (1 : Int32))])) _
    rw [show ((0 : Int32) + (1 : Int32)) = (1 : Int32) by decide]
    show Steps p.tables e below (T14.setTop (mkF m 40 #[.val (.ref o0), .val (.ref s0), .val (.int (0 : Int32)), .val (.int ra), .val (.double (FP.dsub ca (FP.dmul va cx))), .second, .val (.int (1 : Int32))] [(.int (1 : Int32)), (.ref fa2), (.int (1 : Int32))])) _
    refine X14.iaload hx (j := (1 : Int32)) (v := (.int (2 : Int32))) (by rw [e14]; exact Arq15.1) (State.isArrayOf_alike hZ.alike Arq15.2.1) Arq15.2.2 (inb_of Sq15 ⟨by decide, by decide⟩) (Has.at Hq15 (inb_of Sq15 ⟨by decide, by decide⟩) rfl) (g := (mkF m 40 #[.val (.ref o0), .val (.ref s0), .val (.int (0 : Int32)), .val (.int ra), .val (.double (FP.dsub ca (FP.dmul va cx))), .second, .val (.int (1 : Int32))] [(.int (1 : Int32)), (.ref fa2), (.int (1 : Int32))])) rfl rfl (hb hby d4_40) _ ?_
    show Steps p.tables e below (T14.setTop (mkF m 41 #[.val (.ref o0), .val (.ref s0), .val (.int (0 : Int32)), .val (.int ra), .val (.double (FP.dsub ca (FP.dmul va cx))), .second, .val (.int (1 : Int32))] [(.int (2 : Int32)), (.int (1 : Int32))])) _
    refine XS.icmpNo X14.here hx rfl (hb hby d4_41) rfl (tlt (by decide : (1 : Int32) < (2 : Int32))).2.1 ?_
    refine XS.dload X14.here hx rfl (hb hby d4_44) rfl ?_
    refine XS.aloadN X14.here hx rfl (hb hby d4_46) rfl rfl ?_
    show Steps p.tables e below (T14.setTop (mkF m 47 #[.val (.ref o0), .val (.ref s0), .val (.int (0 : Int32)), .val (.int ra), .val (.double (FP.dsub ca (FP.dmul va cx))), .second, .val (.int (1 : Int32))] [(.ref o0), (.double (FP.dsub ca (FP.dmul va cx)))])) _
    refine st16 _ ?_
    show Steps p.tables e below (T16.setTop (mkF m 50 #[.val (.ref o0), .val (.ref s0), .val (.int (0 : Int32)), .val (.int ra), .val (.double (FP.dsub ca (FP.dmul va cx))), .second, .val (.int (1 : Int32))] [(.ref fa4), (.double (FP.dsub ca (FP.dmul va cx)))])) _
    refine XS.iload X16.here hx rfl (hb hby d4_50) rfl ?_
    refine X16.daload hx (j := (1 : Int32)) (v := (.double vb)) (by rw [e16]; exact Arq17.1) (State.isArrayOf_alike hZ.alike Arq17.2.1) Arq17.2.2 (inb_of Sq17 ⟨by decide, by decide⟩) (Has.at Hq17 (inb_of Sq17 ⟨by decide, by decide⟩) rfl) (g := (mkF m 52 #[.val (.ref o0), .val (.ref s0), .val (.int (0 : Int32)), .val (.int ra), .val (.double (FP.dsub ca (FP.dmul va cx))), .second, .val (.int (1 : Int32))] [(.int (1 : Int32)), (.ref fa4), (.double (FP.dsub ca (FP.dmul va cx)))])) rfl rfl (hb hby d4_52) _ ?_
    show Steps p.tables e below (T16.setTop (mkF m 53 #[.val (.ref o0), .val (.ref s0), .val (.int (0 : Int32)), .val (.int ra), .val (.double (FP.dsub ca (FP.dmul va cx))), .second, .val (.int (1 : Int32))] [(.double vb), (.double (FP.dsub ca (FP.dmul va cx)))])) _
    refine XS.aloadN X16.here hx rfl (hb hby d4_53) rfl rfl ?_
    refine XS.aloadN X16.here hx rfl (hb hby d4_54) rfl rfl ?_
    refine st18 _ ?_
    show Steps p.tables e below (T18.setTop (mkF m 58 #[.val (.ref o0), .val (.ref s0), .val (.int (0 : Int32)), .val (.int ra), .val (.double (FP.dsub ca (FP.dmul va cx))), .second, .val (.int (1 : Int32))] [(.ref fa3), (.ref s0), (.double vb), (.double (FP.dsub ca (FP.dmul va cx)))])) _
    refine XS.iload X18.here hx rfl (hb hby d4_58) rfl ?_
    refine X18.iaload hx (j := (1 : Int32)) (v := (.int ty)) (by rw [e18]; exact Arq19.1) (State.isArrayOf_alike hZ.alike Arq19.2.1) Arq19.2.2 (inb_of Sq19 ⟨by decide, by decide⟩) (Has.at Hq19 (inb_of Sq19 ⟨by decide, by decide⟩) rfl) (g := (mkF m 60 #[.val (.ref o0), .val (.ref s0), .val (.int (0 : Int32)), .val (.int ra), .val (.double (FP.dsub ca (FP.dmul va cx))), .second, .val (.int (1 : Int32))] [(.int (1 : Int32)), (.ref fa3), (.ref s0), (.double vb), (.double (FP.dsub ca (FP.dmul va cx)))])) rfl rfl (hb hby d4_60) _ ?_
    show Steps p.tables e below (T18.setTop (mkF m 61 #[.val (.ref o0), .val (.ref s0), .val (.int (0 : Int32)), .val (.int ra), .val (.double (FP.dsub ca (FP.dmul va cx))), .second, .val (.int (1 : Int32))] [(.int ty), (.ref s0), (.double vb), (.double (FP.dsub ca (FP.dmul va cx)))])) _
    refine X18.daload hx (j := ty) (v := (.double cy)) (by rw [e18]; exact Arq20.1) (State.isArrayOf_alike hZ.alike Arq20.2.1) Arq20.2.2 (inb_of Sq20 hn_ty) (Has.at Hq20 (inb_of Sq20 hn_ty) hcy) (g := (mkF m 61 #[.val (.ref o0), .val (.ref s0), .val (.int (0 : Int32)), .val (.int ra), .val (.double (FP.dsub ca (FP.dmul va cx))), .second, .val (.int (1 : Int32))] [(.int ty), (.ref s0), (.double vb), (.double (FP.dsub ca (FP.dmul va cx)))])) rfl rfl (hb hby d4_61) _ ?_
    show Steps p.tables e below (T18.setTop (mkF m 62 #[.val (.ref o0), .val (.ref s0), .val (.int (0 : Int32)), .val (.int ra), .val (.double (FP.dsub ca (FP.dmul va cx))), .second, .val (.int (1 : Int32))] [(.double cy), (.double vb), (.double (FP.dsub ca (FP.dmul va cx)))])) _
    refine XS.dmulS X18.here hx rfl (hb hby d4_62) rfl nn62_1 (v := (FP.dmul vb cy)) rfl ?_
    refine XS.dsubS X18.here hx rfl (hb hby d4_63) rfl nn63_1 (v := (FP.dsub (FP.dsub ca (FP.dmul va cx)) (FP.dmul vb cy))) rfl ?_
    refine XS.dstore X18.here hx rfl (hb hby d4_64) rfl (l' := #[.val (.ref o0), .val (.ref s0), .val (.int (0 : Int32)), .val (.int ra), .val (.double (FP.dsub (FP.dsub ca (FP.dmul va cx)) (FP.dmul vb cy))), .second, .val (.int (1 : Int32))]) rfl ?_
    show Steps p.tables e below (T18.setTop (mkF m 66 #[.val (.ref o0), .val (.ref s0), .val (.int (0 : Int32)), .val (.int ra), .val (.double (FP.dsub (FP.dsub ca (FP.dmul va cx)) (FP.dmul vb cy))), .second, .val (.int (1 : Int32))] [])) _
    refine XS.iinc X18.here hx rfl (hb hby d4_66) rfl (l' := #[.val (.ref o0), .val (.ref s0), .val (.int (0 : Int32)), .val (.int ra), .val (.double (FP.dsub (FP.dsub ca (FP.dmul va cx)) (FP.dmul vb cy))), .second, .val (.int ((1 : Int32) + (1 : Int32)))]) rfl ?_
    show Steps p.tables e below (T18.setTop (mkF m 69 #[.val (.ref o0), .val (.ref s0), .val (.int (0 : Int32)), .val (.int ra), .val (.double (FP.dsub (FP.dsub ca (FP.dmul va cx)) (FP.dmul vb cy))), .second, .val (.int ((1 : Int32) + (1 : Int32)))] [])) _
    rw [show ((1 : Int32) + (1 : Int32)) = (2 : Int32) by decide]
    show Steps p.tables e below (T18.setTop (mkF m 69 #[.val (.ref o0), .val (.ref s0), .val (.int (0 : Int32)), .val (.int ra), .val (.double (FP.dsub (FP.dsub ca (FP.dmul va cx)) (FP.dmul vb cy))), .second, .val (.int (2 : Int32))] [])) _
    refine XS.goto X18.here hx rfl (pc0 := 69) (pc' := 31) rfl (hb hby d4_69) (by decide) (by decide) ?_
    refine XS.iload X18.here hx rfl (hb hby d4_31) rfl ?_
    refine XS.aloadN X18.here hx rfl (hb hby d4_33) rfl rfl ?_
    refine st21 _ ?_
    show Steps p.tables e below (T21.setTop (mkF m 37 #[.val (.ref o0), .val (.ref s0), .val (.int (0 : Int32)), .val (.int ra), .val (.double (FP.dsub (FP.dsub ca (FP.dmul va cx)) (FP.dmul vb cy))), .second, .val (.int (2 : Int32))] [(.ref fa2), (.int (2 : Int32))])) _
    refine XS.iloadN X21.here hx rfl (hb hby d4_37) rfl ?_
    refine XS.iconst X21.here hx rfl (hb hby d4_38) ?_
    refine XS.iadd X21.here hx rfl (hb hby d4_39) rfl ?_
    show Steps p.tables e below (T21.setTop (mkF m 40 #[.val (.ref o0), .val (.ref s0), .val (.int (0 : Int32)), .val (.int ra), .val (.double (FP.dsub (FP.dsub ca (FP.dmul va cx)) (FP.dmul vb cy))), .second, .val (.int (2 : Int32))] [(.int ((0 : Int32) + (1 : Int32))), (.ref fa2), (.int (2 : Int32))])) _
    rw [show ((0 : Int32) + (1 : Int32)) = (1 : Int32) by decide]
    show Steps p.tables e below (T21.setTop (mkF m 40 #[.val (.ref o0), .val (.ref s0), .val (.int (0 : Int32)), .val (.int ra), .val (.double (FP.dsub (FP.dsub ca (FP.dmul va cx)) (FP.dmul vb cy))), .second, .val (.int (2 : Int32))] [(.int (1 : Int32)), (.ref fa2), (.int (2 : Int32))])) _
    refine X21.iaload hx (j := (1 : Int32)) (v := (.int (2 : Int32))) (by rw [e21]; exact Arq22.1) (State.isArrayOf_alike hZ.alike Arq22.2.1) Arq22.2.2 (inb_of Sq22 ⟨by decide, by decide⟩) (Has.at Hq22 (inb_of Sq22 ⟨by decide, by decide⟩) rfl) (g := (mkF m 40 #[.val (.ref o0), .val (.ref s0), .val (.int (0 : Int32)), .val (.int ra), .val (.double (FP.dsub (FP.dsub ca (FP.dmul va cx)) (FP.dmul vb cy))), .second, .val (.int (2 : Int32))] [(.int (1 : Int32)), (.ref fa2), (.int (2 : Int32))])) rfl rfl (hb hby d4_40) _ ?_
    show Steps p.tables e below (T21.setTop (mkF m 41 #[.val (.ref o0), .val (.ref s0), .val (.int (0 : Int32)), .val (.int ra), .val (.double (FP.dsub (FP.dsub ca (FP.dmul va cx)) (FP.dmul vb cy))), .second, .val (.int (2 : Int32))] [(.int (2 : Int32)), (.int (2 : Int32))])) _
    refine XS.icmpYes X21.here hx rfl (pc0 := 41) (pc' := 72) rfl (hb hby d4_41) rfl (flt (by decide : ¬ ((2 : Int32) < (2 : Int32)))).2.1 (by decide) (by decide) ?_
    show Steps p.tables e below (T21.setTop (mkF m 72 #[.val (.ref o0), .val (.ref s0), .val (.int (0 : Int32)), .val (.int ra), .val (.double (FP.dsub (FP.dsub ca (FP.dmul va cx)) (FP.dmul vb cy))), .second, .val (.int (2 : Int32))] [])) _
    refine XS.aloadN X21.here hx rfl (hb hby d4_72) rfl rfl ?_
    refine XS.iloadN X21.here hx rfl (hb hby d4_73) rfl ?_
    refine XS.dload X21.here hx rfl (hb hby d4_74) rfl ?_
    refine XS.aloadN X21.here hx rfl (hb hby d4_76) rfl rfl ?_
    refine st23 _ ?_
    show Steps p.tables e below (T23.setTop (mkF m 80 #[.val (.ref o0), .val (.ref s0), .val (.int (0 : Int32)), .val (.int ra), .val (.double (FP.dsub (FP.dsub ca (FP.dmul va cx)) (FP.dmul vb cy))), .second, .val (.int (2 : Int32))] [(.ref fa1), (.double (FP.dsub (FP.dsub ca (FP.dmul va cx)) (FP.dmul vb cy))), (.int ra), (.ref s0)])) _
    refine XS.iloadN X23.here hx rfl (hb hby d4_80) rfl ?_
    show Steps p.tables e below (T23.setTop (mkF m 81 #[.val (.ref o0), .val (.ref s0), .val (.int (0 : Int32)), .val (.int ra), .val (.double (FP.dsub (FP.dsub ca (FP.dmul va cx)) (FP.dmul vb cy))), .second, .val (.int (2 : Int32))] [(.int (0 : Int32)), (.ref fa1), (.double (FP.dsub (FP.dsub ca (FP.dmul va cx)) (FP.dmul vb cy))), (.int ra), (.ref s0)])) _
    refine X23.daload hx (j := (0 : Int32)) (v := (.double pe1)) (by rw [e23]; exact Arq24.1) (State.isArrayOf_alike hZ.alike Arq24.2.1) Arq24.2.2 (inb_of Sq24 ⟨by decide, by decide⟩) (Has.at Hq24 (inb_of Sq24 ⟨by decide, by decide⟩) rfl) (g := (mkF m 81 #[.val (.ref o0), .val (.ref s0), .val (.int (0 : Int32)), .val (.int ra), .val (.double (FP.dsub (FP.dsub ca (FP.dmul va cx)) (FP.dmul vb cy))), .second, .val (.int (2 : Int32))] [(.int (0 : Int32)), (.ref fa1), (.double (FP.dsub (FP.dsub ca (FP.dmul va cx)) (FP.dmul vb cy))), (.int ra), (.ref s0)])) rfl rfl (hb hby d4_81) _ ?_
    show Steps p.tables e below (T23.setTop (mkF m 82 #[.val (.ref o0), .val (.ref s0), .val (.int (0 : Int32)), .val (.int ra), .val (.double (FP.dsub (FP.dsub ca (FP.dmul va cx)) (FP.dmul vb cy))), .second, .val (.int (2 : Int32))] [(.double pe1), (.double (FP.dsub (FP.dsub ca (FP.dmul va cx)) (FP.dmul vb cy))), (.int ra), (.ref s0)])) _
    refine XS.ddivS X23.here hx rfl (hb hby d4_82) rfl nn82 (v := qa) hq82 ?_
    refine st26 _ ?_
    show Steps p.tables e below (T26.setTop (mkF m 84 #[.val (.ref o0), .val (.ref s0), .val (.int (0 : Int32)), .val (.int ra), .val (.double (FP.dsub (FP.dsub ca (FP.dmul va cx)) (FP.dmul vb cy))), .second, .val (.int (2 : Int32))] [])) _
    refine XS.iinc X26.here hx rfl (hb hby d4_84) rfl (l' := #[.val (.ref o0), .val (.ref s0), .val (.int ((0 : Int32) + (-1 : Int32))), .val (.int ra), .val (.double (FP.dsub (FP.dsub ca (FP.dmul va cx)) (FP.dmul vb cy))), .second, .val (.int (2 : Int32))]) rfl ?_
    show Steps p.tables e below (T26.setTop (mkF m 87 #[.val (.ref o0), .val (.ref s0), .val (.int ((0 : Int32) + (-1 : Int32))), .val (.int ra), .val (.double (FP.dsub (FP.dsub ca (FP.dmul va cx)) (FP.dmul vb cy))), .second, .val (.int (2 : Int32))] [])) _
    rw [show ((0 : Int32) + (-1 : Int32)) = (-1 : Int32) by decide]
    show Steps p.tables e below (T26.setTop (mkF m 87 #[.val (.ref o0), .val (.ref s0), .val (.int (-1 : Int32)), .val (.int ra), .val (.double (FP.dsub (FP.dsub ca (FP.dmul va cx)) (FP.dmul vb cy))), .second, .val (.int (2 : Int32))] [])) _
    refine XS.goto X26.here hx rfl (pc0 := 87) (pc' := 7) rfl (hb hby d4_87) (by decide) (by decide) ?_
    show Steps p.tables e below (T26.setTop (mkF m 7 #[.val (.ref o0), .val (.ref s0), .val (.int (-1 : Int32)), .val (.int ra), .val (.double (FP.dsub (FP.dsub ca (FP.dmul va cx)) (FP.dmul vb cy))), .second, .val (.int (2 : Int32))] [])) _
    refine XS.iloadN X26.here hx rfl (hb hby d4_7) rfl ?_
    refine XS.ifYes X26.here hx rfl (pc0 := 8) (pc' := 90) rfl (hb hby d4_8) rfl ((if0 _ _).trans (tlt (by decide : (-1 : Int32) < (0 : Int32))).1) (by decide) (by decide) ?_
    exact X26.returnOut hx Bd.returns (hb hby d4_90) hr
  · show Q_so1 Z o0 fa0 fa1 fa2 fa3 fa4 kfa0 kfa1 kfa2 kfa3 kfa4 ra pe1 tx ty va vb s0 ks c0 c1 c2 ca cx cy qa y0 y1 y2 h0 n0 _ T26.heap _
    rw [e26]
    exact ⟨rfl, N26, K26, f40⟩
def Q_so2 (Z : State) (o0 : Addr) (fa0 : Addr) (fa1 : Addr) (fa2 : Addr) (fa3 : Addr) (fa4 : Addr) (kfa0 : ClassId) (kfa1 : ClassId) (kfa2 : ClassId) (kfa3 : ClassId) (kfa4 : ClassId) (ra : Int32) (rb : Int32) (pe1 : UInt64) (w0 : UInt64) (tx : Int32) (ty : Int32) (rc : Int32) (va : UInt64) (vb : UInt64) (w1 : UInt64) (s0 : Addr) (ks : ClassId) (c0 : UInt64) (c1 : UInt64) (c2 : UInt64) (cb : UInt64) (ca : UInt64) (z0 : UInt64) (z1 : UInt64) (z2 : UInt64) (cc : UInt64) (cx : UInt64) (cy : UInt64) (qb : UInt64) (qa : UInt64) (y0 : UInt64) (y1 : UInt64) (y2 : UInt64) (h0 : Heap) (n0 : Nat) (v : Option Value) (h : Heap) (L : List Loc) : Prop := v = none ∧ Fr n0 L ∧ Keep h0 h [s0] ∧ Arv Z h s0 ks .double (3 : Int32) [(.double y0), (.double y1), (.double y2)] (.double (0 : UInt64))
set_option maxRecDepth 65536 in
set_option maxHeartbeats 40000000 in
theorem so2 (l : Launch) (Z : State) (a0 : Array Value) (hw : ∀ d ∈ tables_1, d.before a0 Z = true) (ws : List Jvm.Cond) (o0 : Addr) (fa0 : Addr) (fa1 : Addr) (fa2 : Addr) (fa3 : Addr) (fa4 : Addr) (kfa0 : ClassId) (kfa1 : ClassId) (kfa2 : ClassId) (kfa3 : ClassId) (kfa4 : ClassId) (ra : Int32) (rb : Int32) (pe1 : UInt64) (w0 : UInt64) (tx : Int32) (ty : Int32) (rc : Int32) (va : UInt64) (vb : UInt64) (w1 : UInt64) (s0 : Addr) (ks : ClassId) (c0 : UInt64) (c1 : UInt64) (c2 : UInt64) (cb : UInt64) (ca : UInt64) (z0 : UInt64) (z1 : UInt64) (z2 : UInt64) (cc : UInt64) (cx : UInt64) (cy : UInt64) (qb : UInt64) (qa : UInt64) (y0 : UInt64) (y1 : UInt64) (y2 : UInt64) (h0 : Heap) (n0 : Nat) (Z0 : n0 ≤ h0.size) (F_pivotRows_o0 : Fld Z h0 o0 "com/example/leeway/leeway/lp/BasisInverse" "pivotRows" "[I" (.ref fa0)) (F_pivots_o0 : Fld Z h0 o0 "com/example/leeway/leeway/lp/BasisInverse" "pivots" "[D" (.ref fa1)) (F_termStart_o0 : Fld Z h0 o0 "com/example/leeway/leeway/lp/BasisInverse" "termStart" "[I" (.ref fa2)) (F_termRows_o0 : Fld Z h0 o0 "com/example/leeway/leeway/lp/BasisInverse" "termRows" "[I" (.ref fa3)) (F_termValues_o0 : Fld Z h0 o0 "com/example/leeway/leeway/lp/BasisInverse" "termValues" "[D" (.ref fa4)) (F_count_o0 : Fld Z h0 o0 "com/example/leeway/leeway/lp/BasisInverse" "count" "I" (.int (2 : Int32))) (E_o0 : Exa Z h0 o0 "com/example/leeway/leeway/lp/BasisInverse") (V_fa0 : Arv Z h0 fa0 kfa0 .int (16 : Int32) [(.int ra), (.int rb), (.int (0 : Int32)), (.int (0 : Int32))] (.int (0 : Int32))) (V_fa1 : Arv Z h0 fa1 kfa1 .double (16 : Int32) [(.double pe1), (.double w0), (.double (0 : UInt64)), (.double (0 : UInt64))] (.double (0 : UInt64))) (V_fa2 : Arv Z h0 fa2 kfa2 .int (17 : Int32) [(.int (0 : Int32)), (.int (2 : Int32)), (.int (3 : Int32)), (.int (0 : Int32))] (.int (0 : Int32))) (V_fa3 : Arv Z h0 fa3 kfa3 .int (64 : Int32) [(.int tx), (.int ty), (.int rc), (.int (0 : Int32))] (.int (0 : Int32))) (V_fa4 : Arv Z h0 fa4 kfa4 .double (64 : Int32) [(.double va), (.double vb), (.double w1), (.double (0 : UInt64))] (.double (0 : UInt64))) (V_s0 : Arv Z h0 s0 ks .double (3 : Int32) [(.double c0), (.double c1), (.double c2)] (.double (0 : UInt64))) (g_s0 : n0 ≤ s0) (ne_o0_s0 : o0 ≠ s0) (ne_fa0_s0 : fa0 ≠ s0) (ne_fa1_s0 : fa1 ≠ s0) (ne_fa2_s0 : fa2 ≠ s0) (ne_fa3_s0 : fa3 ≠ s0) (ne_fa4_s0 : fa4 ≠ s0) (hn_rb : ¬ rb < 0 ∧ rb < (3 : Int32)) (hcb : ([(.double c0), (.double c1), (.double c2)] : List Value).getD rb.toNatClampNeg (.double (0 : UInt64)) = .double cb) (hn_ra : ¬ ra < 0 ∧ ra < (3 : Int32)) (hca : ([(.double z0), (.double z1), (.double z2)] : List Value).getD ra.toNatClampNeg (.double (0 : UInt64)) = .double ca) (hn_rc : ¬ rc < 0 ∧ rc < (3 : Int32)) (hcc : ([(.double c0), (.double c1), (.double c2)] : List Value).getD rc.toNatClampNeg (.double (0 : UInt64)) = .double cc) (hn_tx : ¬ tx < 0 ∧ tx < (3 : Int32)) (hcx : ([(.double z0), (.double z1), (.double z2)] : List Value).getD tx.toNatClampNeg (.double (0 : UInt64)) = .double cx) (hn_ty : ¬ ty < 0 ∧ ty < (3 : Int32)) (hcy : ([(.double z0), (.double z1), (.double z2)] : List Value).getD ty.toNatClampNeg (.double (0 : UInt64)) = .double cy) (hl_rb : rb.toNatClampNeg < 3) (hl_ra : ra.toNatClampNeg < 3) (hz : (([(.double c0), (.double c1), (.double c2)] : List Value).set rb.toNatClampNeg (.double qb)) = [(.double z0), (.double z1), (.double z2)]) (hy : (([(.double z0), (.double z1), (.double z2)] : List Value).set ra.toNatClampNeg (.double qa)) = [(.double y0), (.double y1), (.double y2)]) (nn62 : Jvm.Free.Fl.NoNaN64 (FP.dmul w1 cc)) (nn63 : Jvm.Free.Fl.NoNaN64 (FP.dsub cb (FP.dmul w1 cc))) (nn82 : Jvm.Free.Fl.NoNaN64 (FP.ddiv (FP.dsub cb (FP.dmul w1 cc)) w0)) (hq82 : (FP.ddiv (FP.dsub cb (FP.dmul w1 cc)) w0) = qb) (nn62_1 : Jvm.Free.Fl.NoNaN64 (FP.dmul va cx)) (nn63_1 : Jvm.Free.Fl.NoNaN64 (FP.dsub ca (FP.dmul va cx))) (nn62_2 : Jvm.Free.Fl.NoNaN64 (FP.dmul vb cy)) (nn63_2 : Jvm.Free.Fl.NoNaN64 (FP.dsub (FP.dsub ca (FP.dmul va cx)) (FP.dmul vb cy))) (nn82_1 : Jvm.Free.Fl.NoNaN64 (FP.ddiv (FP.dsub (FP.dsub ca (FP.dmul va cx)) (FP.dmul vb cy)) pe1)) (hq82_1 : (FP.ddiv (FP.dsub (FP.dsub ca (FP.dmul va cx)) (FP.dmul vb cy)) pe1) = qa) :
    MetFree l (⟨"com/example/leeway/leeway/lp/BasisInverse", "solveTransposed", "([D)V"⟩ : MethodName) (head1 (Jvm.Cond.code (⟨"com/example/leeway/leeway/lp/BasisInverse", "solveTransposed", "([D)V"⟩ : MethodName) prog_85_method_9_code 7 none :: ws) ({ frames := 0, cells := 0, slots := 0, locals := 0 } : Room)) (fun a U => a = #[(.ref o0), (.ref s0)] ∧ Z.Warmed39 U.vm ∧ U.heap = h0) (fun _ _ _ _ _ => True) (fun _ U o U' => ∃ v L, o = .returned v ∧ Q_so2 Z o0 fa0 fa1 fa2 fa3 fa4 kfa0 kfa1 kfa2 kfa3 kfa4 ra rb pe1 w0 tx ty rc va vb w1 s0 ks c0 c1 c2 cb ca z0 z1 z2 cc cx cy qb qa y0 y1 y2 h0 n0 v U'.heap L ∧ FrameEnd U o U' L ({ frames := 0, cells := 0, slots := 0, locals := 0 } : Room).cells ({ frames := 0, cells := 0, slots := 0, locals := 0 } : Room).slots) := by
  refine MetFree.of_bodySF (plainFor_of_name pn_com_example_leeway_leeway_lp_BasisInverse) hisR ?_
  intro p e s m args below meth c s₁ Bd hml0 hP hK
  obtain ⟨rfl, hZ, hh⟩ := hP
  have hx := Bd.exec
  have hby := Bd.bytes
  have hml : c.maxLocals = 7 := hml0
  have hown : s.vm.findClass "com/example/leeway/leeway/lp/BasisInverse" = some m.cls := findClass_of_methodNamed Bd.named
  have hnm := (name_of_methodNamed Bd.named Bd.method).1
  have X0 : Stand p l e ({ frames := 0, cells := 0, slots := 0, locals := 0 } : Room) s m #[(.ref o0), (.ref s0)] below meth c s₁ [] 0 0 := Stand.of_body Bd
  have e0 : s₁.heap = h0 := by rw [← hh, Bd.state]; rfl
  have N0 := Fr.nil n0
  have pre0 : ∀ t, Steps p.tables e below (s₁.setTop (mkF m 0 #[.val (.ref o0), .val (.ref s0), .unset, .unset, .unset, .unset, .unset] [])) t → Steps p.tables e below (s₁.setTop (entryFrame m #[(.ref o0), (.ref s0)] 7)) t := fun t k => castTop (ef_4_RR m o0 s0) k
  obtain ⟨T1, X1, e1, st1⟩ := getF X0 hx hZ hown (host := "") (Or.inl (hw _ (List.mem_of_getElem? (i := 30) rfl))) Via.refl e0 F_count_o0 (g := (mkF m 1 #[.val (.ref o0), .val (.ref s0), .unset, .unset, .unset, .unset, .unset] [(.ref o0)])) rfl rfl (hb hby d4_1)
  obtain ⟨T2, X2, e2, st2⟩ := getF X1 hx hZ hown (host := "") (Or.inl (hw _ (List.mem_of_getElem? (i := 15) rfl))) Via.refl e1 F_pivotRows_o0 (g := (mkF m 12 #[.val (.ref o0), .val (.ref s0), .val (.int (1 : Int32)), .unset, .unset, .unset, .unset] [(.ref o0)])) rfl rfl (hb hby d4_12)
  obtain ⟨cq3, Arq3, -, Sq3, -, Hq3, -⟩ := id V_fa0
  obtain ⟨cq4, Arq4, -, Sq4, -, Hq4, -⟩ := id V_s0
  obtain ⟨T5, X5, e5, st5⟩ := getF X2 hx hZ hown (host := "") (Or.inl (hw _ (List.mem_of_getElem? (i := 19) rfl))) Via.refl e2 F_termStart_o0 (g := (mkF m 24 #[.val (.ref o0), .val (.ref s0), .val (.int (1 : Int32)), .val (.int rb), .val (.double cb), .second, .unset] [(.ref o0)])) rfl rfl (hb hby d4_24)
  obtain ⟨cq6, Arq6, -, Sq6, -, Hq6, -⟩ := id V_fa2
  obtain ⟨T7, X7, e7, st7⟩ := getF X5 hx hZ hown (host := "") (Or.inl (hw _ (List.mem_of_getElem? (i := 19) rfl))) Via.refl e5 F_termStart_o0 (g := (mkF m 34 #[.val (.ref o0), .val (.ref s0), .val (.int (1 : Int32)), .val (.int rb), .val (.double cb), .second, .val (.int (2 : Int32))] [(.ref o0), (.int (2 : Int32))])) rfl rfl (hb hby d4_34)
  obtain ⟨cq8, Arq8, -, Sq8, -, Hq8, -⟩ := id V_fa2
  obtain ⟨T9, X9, e9, st9⟩ := getF X7 hx hZ hown (host := "") (Or.inl (hw _ (List.mem_of_getElem? (i := 23) rfl))) Via.refl e7 F_termValues_o0 (g := (mkF m 47 #[.val (.ref o0), .val (.ref s0), .val (.int (1 : Int32)), .val (.int rb), .val (.double cb), .second, .val (.int (2 : Int32))] [(.ref o0), (.double cb)])) rfl rfl (hb hby d4_47)
  obtain ⟨cq10, Arq10, -, Sq10, -, Hq10, -⟩ := id V_fa4
  obtain ⟨T11, X11, e11, st11⟩ := getF X9 hx hZ hown (host := "") (Or.inl (hw _ (List.mem_of_getElem? (i := 21) rfl))) Via.refl e9 F_termRows_o0 (g := (mkF m 55 #[.val (.ref o0), .val (.ref s0), .val (.int (1 : Int32)), .val (.int rb), .val (.double cb), .second, .val (.int (2 : Int32))] [(.ref o0), (.ref s0), (.double w1), (.double cb)])) rfl rfl (hb hby d4_55)
  obtain ⟨cq12, Arq12, -, Sq12, -, Hq12, -⟩ := id V_fa3
  obtain ⟨cq13, Arq13, -, Sq13, -, Hq13, -⟩ := id V_s0
  obtain ⟨T14, X14, e14, st14⟩ := getF X11 hx hZ hown (host := "") (Or.inl (hw _ (List.mem_of_getElem? (i := 19) rfl))) Via.refl e11 F_termStart_o0 (g := (mkF m 34 #[.val (.ref o0), .val (.ref s0), .val (.int (1 : Int32)), .val (.int rb), .val (.double (FP.dsub cb (FP.dmul w1 cc))), .second, .val (.int (3 : Int32))] [(.ref o0), (.int (3 : Int32))])) rfl rfl (hb hby d4_34)
  obtain ⟨cq15, Arq15, -, Sq15, -, Hq15, -⟩ := id V_fa2
  obtain ⟨T16, X16, e16, st16⟩ := getF X14 hx hZ hown (host := "") (Or.inl (hw _ (List.mem_of_getElem? (i := 17) rfl))) Via.refl e14 F_pivots_o0 (g := (mkF m 77 #[.val (.ref o0), .val (.ref s0), .val (.int (1 : Int32)), .val (.int rb), .val (.double (FP.dsub cb (FP.dmul w1 cc))), .second, .val (.int (3 : Int32))] [(.ref o0), (.double (FP.dsub cb (FP.dmul w1 cc))), (.int rb), (.ref s0)])) rfl rfl (hb hby d4_77)
  obtain ⟨cq17, Arq17, -, Sq17, -, Hq17, -⟩ := id V_fa1
  obtain ⟨cq18, Arq18, qq18, Sq18, Nq18, Hq18, Gq18⟩ := id V_s0
  obtain ⟨T19, h19, X19, e19, W19, st19⟩ := stD X16 hx hZ e16 Arq18 (j := rb) (inb_of Sq18 hn_rb) (g := (mkF m 83 #[.val (.ref o0), .val (.ref s0), .val (.int (1 : Int32)), .val (.int rb), .val (.double (FP.dsub cb (FP.dmul w1 cc))), .second, .val (.int (3 : Int32))] [(.double qb), (.int rb), (.ref s0)])) rfl rfl (hb hby d4_83)
  have f20 := F_pivotRows_o0.other W19 (Or.inl ne_o0_s0)
  have f21 := F_pivots_o0.other W19 (Or.inl ne_o0_s0)
  have f22 := F_termStart_o0.other W19 (Or.inl ne_o0_s0)
  have f23 := F_termRows_o0.other W19 (Or.inl ne_o0_s0)
  have f24 := F_termValues_o0.other W19 (Or.inl ne_o0_s0)
  have f25 := F_count_o0.other W19 (Or.inl ne_o0_s0)
  have f26 := E_o0.wr W19
  have f27 := V_fa0.other W19 ne_fa0_s0
  have f28 := V_fa1.other W19 ne_fa1_s0
  have f29 := V_fa2.other W19 ne_fa2_s0
  have f30 := V_fa3.other W19 ne_fa3_s0
  have f31 := V_fa4.other W19 ne_fa4_s0
  have K19 : Keep h0 h19 [s0] := (Keep.refl h0 [s0]).wr W19 (Or.inl (List.mem_of_getElem? (i := 0) rfl))
  have Zs19 := Nat.le_trans Z0 (Keep.of_wr W19).1
  have N19 := Fr.snoc X19 N0 g_s0
  have f32 : Arv Z h19 s0 ks .double (3 : Int32) ([(.double c0), (.double c1), (.double c2)].set rb.toNatClampNeg (.double qb)) (.double (0 : UInt64)) := Arv.set Arq18 qq18 Sq18 Nq18 Hq18 Gq18 rfl W19 rb.toNatClampNeg rfl hl_rb
  have f33 := own_arvL (vs1 := [(.double z0), (.double z1), (.double z2)]) (hz : (([(.double c0), (.double c1), (.double c2)].set rb.toNatClampNeg (.double qb)) : List Value) = [(.double z0), (.double z1), (.double z2)]) f32
  obtain ⟨T34, X34, e34, st34⟩ := getF X19 hx hZ hown (host := "") (Or.inl (hw _ (List.mem_of_getElem? (i := 15) rfl))) Via.refl e19 f20 (g := (mkF m 12 #[.val (.ref o0), .val (.ref s0), .val (.int (0 : Int32)), .val (.int rb), .val (.double (FP.dsub cb (FP.dmul w1 cc))), .second, .val (.int (3 : Int32))] [(.ref o0)])) rfl rfl (hb hby d4_12)
  obtain ⟨cq35, Arq35, -, Sq35, -, Hq35, -⟩ := id f27
  obtain ⟨cq36, Arq36, -, Sq36, -, Hq36, -⟩ := id f33
  obtain ⟨T37, X37, e37, st37⟩ := getF X34 hx hZ hown (host := "") (Or.inl (hw _ (List.mem_of_getElem? (i := 19) rfl))) Via.refl e34 f22 (g := (mkF m 24 #[.val (.ref o0), .val (.ref s0), .val (.int (0 : Int32)), .val (.int ra), .val (.double ca), .second, .val (.int (3 : Int32))] [(.ref o0)])) rfl rfl (hb hby d4_24)
  obtain ⟨cq38, Arq38, -, Sq38, -, Hq38, -⟩ := id f29
  obtain ⟨T39, X39, e39, st39⟩ := getF X37 hx hZ hown (host := "") (Or.inl (hw _ (List.mem_of_getElem? (i := 19) rfl))) Via.refl e37 f22 (g := (mkF m 34 #[.val (.ref o0), .val (.ref s0), .val (.int (0 : Int32)), .val (.int ra), .val (.double ca), .second, .val (.int (0 : Int32))] [(.ref o0), (.int (0 : Int32))])) rfl rfl (hb hby d4_34)
  obtain ⟨cq40, Arq40, -, Sq40, -, Hq40, -⟩ := id f29
  obtain ⟨T41, X41, e41, st41⟩ := getF X39 hx hZ hown (host := "") (Or.inl (hw _ (List.mem_of_getElem? (i := 23) rfl))) Via.refl e39 f24 (g := (mkF m 47 #[.val (.ref o0), .val (.ref s0), .val (.int (0 : Int32)), .val (.int ra), .val (.double ca), .second, .val (.int (0 : Int32))] [(.ref o0), (.double ca)])) rfl rfl (hb hby d4_47)
  obtain ⟨cq42, Arq42, -, Sq42, -, Hq42, -⟩ := id f31
  obtain ⟨T43, X43, e43, st43⟩ := getF X41 hx hZ hown (host := "") (Or.inl (hw _ (List.mem_of_getElem? (i := 21) rfl))) Via.refl e41 f23 (g := (mkF m 55 #[.val (.ref o0), .val (.ref s0), .val (.int (0 : Int32)), .val (.int ra), .val (.double ca), .second, .val (.int (0 : Int32))] [(.ref o0), (.ref s0), (.double va), (.double ca)])) rfl rfl (hb hby d4_55)
  obtain ⟨cq44, Arq44, -, Sq44, -, Hq44, -⟩ := id f30
  obtain ⟨cq45, Arq45, -, Sq45, -, Hq45, -⟩ := id f33
  obtain ⟨T46, X46, e46, st46⟩ := getF X43 hx hZ hown (host := "") (Or.inl (hw _ (List.mem_of_getElem? (i := 19) rfl))) Via.refl e43 f22 (g := (mkF m 34 #[.val (.ref o0), .val (.ref s0), .val (.int (0 : Int32)), .val (.int ra), .val (.double (FP.dsub ca (FP.dmul va cx))), .second, .val (.int (1 : Int32))] [(.ref o0), (.int (1 : Int32))])) rfl rfl (hb hby d4_34)
  obtain ⟨cq47, Arq47, -, Sq47, -, Hq47, -⟩ := id f29
  obtain ⟨T48, X48, e48, st48⟩ := getF X46 hx hZ hown (host := "") (Or.inl (hw _ (List.mem_of_getElem? (i := 23) rfl))) Via.refl e46 f24 (g := (mkF m 47 #[.val (.ref o0), .val (.ref s0), .val (.int (0 : Int32)), .val (.int ra), .val (.double (FP.dsub ca (FP.dmul va cx))), .second, .val (.int (1 : Int32))] [(.ref o0), (.double (FP.dsub ca (FP.dmul va cx)))])) rfl rfl (hb hby d4_47)
  obtain ⟨cq49, Arq49, -, Sq49, -, Hq49, -⟩ := id f31
  obtain ⟨T50, X50, e50, st50⟩ := getF X48 hx hZ hown (host := "") (Or.inl (hw _ (List.mem_of_getElem? (i := 21) rfl))) Via.refl e48 f23 (g := (mkF m 55 #[.val (.ref o0), .val (.ref s0), .val (.int (0 : Int32)), .val (.int ra), .val (.double (FP.dsub ca (FP.dmul va cx))), .second, .val (.int (1 : Int32))] [(.ref o0), (.ref s0), (.double vb), (.double (FP.dsub ca (FP.dmul va cx)))])) rfl rfl (hb hby d4_55)
  obtain ⟨cq51, Arq51, -, Sq51, -, Hq51, -⟩ := id f30
  obtain ⟨cq52, Arq52, -, Sq52, -, Hq52, -⟩ := id f33
  obtain ⟨T53, X53, e53, st53⟩ := getF X50 hx hZ hown (host := "") (Or.inl (hw _ (List.mem_of_getElem? (i := 19) rfl))) Via.refl e50 f22 (g := (mkF m 34 #[.val (.ref o0), .val (.ref s0), .val (.int (0 : Int32)), .val (.int ra), .val (.double (FP.dsub (FP.dsub ca (FP.dmul va cx)) (FP.dmul vb cy))), .second, .val (.int (2 : Int32))] [(.ref o0), (.int (2 : Int32))])) rfl rfl (hb hby d4_34)
  obtain ⟨cq54, Arq54, -, Sq54, -, Hq54, -⟩ := id f29
  obtain ⟨T55, X55, e55, st55⟩ := getF X53 hx hZ hown (host := "") (Or.inl (hw _ (List.mem_of_getElem? (i := 17) rfl))) Via.refl e53 f21 (g := (mkF m 77 #[.val (.ref o0), .val (.ref s0), .val (.int (0 : Int32)), .val (.int ra), .val (.double (FP.dsub (FP.dsub ca (FP.dmul va cx)) (FP.dmul vb cy))), .second, .val (.int (2 : Int32))] [(.ref o0), (.double (FP.dsub (FP.dsub ca (FP.dmul va cx)) (FP.dmul vb cy))), (.int ra), (.ref s0)])) rfl rfl (hb hby d4_77)
  obtain ⟨cq56, Arq56, -, Sq56, -, Hq56, -⟩ := id f28
  obtain ⟨cq57, Arq57, qq57, Sq57, Nq57, Hq57, Gq57⟩ := id f33
  obtain ⟨T58, h58, X58, e58, W58, st58⟩ := stD X55 hx hZ e55 Arq57 (j := ra) (inb_of Sq57 hn_ra) (g := (mkF m 83 #[.val (.ref o0), .val (.ref s0), .val (.int (0 : Int32)), .val (.int ra), .val (.double (FP.dsub (FP.dsub ca (FP.dmul va cx)) (FP.dmul vb cy))), .second, .val (.int (2 : Int32))] [(.double qa), (.int ra), (.ref s0)])) rfl rfl (hb hby d4_83)
  have f59 := f20.other W58 (Or.inl ne_o0_s0)
  have f60 := f21.other W58 (Or.inl ne_o0_s0)
  have f61 := f22.other W58 (Or.inl ne_o0_s0)
  have f62 := f23.other W58 (Or.inl ne_o0_s0)
  have f63 := f24.other W58 (Or.inl ne_o0_s0)
  have f64 := f25.other W58 (Or.inl ne_o0_s0)
  have f65 := f26.wr W58
  have f66 := f27.other W58 ne_fa0_s0
  have f67 := f28.other W58 ne_fa1_s0
  have f68 := f29.other W58 ne_fa2_s0
  have f69 := f30.other W58 ne_fa3_s0
  have f70 := f31.other W58 ne_fa4_s0
  have K58 : Keep h0 h58 [s0] := K19.wr W58 (Or.inl (List.mem_of_getElem? (i := 0) rfl))
  have Zs58 := Nat.le_trans Zs19 (Keep.of_wr W58).1
  have N58 := Fr.snoc X58 N19 g_s0
  have f71 : Arv Z h58 s0 ks .double (3 : Int32) ([(.double z0), (.double z1), (.double z2)].set ra.toNatClampNeg (.double qa)) (.double (0 : UInt64)) := Arv.set Arq57 qq57 Sq57 Nq57 Hq57 Gq57 rfl W58 ra.toNatClampNeg rfl hl_ra
  have f72 := own_arvL (vs1 := [(.double y0), (.double y1), (.double y2)]) (hy : (([(.double z0), (.double z1), (.double z2)].set ra.toNatClampNeg (.double qa)) : List Value) = [(.double y0), (.double y1), (.double y2)]) f71
  obtain ⟨fs, hr, hrun, hended, hW, hsame⟩ := X58.leave (v := none) (fun _ => rfl)
  refine ⟨_, _, pre0 _ ?_, hrun, hended, _, _, rfl, ?_, ⟨_, rfl⟩, hW, hsame.mono (by decide) (by decide)⟩
  · show Steps p.tables e below (s₁.setTop (mkF m 0 #[.val (.ref o0), .val (.ref s0), .unset, .unset, .unset, .unset, .unset] [])) _
    refine XS.aloadN X0.here hx rfl (hb hby d4_0) rfl rfl ?_
    refine st1 _ ?_
    show Steps p.tables e below (T1.setTop (mkF m 4 #[.val (.ref o0), .val (.ref s0), .unset, .unset, .unset, .unset, .unset] [(.int (2 : Int32))])) _
    refine XS.iconst X1.here hx rfl (hb hby d4_4) ?_
    refine XS.isub X1.here hx rfl (hb hby d4_5) rfl ?_
    show Steps p.tables e below (T1.setTop (mkF m 6 #[.val (.ref o0), .val (.ref s0), .unset, .unset, .unset, .unset, .unset] [(.int ((2 : Int32) - (1 : Int32)))])) _
    rw [show ((2 : Int32) - (1 : Int32)) = (1 : Int32) by decide]
    show Steps p.tables e below (T1.setTop (mkF m 6 #[.val (.ref o0), .val (.ref s0), .unset, .unset, .unset, .unset, .unset] [(.int (1 : Int32))])) _
    refine XS.istoreN X1.here hx rfl (hb hby d4_6) rfl (l' := #[.val (.ref o0), .val (.ref s0), .val (.int (1 : Int32)), .unset, .unset, .unset, .unset]) rfl ?_
    refine XS.iloadN X1.here hx rfl (hb hby d4_7) rfl ?_
    refine XS.ifNo X1.here hx rfl (hb hby d4_8) rfl ((if0 _ _).trans (flt (by decide : ¬ ((1 : Int32) < (0 : Int32)))).1) ?_
    refine XS.aloadN X1.here hx rfl (hb hby d4_11) rfl rfl ?_
    refine st2 _ ?_
    show Steps p.tables e below (T2.setTop (mkF m 15 #[.val (.ref o0), .val (.ref s0), .val (.int (1 : Int32)), .unset, .unset, .unset, .unset] [(.ref fa0)])) _
    refine XS.iloadN X2.here hx rfl (hb hby d4_15) rfl ?_
    show Steps p.tables e below (T2.setTop (mkF m 16 #[.val (.ref o0), .val (.ref s0), .val (.int (1 : Int32)), .unset, .unset, .unset, .unset] [(.int (1 : Int32)), (.ref fa0)])) _
    refine X2.iaload hx (j := (1 : Int32)) (v := (.int rb)) (by rw [e2]; exact Arq3.1) (State.isArrayOf_alike hZ.alike Arq3.2.1) Arq3.2.2 (inb_of Sq3 ⟨by decide, by decide⟩) (Has.at Hq3 (inb_of Sq3 ⟨by decide, by decide⟩) rfl) (g := (mkF m 16 #[.val (.ref o0), .val (.ref s0), .val (.int (1 : Int32)), .unset, .unset, .unset, .unset] [(.int (1 : Int32)), (.ref fa0)])) rfl rfl (hb hby d4_16) _ ?_
    show Steps p.tables e below (T2.setTop (mkF m 17 #[.val (.ref o0), .val (.ref s0), .val (.int (1 : Int32)), .unset, .unset, .unset, .unset] [(.int rb)])) _
    refine XS.istoreN X2.here hx rfl (hb hby d4_17) rfl (l' := #[.val (.ref o0), .val (.ref s0), .val (.int (1 : Int32)), .val (.int rb), .unset, .unset, .unset]) rfl ?_
    refine XS.aloadN X2.here hx rfl (hb hby d4_18) rfl rfl ?_
    refine XS.iloadN X2.here hx rfl (hb hby d4_19) rfl ?_
    refine X2.daload hx (j := rb) (v := (.double cb)) (by rw [e2]; exact Arq4.1) (State.isArrayOf_alike hZ.alike Arq4.2.1) Arq4.2.2 (inb_of Sq4 hn_rb) (Has.at Hq4 (inb_of Sq4 hn_rb) hcb) (g := (mkF m 20 #[.val (.ref o0), .val (.ref s0), .val (.int (1 : Int32)), .val (.int rb), .unset, .unset, .unset] [(.int rb), (.ref s0)])) rfl rfl (hb hby d4_20) _ ?_
    show Steps p.tables e below (T2.setTop (mkF m 21 #[.val (.ref o0), .val (.ref s0), .val (.int (1 : Int32)), .val (.int rb), .unset, .unset, .unset] [(.double cb)])) _
    refine XS.dstore X2.here hx rfl (hb hby d4_21) rfl (l' := #[.val (.ref o0), .val (.ref s0), .val (.int (1 : Int32)), .val (.int rb), .val (.double cb), .second, .unset]) rfl ?_
    show Steps p.tables e below (T2.setTop (mkF m 23 #[.val (.ref o0), .val (.ref s0), .val (.int (1 : Int32)), .val (.int rb), .val (.double cb), .second, .unset] [])) _
    refine XS.aloadN X2.here hx rfl (hb hby d4_23) rfl rfl ?_
    refine st5 _ ?_
    show Steps p.tables e below (T5.setTop (mkF m 27 #[.val (.ref o0), .val (.ref s0), .val (.int (1 : Int32)), .val (.int rb), .val (.double cb), .second, .unset] [(.ref fa2)])) _
    refine XS.iloadN X5.here hx rfl (hb hby d4_27) rfl ?_
    refine X5.iaload hx (j := (1 : Int32)) (v := (.int (2 : Int32))) (by rw [e5]; exact Arq6.1) (State.isArrayOf_alike hZ.alike Arq6.2.1) Arq6.2.2 (inb_of Sq6 ⟨by decide, by decide⟩) (Has.at Hq6 (inb_of Sq6 ⟨by decide, by decide⟩) rfl) (g := (mkF m 28 #[.val (.ref o0), .val (.ref s0), .val (.int (1 : Int32)), .val (.int rb), .val (.double cb), .second, .unset] [(.int (1 : Int32)), (.ref fa2)])) rfl rfl (hb hby d4_28) _ ?_
    show Steps p.tables e below (T5.setTop (mkF m 29 #[.val (.ref o0), .val (.ref s0), .val (.int (1 : Int32)), .val (.int rb), .val (.double cb), .second, .unset] [(.int (2 : Int32))])) _
    refine XS.istore X5.here hx rfl (hb hby d4_29) rfl (l' := #[.val (.ref o0), .val (.ref s0), .val (.int (1 : Int32)), .val (.int rb), .val (.double cb), .second, .val (.int (2 : Int32))]) rfl ?_
    refine XS.iload X5.here hx rfl (hb hby d4_31) rfl ?_
    show Steps p.tables e below (T5.setTop (mkF m 33 #[.val (.ref o0), .val (.ref s0), .val (.int (1 : Int32)), .val (.int rb), .val (.double cb), .second, .val (.int (2 : Int32))] [(.int (2 : Int32))])) _
    refine XS.aloadN X5.here hx rfl (hb hby d4_33) rfl rfl ?_
    refine st7 _ ?_
    show Steps p.tables e below (T7.setTop (mkF m 37 #[.val (.ref o0), .val (.ref s0), .val (.int (1 : Int32)), .val (.int rb), .val (.double cb), .second, .val (.int (2 : Int32))] [(.ref fa2), (.int (2 : Int32))])) _
    refine XS.iloadN X7.here hx rfl (hb hby d4_37) rfl ?_
    refine XS.iconst X7.here hx rfl (hb hby d4_38) ?_
    refine XS.iadd X7.here hx rfl (hb hby d4_39) rfl ?_
    show Steps p.tables e below (T7.setTop (mkF m 40 #[.val (.ref o0), .val (.ref s0), .val (.int (1 : Int32)), .val (.int rb), .val (.double cb), .second, .val (.int (2 : Int32))] [(.int ((1 : Int32) + (1 : Int32))), (.ref fa2), (.int (2 : Int32))])) _
    rw [show ((1 : Int32) + (1 : Int32)) = (2 : Int32) by decide]
    show Steps p.tables e below (T7.setTop (mkF m 40 #[.val (.ref o0), .val (.ref s0), .val (.int (1 : Int32)), .val (.int rb), .val (.double cb), .second, .val (.int (2 : Int32))] [(.int (2 : Int32)), (.ref fa2), (.int (2 : Int32))])) _
    refine X7.iaload hx (j := (2 : Int32)) (v := (.int (3 : Int32))) (by rw [e7]; exact Arq8.1) (State.isArrayOf_alike hZ.alike Arq8.2.1) Arq8.2.2 (inb_of Sq8 ⟨by decide, by decide⟩) (Has.at Hq8 (inb_of Sq8 ⟨by decide, by decide⟩) rfl) (g := (mkF m 40 #[.val (.ref o0), .val (.ref s0), .val (.int (1 : Int32)), .val (.int rb), .val (.double cb), .second, .val (.int (2 : Int32))] [(.int (2 : Int32)), (.ref fa2), (.int (2 : Int32))])) rfl rfl (hb hby d4_40) _ ?_
    show Steps p.tables e below (T7.setTop (mkF m 41 #[.val (.ref o0), .val (.ref s0), .val (.int (1 : Int32)), .val (.int rb), .val (.double cb), .second, .val (.int (2 : Int32))] [(.int (3 : Int32)), (.int (2 : Int32))])) _
    refine XS.icmpNo X7.here hx rfl (hb hby d4_41) rfl (tlt (by decide : (2 : Int32) < (3 : Int32))).2.1 ?_
    refine XS.dload X7.here hx rfl (hb hby d4_44) rfl ?_
    refine XS.aloadN X7.here hx rfl (hb hby d4_46) rfl rfl ?_
    refine st9 _ ?_
    show Steps p.tables e below (T9.setTop (mkF m 50 #[.val (.ref o0), .val (.ref s0), .val (.int (1 : Int32)), .val (.int rb), .val (.double cb), .second, .val (.int (2 : Int32))] [(.ref fa4), (.double cb)])) _
    refine XS.iload X9.here hx rfl (hb hby d4_50) rfl ?_
    show Steps p.tables e below (T9.setTop (mkF m 52 #[.val (.ref o0), .val (.ref s0), .val (.int (1 : Int32)), .val (.int rb), .val (.double cb), .second, .val (.int (2 : Int32))] [(.int (2 : Int32)), (.ref fa4), (.double cb)])) _
    refine X9.daload hx (j := (2 : Int32)) (v := (.double w1)) (by rw [e9]; exact Arq10.1) (State.isArrayOf_alike hZ.alike Arq10.2.1) Arq10.2.2 (inb_of Sq10 ⟨by decide, by decide⟩) (Has.at Hq10 (inb_of Sq10 ⟨by decide, by decide⟩) rfl) (g := (mkF m 52 #[.val (.ref o0), .val (.ref s0), .val (.int (1 : Int32)), .val (.int rb), .val (.double cb), .second, .val (.int (2 : Int32))] [(.int (2 : Int32)), (.ref fa4), (.double cb)])) rfl rfl (hb hby d4_52) _ ?_
    show Steps p.tables e below (T9.setTop (mkF m 53 #[.val (.ref o0), .val (.ref s0), .val (.int (1 : Int32)), .val (.int rb), .val (.double cb), .second, .val (.int (2 : Int32))] [(.double w1), (.double cb)])) _
    refine XS.aloadN X9.here hx rfl (hb hby d4_53) rfl rfl ?_
    refine XS.aloadN X9.here hx rfl (hb hby d4_54) rfl rfl ?_
    refine st11 _ ?_
    show Steps p.tables e below (T11.setTop (mkF m 58 #[.val (.ref o0), .val (.ref s0), .val (.int (1 : Int32)), .val (.int rb), .val (.double cb), .second, .val (.int (2 : Int32))] [(.ref fa3), (.ref s0), (.double w1), (.double cb)])) _
    refine XS.iload X11.here hx rfl (hb hby d4_58) rfl ?_
    refine X11.iaload hx (j := (2 : Int32)) (v := (.int rc)) (by rw [e11]; exact Arq12.1) (State.isArrayOf_alike hZ.alike Arq12.2.1) Arq12.2.2 (inb_of Sq12 ⟨by decide, by decide⟩) (Has.at Hq12 (inb_of Sq12 ⟨by decide, by decide⟩) rfl) (g := (mkF m 60 #[.val (.ref o0), .val (.ref s0), .val (.int (1 : Int32)), .val (.int rb), .val (.double cb), .second, .val (.int (2 : Int32))] [(.int (2 : Int32)), (.ref fa3), (.ref s0), (.double w1), (.double cb)])) rfl rfl (hb hby d4_60) _ ?_
    show Steps p.tables e below (T11.setTop (mkF m 61 #[.val (.ref o0), .val (.ref s0), .val (.int (1 : Int32)), .val (.int rb), .val (.double cb), .second, .val (.int (2 : Int32))] [(.int rc), (.ref s0), (.double w1), (.double cb)])) _
    refine X11.daload hx (j := rc) (v := (.double cc)) (by rw [e11]; exact Arq13.1) (State.isArrayOf_alike hZ.alike Arq13.2.1) Arq13.2.2 (inb_of Sq13 hn_rc) (Has.at Hq13 (inb_of Sq13 hn_rc) hcc) (g := (mkF m 61 #[.val (.ref o0), .val (.ref s0), .val (.int (1 : Int32)), .val (.int rb), .val (.double cb), .second, .val (.int (2 : Int32))] [(.int rc), (.ref s0), (.double w1), (.double cb)])) rfl rfl (hb hby d4_61) _ ?_
    show Steps p.tables e below (T11.setTop (mkF m 62 #[.val (.ref o0), .val (.ref s0), .val (.int (1 : Int32)), .val (.int rb), .val (.double cb), .second, .val (.int (2 : Int32))] [(.double cc), (.double w1), (.double cb)])) _
    refine XS.dmulS X11.here hx rfl (hb hby d4_62) rfl nn62 (v := (FP.dmul w1 cc)) rfl ?_
    refine XS.dsubS X11.here hx rfl (hb hby d4_63) rfl nn63 (v := (FP.dsub cb (FP.dmul w1 cc))) rfl ?_
    refine XS.dstore X11.here hx rfl (hb hby d4_64) rfl (l' := #[.val (.ref o0), .val (.ref s0), .val (.int (1 : Int32)), .val (.int rb), .val (.double (FP.dsub cb (FP.dmul w1 cc))), .second, .val (.int (2 : Int32))]) rfl ?_
    refine XS.iinc X11.here hx rfl (hb hby d4_66) rfl (l' := #[.val (.ref o0), .val (.ref s0), .val (.int (1 : Int32)), .val (.int rb), .val (.double (FP.dsub cb (FP.dmul w1 cc))), .second, .val (.int ((2 : Int32) + (1 : Int32)))]) rfl ?_
    show Steps p.tables e below (T11.setTop (mkF m 69 #[.val (.ref o0), .val (.ref s0), .val (.int (1 : Int32)), .val (.int rb), .val (.double (FP.dsub cb (FP.dmul w1 cc))), .second, .val (.int ((2 : Int32) + (1 : Int32)))] [])) _
    rw [show ((2 : Int32) + (1 : Int32)) = (3 : Int32) by decide]
    show Steps p.tables e below (T11.setTop (mkF m 69 #[.val (.ref o0), .val (.ref s0), .val (.int (1 : Int32)), .val (.int rb), .val (.double (FP.dsub cb (FP.dmul w1 cc))), .second, .val (.int (3 : Int32))] [])) _
    refine XS.goto X11.here hx rfl (pc0 := 69) (pc' := 31) rfl (hb hby d4_69) (by decide) (by decide) ?_
    refine XS.iload X11.here hx rfl (hb hby d4_31) rfl ?_
    refine XS.aloadN X11.here hx rfl (hb hby d4_33) rfl rfl ?_
    refine st14 _ ?_
    show Steps p.tables e below (T14.setTop (mkF m 37 #[.val (.ref o0), .val (.ref s0), .val (.int (1 : Int32)), .val (.int rb), .val (.double (FP.dsub cb (FP.dmul w1 cc))), .second, .val (.int (3 : Int32))] [(.ref fa2), (.int (3 : Int32))])) _
    refine XS.iloadN X14.here hx rfl (hb hby d4_37) rfl ?_
    refine XS.iconst X14.here hx rfl (hb hby d4_38) ?_
    show Steps p.tables e below (T14.setTop (mkF m 39 #[.val (.ref o0), .val (.ref s0), .val (.int (1 : Int32)), .val (.int rb), .val (.double (FP.dsub cb (FP.dmul w1 cc))), .second, .val (.int (3 : Int32))] [(.int (1 : Int32)), (.int (1 : Int32)), (.ref fa2), (.int (3 : Int32))])) _
    refine XS.iadd X14.here hx rfl (hb hby d4_39) rfl ?_
    show Steps p.tables e below (T14.setTop (mkF m 40 #[.val (.ref o0), .val (.ref s0), .val (.int (1 : Int32)), .val (.int rb), .val (.double (FP.dsub cb (FP.dmul w1 cc))), .second, .val (.int (3 : Int32))] [(.int ((1 : Int32) + (1 : Int32))), (.ref fa2), (.int (3 : Int32))])) _
    rw [show ((1 : Int32) + (1 : Int32)) = (2 : Int32) by decide]
    show Steps p.tables e below (T14.setTop (mkF m 40 #[.val (.ref o0), .val (.ref s0), .val (.int (1 : Int32)), .val (.int rb), .val (.double (FP.dsub cb (FP.dmul w1 cc))), .second, .val (.int (3 : Int32))] [(.int (2 : Int32)), (.ref fa2), (.int (3 : Int32))])) _
    refine X14.iaload hx (j := (2 : Int32)) (v := (.int (3 : Int32))) (by rw [e14]; exact Arq15.1) (State.isArrayOf_alike hZ.alike Arq15.2.1) Arq15.2.2 (inb_of Sq15 ⟨by decide, by decide⟩) (Has.at Hq15 (inb_of Sq15 ⟨by decide, by decide⟩) rfl) (g := (mkF m 40 #[.val (.ref o0), .val (.ref s0), .val (.int (1 : Int32)), .val (.int rb), .val (.double (FP.dsub cb (FP.dmul w1 cc))), .second, .val (.int (3 : Int32))] [(.int (2 : Int32)), (.ref fa2), (.int (3 : Int32))])) rfl rfl (hb hby d4_40) _ ?_
    show Steps p.tables e below (T14.setTop (mkF m 41 #[.val (.ref o0), .val (.ref s0), .val (.int (1 : Int32)), .val (.int rb), .val (.double (FP.dsub cb (FP.dmul w1 cc))), .second, .val (.int (3 : Int32))] [(.int (3 : Int32)), (.int (3 : Int32))])) _
    refine XS.icmpYes X14.here hx rfl (pc0 := 41) (pc' := 72) rfl (hb hby d4_41) rfl (flt (by decide : ¬ ((3 : Int32) < (3 : Int32)))).2.1 (by decide) (by decide) ?_
    refine XS.aloadN X14.here hx rfl (hb hby d4_72) rfl rfl ?_
    refine XS.iloadN X14.here hx rfl (hb hby d4_73) rfl ?_
    show Steps p.tables e below (T14.setTop (mkF m 74 #[.val (.ref o0), .val (.ref s0), .val (.int (1 : Int32)), .val (.int rb), .val (.double (FP.dsub cb (FP.dmul w1 cc))), .second, .val (.int (3 : Int32))] [(.int rb), (.ref s0)])) _
    refine XS.dload X14.here hx rfl (hb hby d4_74) rfl ?_
    refine XS.aloadN X14.here hx rfl (hb hby d4_76) rfl rfl ?_
    refine st16 _ ?_
    show Steps p.tables e below (T16.setTop (mkF m 80 #[.val (.ref o0), .val (.ref s0), .val (.int (1 : Int32)), .val (.int rb), .val (.double (FP.dsub cb (FP.dmul w1 cc))), .second, .val (.int (3 : Int32))] [(.ref fa1), (.double (FP.dsub cb (FP.dmul w1 cc))), (.int rb), (.ref s0)])) _
    refine XS.iloadN X16.here hx rfl (hb hby d4_80) rfl ?_
    refine X16.daload hx (j := (1 : Int32)) (v := (.double w0)) (by rw [e16]; exact Arq17.1) (State.isArrayOf_alike hZ.alike Arq17.2.1) Arq17.2.2 (inb_of Sq17 ⟨by decide, by decide⟩) (Has.at Hq17 (inb_of Sq17 ⟨by decide, by decide⟩) rfl) (g := (mkF m 81 #[.val (.ref o0), .val (.ref s0), .val (.int (1 : Int32)), .val (.int rb), .val (.double (FP.dsub cb (FP.dmul w1 cc))), .second, .val (.int (3 : Int32))] [(.int (1 : Int32)), (.ref fa1), (.double (FP.dsub cb (FP.dmul w1 cc))), (.int rb), (.ref s0)])) rfl rfl (hb hby d4_81) _ ?_
    show Steps p.tables e below (T16.setTop (mkF m 82 #[.val (.ref o0), .val (.ref s0), .val (.int (1 : Int32)), .val (.int rb), .val (.double (FP.dsub cb (FP.dmul w1 cc))), .second, .val (.int (3 : Int32))] [(.double w0), (.double (FP.dsub cb (FP.dmul w1 cc))), (.int rb), (.ref s0)])) _
    refine XS.ddivS X16.here hx rfl (hb hby d4_82) rfl nn82 (v := qb) hq82 ?_
    show Steps p.tables e below (T16.setTop (mkF m 83 #[.val (.ref o0), .val (.ref s0), .val (.int (1 : Int32)), .val (.int rb), .val (.double (FP.dsub cb (FP.dmul w1 cc))), .second, .val (.int (3 : Int32))] [(.double qb), (.int rb), (.ref s0)])) _
    refine st19 _ ?_
    show Steps p.tables e below (T19.setTop (mkF m 84 #[.val (.ref o0), .val (.ref s0), .val (.int (1 : Int32)), .val (.int rb), .val (.double (FP.dsub cb (FP.dmul w1 cc))), .second, .val (.int (3 : Int32))] [])) _
    refine XS.iinc X19.here hx rfl (hb hby d4_84) rfl (l' := #[.val (.ref o0), .val (.ref s0), .val (.int ((1 : Int32) + (-1 : Int32))), .val (.int rb), .val (.double (FP.dsub cb (FP.dmul w1 cc))), .second, .val (.int (3 : Int32))]) rfl ?_
    show Steps p.tables e below (T19.setTop (mkF m 87 #[.val (.ref o0), .val (.ref s0), .val (.int ((1 : Int32) + (-1 : Int32))), .val (.int rb), .val (.double (FP.dsub cb (FP.dmul w1 cc))), .second, .val (.int (3 : Int32))] [])) _
    rw [show ((1 : Int32) + (-1 : Int32)) = (0 : Int32) by decide]
    show Steps p.tables e below (T19.setTop (mkF m 87 #[.val (.ref o0), .val (.ref s0), .val (.int (0 : Int32)), .val (.int rb), .val (.double (FP.dsub cb (FP.dmul w1 cc))), .second, .val (.int (3 : Int32))] [])) _
    refine XS.goto X19.here hx rfl (pc0 := 87) (pc' := 7) rfl (hb hby d4_87) (by decide) (by decide) ?_
    refine XS.iloadN X19.here hx rfl (hb hby d4_7) rfl ?_
    refine XS.ifNo X19.here hx rfl (hb hby d4_8) rfl ((if0 _ _).trans (flt (by decide : ¬ ((0 : Int32) < (0 : Int32)))).1) ?_
    show Steps p.tables e below (T19.setTop (mkF m 11 #[.val (.ref o0), .val (.ref s0), .val (.int (0 : Int32)), .val (.int rb), .val (.double (FP.dsub cb (FP.dmul w1 cc))), .second, .val (.int (3 : Int32))] [])) _
    refine XS.aloadN X19.here hx rfl (hb hby d4_11) rfl rfl ?_
    refine st34 _ ?_
    show Steps p.tables e below (T34.setTop (mkF m 15 #[.val (.ref o0), .val (.ref s0), .val (.int (0 : Int32)), .val (.int rb), .val (.double (FP.dsub cb (FP.dmul w1 cc))), .second, .val (.int (3 : Int32))] [(.ref fa0)])) _
    refine XS.iloadN X34.here hx rfl (hb hby d4_15) rfl ?_
    refine X34.iaload hx (j := (0 : Int32)) (v := (.int ra)) (by rw [e34]; exact Arq35.1) (State.isArrayOf_alike hZ.alike Arq35.2.1) Arq35.2.2 (inb_of Sq35 ⟨by decide, by decide⟩) (Has.at Hq35 (inb_of Sq35 ⟨by decide, by decide⟩) rfl) (g := (mkF m 16 #[.val (.ref o0), .val (.ref s0), .val (.int (0 : Int32)), .val (.int rb), .val (.double (FP.dsub cb (FP.dmul w1 cc))), .second, .val (.int (3 : Int32))] [(.int (0 : Int32)), (.ref fa0)])) rfl rfl (hb hby d4_16) _ ?_
    show Steps p.tables e below (T34.setTop (mkF m 17 #[.val (.ref o0), .val (.ref s0), .val (.int (0 : Int32)), .val (.int rb), .val (.double (FP.dsub cb (FP.dmul w1 cc))), .second, .val (.int (3 : Int32))] [(.int ra)])) _
    refine XS.istoreN X34.here hx rfl (hb hby d4_17) rfl (l' := #[.val (.ref o0), .val (.ref s0), .val (.int (0 : Int32)), .val (.int ra), .val (.double (FP.dsub cb (FP.dmul w1 cc))), .second, .val (.int (3 : Int32))]) rfl ?_
    refine XS.aloadN X34.here hx rfl (hb hby d4_18) rfl rfl ?_
    show Steps p.tables e below (T34.setTop (mkF m 19 #[.val (.ref o0), .val (.ref s0), .val (.int (0 : Int32)), .val (.int ra), .val (.double (FP.dsub cb (FP.dmul w1 cc))), .second, .val (.int (3 : Int32))] [(.ref s0)])) _
    refine XS.iloadN X34.here hx rfl (hb hby d4_19) rfl ?_
    refine X34.daload hx (j := ra) (v := (.double ca)) (by rw [e34]; exact Arq36.1) (State.isArrayOf_alike hZ.alike Arq36.2.1) Arq36.2.2 (inb_of Sq36 hn_ra) (Has.at Hq36 (inb_of Sq36 hn_ra) hca) (g := (mkF m 20 #[.val (.ref o0), .val (.ref s0), .val (.int (0 : Int32)), .val (.int ra), .val (.double (FP.dsub cb (FP.dmul w1 cc))), .second, .val (.int (3 : Int32))] [(.int ra), (.ref s0)])) rfl rfl (hb hby d4_20) _ ?_
    show Steps p.tables e below (T34.setTop (mkF m 21 #[.val (.ref o0), .val (.ref s0), .val (.int (0 : Int32)), .val (.int ra), .val (.double (FP.dsub cb (FP.dmul w1 cc))), .second, .val (.int (3 : Int32))] [(.double ca)])) _
    refine XS.dstore X34.here hx rfl (hb hby d4_21) rfl (l' := #[.val (.ref o0), .val (.ref s0), .val (.int (0 : Int32)), .val (.int ra), .val (.double ca), .second, .val (.int (3 : Int32))]) rfl ?_
    refine XS.aloadN X34.here hx rfl (hb hby d4_23) rfl rfl ?_
    refine st37 _ ?_
    show Steps p.tables e below (T37.setTop (mkF m 27 #[.val (.ref o0), .val (.ref s0), .val (.int (0 : Int32)), .val (.int ra), .val (.double ca), .second, .val (.int (3 : Int32))] [(.ref fa2)])) _
    refine XS.iloadN X37.here hx rfl (hb hby d4_27) rfl ?_
    show Steps p.tables e below (T37.setTop (mkF m 28 #[.val (.ref o0), .val (.ref s0), .val (.int (0 : Int32)), .val (.int ra), .val (.double ca), .second, .val (.int (3 : Int32))] [(.int (0 : Int32)), (.ref fa2)])) _
    refine X37.iaload hx (j := (0 : Int32)) (v := (.int (0 : Int32))) (by rw [e37]; exact Arq38.1) (State.isArrayOf_alike hZ.alike Arq38.2.1) Arq38.2.2 (inb_of Sq38 ⟨by decide, by decide⟩) (Has.at Hq38 (inb_of Sq38 ⟨by decide, by decide⟩) rfl) (g := (mkF m 28 #[.val (.ref o0), .val (.ref s0), .val (.int (0 : Int32)), .val (.int ra), .val (.double ca), .second, .val (.int (3 : Int32))] [(.int (0 : Int32)), (.ref fa2)])) rfl rfl (hb hby d4_28) _ ?_
    show Steps p.tables e below (T37.setTop (mkF m 29 #[.val (.ref o0), .val (.ref s0), .val (.int (0 : Int32)), .val (.int ra), .val (.double ca), .second, .val (.int (3 : Int32))] [(.int (0 : Int32))])) _
    refine XS.istore X37.here hx rfl (hb hby d4_29) rfl (l' := #[.val (.ref o0), .val (.ref s0), .val (.int (0 : Int32)), .val (.int ra), .val (.double ca), .second, .val (.int (0 : Int32))]) rfl ?_
    refine XS.iload X37.here hx rfl (hb hby d4_31) rfl ?_
    refine XS.aloadN X37.here hx rfl (hb hby d4_33) rfl rfl ?_
    refine st39 _ ?_
    show Steps p.tables e below (T39.setTop (mkF m 37 #[.val (.ref o0), .val (.ref s0), .val (.int (0 : Int32)), .val (.int ra), .val (.double ca), .second, .val (.int (0 : Int32))] [(.ref fa2), (.int (0 : Int32))])) _
    refine XS.iloadN X39.here hx rfl (hb hby d4_37) rfl ?_
    show Steps p.tables e below (T39.setTop (mkF m 38 #[.val (.ref o0), .val (.ref s0), .val (.int (0 : Int32)), .val (.int ra), .val (.double ca), .second, .val (.int (0 : Int32))] [(.int (0 : Int32)), (.ref fa2), (.int (0 : Int32))])) _
    refine XS.iconst X39.here hx rfl (hb hby d4_38) ?_
    refine XS.iadd X39.here hx rfl (hb hby d4_39) rfl ?_
    show Steps p.tables e below (T39.setTop (mkF m 40 #[.val (.ref o0), .val (.ref s0), .val (.int (0 : Int32)), .val (.int ra), .val (.double ca), .second, .val (.int (0 : Int32))] [(.int ((0 : Int32) + (1 : Int32))), (.ref fa2), (.int (0 : Int32))])) _
    rw [show ((0 : Int32) + (1 : Int32)) = (1 : Int32) by decide]
    show Steps p.tables e below (T39.setTop (mkF m 40 #[.val (.ref o0), .val (.ref s0), .val (.int (0 : Int32)), .val (.int ra), .val (.double ca), .second, .val (.int (0 : Int32))] [(.int (1 : Int32)), (.ref fa2), (.int (0 : Int32))])) _
    refine X39.iaload hx (j := (1 : Int32)) (v := (.int (2 : Int32))) (by rw [e39]; exact Arq40.1) (State.isArrayOf_alike hZ.alike Arq40.2.1) Arq40.2.2 (inb_of Sq40 ⟨by decide, by decide⟩) (Has.at Hq40 (inb_of Sq40 ⟨by decide, by decide⟩) rfl) (g := (mkF m 40 #[.val (.ref o0), .val (.ref s0), .val (.int (0 : Int32)), .val (.int ra), .val (.double ca), .second, .val (.int (0 : Int32))] [(.int (1 : Int32)), (.ref fa2), (.int (0 : Int32))])) rfl rfl (hb hby d4_40) _ ?_
    show Steps p.tables e below (T39.setTop (mkF m 41 #[.val (.ref o0), .val (.ref s0), .val (.int (0 : Int32)), .val (.int ra), .val (.double ca), .second, .val (.int (0 : Int32))] [(.int (2 : Int32)), (.int (0 : Int32))])) _
    refine XS.icmpNo X39.here hx rfl (hb hby d4_41) rfl (tlt (by decide : (0 : Int32) < (2 : Int32))).2.1 ?_
    refine XS.dload X39.here hx rfl (hb hby d4_44) rfl ?_
    show Steps p.tables e below (T39.setTop (mkF m 46 #[.val (.ref o0), .val (.ref s0), .val (.int (0 : Int32)), .val (.int ra), .val (.double ca), .second, .val (.int (0 : Int32))] [(.double ca)])) _
    refine XS.aloadN X39.here hx rfl (hb hby d4_46) rfl rfl ?_
    refine st41 _ ?_
    show Steps p.tables e below (T41.setTop (mkF m 50 #[.val (.ref o0), .val (.ref s0), .val (.int (0 : Int32)), .val (.int ra), .val (.double ca), .second, .val (.int (0 : Int32))] [(.ref fa4), (.double ca)])) _
    refine XS.iload X41.here hx rfl (hb hby d4_50) rfl ?_
    refine X41.daload hx (j := (0 : Int32)) (v := (.double va)) (by rw [e41]; exact Arq42.1) (State.isArrayOf_alike hZ.alike Arq42.2.1) Arq42.2.2 (inb_of Sq42 ⟨by decide, by decide⟩) (Has.at Hq42 (inb_of Sq42 ⟨by decide, by decide⟩) rfl) (g := (mkF m 52 #[.val (.ref o0), .val (.ref s0), .val (.int (0 : Int32)), .val (.int ra), .val (.double ca), .second, .val (.int (0 : Int32))] [(.int (0 : Int32)), (.ref fa4), (.double ca)])) rfl rfl (hb hby d4_52) _ ?_
    show Steps p.tables e below (T41.setTop (mkF m 53 #[.val (.ref o0), .val (.ref s0), .val (.int (0 : Int32)), .val (.int ra), .val (.double ca), .second, .val (.int (0 : Int32))] [(.double va), (.double ca)])) _
    refine XS.aloadN X41.here hx rfl (hb hby d4_53) rfl rfl ?_
    refine XS.aloadN X41.here hx rfl (hb hby d4_54) rfl rfl ?_
    show Steps p.tables e below (T41.setTop (mkF m 55 #[.val (.ref o0), .val (.ref s0), .val (.int (0 : Int32)), .val (.int ra), .val (.double ca), .second, .val (.int (0 : Int32))] [(.ref o0), (.ref s0), (.double va), (.double ca)])) _
    refine st43 _ ?_
    show Steps p.tables e below (T43.setTop (mkF m 58 #[.val (.ref o0), .val (.ref s0), .val (.int (0 : Int32)), .val (.int ra), .val (.double ca), .second, .val (.int (0 : Int32))] [(.ref fa3), (.ref s0), (.double va), (.double ca)])) _
    refine XS.iload X43.here hx rfl (hb hby d4_58) rfl ?_
    refine X43.iaload hx (j := (0 : Int32)) (v := (.int tx)) (by rw [e43]; exact Arq44.1) (State.isArrayOf_alike hZ.alike Arq44.2.1) Arq44.2.2 (inb_of Sq44 ⟨by decide, by decide⟩) (Has.at Hq44 (inb_of Sq44 ⟨by decide, by decide⟩) rfl) (g := (mkF m 60 #[.val (.ref o0), .val (.ref s0), .val (.int (0 : Int32)), .val (.int ra), .val (.double ca), .second, .val (.int (0 : Int32))] [(.int (0 : Int32)), (.ref fa3), (.ref s0), (.double va), (.double ca)])) rfl rfl (hb hby d4_60) _ ?_
    show Steps p.tables e below (T43.setTop (mkF m 61 #[.val (.ref o0), .val (.ref s0), .val (.int (0 : Int32)), .val (.int ra), .val (.double ca), .second, .val (.int (0 : Int32))] [(.int tx), (.ref s0), (.double va), (.double ca)])) _
    refine X43.daload hx (j := tx) (v := (.double cx)) (by rw [e43]; exact Arq45.1) (State.isArrayOf_alike hZ.alike Arq45.2.1) Arq45.2.2 (inb_of Sq45 hn_tx) (Has.at Hq45 (inb_of Sq45 hn_tx) hcx) (g := (mkF m 61 #[.val (.ref o0), .val (.ref s0), .val (.int (0 : Int32)), .val (.int ra), .val (.double ca), .second, .val (.int (0 : Int32))] [(.int tx), (.ref s0), (.double va), (.double ca)])) rfl rfl (hb hby d4_61) _ ?_
    show Steps p.tables e below (T43.setTop (mkF m 62 #[.val (.ref o0), .val (.ref s0), .val (.int (0 : Int32)), .val (.int ra), .val (.double ca), .second, .val (.int (0 : Int32))] [(.double cx), (.double va), (.double ca)])) _
    refine XS.dmulS X43.here hx rfl (hb hby d4_62) rfl nn62_1 (v := (FP.dmul va cx)) rfl ?_
    refine XS.dsubS X43.here hx rfl (hb hby d4_63) rfl nn63_1 (v := (FP.dsub ca (FP.dmul va cx))) rfl ?_
    show Steps p.tables e below (T43.setTop (mkF m 64 #[.val (.ref o0), .val (.ref s0), .val (.int (0 : Int32)), .val (.int ra), .val (.double ca), .second, .val (.int (0 : Int32))] [(.double (FP.dsub ca (FP.dmul va cx)))])) _
    refine XS.dstore X43.here hx rfl (hb hby d4_64) rfl (l' := #[.val (.ref o0), .val (.ref s0), .val (.int (0 : Int32)), .val (.int ra), .val (.double (FP.dsub ca (FP.dmul va cx))), .second, .val (.int (0 : Int32))]) rfl ?_
    refine XS.iinc X43.here hx rfl (hb hby d4_66) rfl (l' := #[.val (.ref o0), .val (.ref s0), .val (.int (0 : Int32)), .val (.int ra), .val (.double (FP.dsub ca (FP.dmul va cx))), .second, .val (.int ((0 : Int32) + (1 : Int32)))]) rfl ?_
    show Steps p.tables e below (T43.setTop (mkF m 69 #[.val (.ref o0), .val (.ref s0), .val (.int (0 : Int32)), .val (.int ra), .val (.double (FP.dsub ca (FP.dmul va cx))), .second, .val (.int ((0 : Int32) + (1 : Int32)))] [])) _
    rw [show ((0 : Int32) + (1 : Int32)) = (1 : Int32) by decide]
    show Steps p.tables e below (T43.setTop (mkF m 69 #[.val (.ref o0), .val (.ref s0), .val (.int (0 : Int32)), .val (.int ra), .val (.double (FP.dsub ca (FP.dmul va cx))), .second, .val (.int (1 : Int32))] [])) _
    refine XS.goto X43.here hx rfl (pc0 := 69) (pc' := 31) rfl (hb hby d4_69) (by decide) (by decide) ?_
    refine XS.iload X43.here hx rfl (hb hby d4_31) rfl ?_
    refine XS.aloadN X43.here hx rfl (hb hby d4_33) rfl rfl ?_
    show Steps p.tables e below (T43.setTop (mkF m 34 #[.val (.ref o0), .val (.ref s0), .val (.int (0 : Int32)), .val (.int ra), .val (.double (FP.dsub ca (FP.dmul va cx))), .second, .val (.int (1 : Int32))] [(.ref o0), (.int (1 : Int32))])) _
    refine st46 _ ?_
    show Steps p.tables e below (T46.setTop (mkF m 37 #[.val (.ref o0), .val (.ref s0), .val (.int (0 : Int32)), .val (.int ra), .val (.double (FP.dsub ca (FP.dmul va cx))), .second, .val (.int (1 : Int32))] [(.ref fa2), (.int (1 : Int32))])) _
    refine XS.iloadN X46.here hx rfl (hb hby d4_37) rfl ?_
    refine XS.iconst X46.here hx rfl (hb hby d4_38) ?_
    refine XS.iadd X46.here hx rfl (hb hby d4_39) rfl ?_
    show Steps p.tables e below (T46.setTop (mkF m 40 #[.val (.ref o0), .val (.ref s0), .val (.int (0 : Int32)), .val (.int ra), .val (.double (FP.dsub ca (FP.dmul va cx))), .second, .val (.int (1 : Int32))] [(.int ((0 : Int32) + (1 : Int32))), (.ref fa2), (.int (1 : Int32))])) _
    rw [show ((0 : Int32) + (1 : Int32)) = (1 : Int32) by decide]
    show Steps p.tables e below (T46.setTop (mkF m 40 #[.val (.ref o0), .val (.ref s0), .val (.int (0 : Int32)), .val (.int ra), .val (.double (FP.dsub ca (FP.dmul va cx))), .second, .val (.int (1 : Int32))] [(.int (1 : Int32)), (.ref fa2), (.int (1 : Int32))])) _
    refine X46.iaload hx (j := (1 : Int32)) (v := (.int (2 : Int32))) (by rw [e46]; exact Arq47.1) (State.isArrayOf_alike hZ.alike Arq47.2.1) Arq47.2.2 (inb_of Sq47 ⟨by decide, by decide⟩) (Has.at Hq47 (inb_of Sq47 ⟨by decide, by decide⟩) rfl) (g := (mkF m 40 #[.val (.ref o0), .val (.ref s0), .val (.int (0 : Int32)), .val (.int ra), .val (.double (FP.dsub ca (FP.dmul va cx))), .second, .val (.int (1 : Int32))] [(.int (1 : Int32)), (.ref fa2), (.int (1 : Int32))])) rfl rfl (hb hby d4_40) _ ?_
    show Steps p.tables e below (T46.setTop (mkF m 41 #[.val (.ref o0), .val (.ref s0), .val (.int (0 : Int32)), .val (.int ra), .val (.double (FP.dsub ca (FP.dmul va cx))), .second, .val (.int (1 : Int32))] [(.int (2 : Int32)), (.int (1 : Int32))])) _
    refine XS.icmpNo X46.here hx rfl (hb hby d4_41) rfl (tlt (by decide : (1 : Int32) < (2 : Int32))).2.1 ?_
    refine XS.dload X46.here hx rfl (hb hby d4_44) rfl ?_
    refine XS.aloadN X46.here hx rfl (hb hby d4_46) rfl rfl ?_
    refine st48 _ ?_
    show Steps p.tables e below (T48.setTop (mkF m 50 #[.val (.ref o0), .val (.ref s0), .val (.int (0 : Int32)), .val (.int ra), .val (.double (FP.dsub ca (FP.dmul va cx))), .second, .val (.int (1 : Int32))] [(.ref fa4), (.double (FP.dsub ca (FP.dmul va cx)))])) _
    refine XS.iload X48.here hx rfl (hb hby d4_50) rfl ?_
    refine X48.daload hx (j := (1 : Int32)) (v := (.double vb)) (by rw [e48]; exact Arq49.1) (State.isArrayOf_alike hZ.alike Arq49.2.1) Arq49.2.2 (inb_of Sq49 ⟨by decide, by decide⟩) (Has.at Hq49 (inb_of Sq49 ⟨by decide, by decide⟩) rfl) (g := (mkF m 52 #[.val (.ref o0), .val (.ref s0), .val (.int (0 : Int32)), .val (.int ra), .val (.double (FP.dsub ca (FP.dmul va cx))), .second, .val (.int (1 : Int32))] [(.int (1 : Int32)), (.ref fa4), (.double (FP.dsub ca (FP.dmul va cx)))])) rfl rfl (hb hby d4_52) _ ?_
    show Steps p.tables e below (T48.setTop (mkF m 53 #[.val (.ref o0), .val (.ref s0), .val (.int (0 : Int32)), .val (.int ra), .val (.double (FP.dsub ca (FP.dmul va cx))), .second, .val (.int (1 : Int32))] [(.double vb), (.double (FP.dsub ca (FP.dmul va cx)))])) _
    refine XS.aloadN X48.here hx rfl (hb hby d4_53) rfl rfl ?_
    refine XS.aloadN X48.here hx rfl (hb hby d4_54) rfl rfl ?_
    refine st50 _ ?_
    show Steps p.tables e below (T50.setTop (mkF m 58 #[.val (.ref o0), .val (.ref s0), .val (.int (0 : Int32)), .val (.int ra), .val (.double (FP.dsub ca (FP.dmul va cx))), .second, .val (.int (1 : Int32))] [(.ref fa3), (.ref s0), (.double vb), (.double (FP.dsub ca (FP.dmul va cx)))])) _
    refine XS.iload X50.here hx rfl (hb hby d4_58) rfl ?_
    refine X50.iaload hx (j := (1 : Int32)) (v := (.int ty)) (by rw [e50]; exact Arq51.1) (State.isArrayOf_alike hZ.alike Arq51.2.1) Arq51.2.2 (inb_of Sq51 ⟨by decide, by decide⟩) (Has.at Hq51 (inb_of Sq51 ⟨by decide, by decide⟩) rfl) (g := (mkF m 60 #[.val (.ref o0), .val (.ref s0), .val (.int (0 : Int32)), .val (.int ra), .val (.double (FP.dsub ca (FP.dmul va cx))), .second, .val (.int (1 : Int32))] [(.int (1 : Int32)), (.ref fa3), (.ref s0), (.double vb), (.double (FP.dsub ca (FP.dmul va cx)))])) rfl rfl (hb hby d4_60) _ ?_
    show Steps p.tables e below (T50.setTop (mkF m 61 #[.val (.ref o0), .val (.ref s0), .val (.int (0 : Int32)), .val (.int ra), .val (.double (FP.dsub ca (FP.dmul va cx))), .second, .val (.int (1 : Int32))] [(.int ty), (.ref s0), (.double vb), (.double (FP.dsub ca (FP.dmul va cx)))])) _
    refine X50.daload hx (j := ty) (v := (.double cy)) (by rw [e50]; exact Arq52.1) (State.isArrayOf_alike hZ.alike Arq52.2.1) Arq52.2.2 (inb_of Sq52 hn_ty) (Has.at Hq52 (inb_of Sq52 hn_ty) hcy) (g := (mkF m 61 #[.val (.ref o0), .val (.ref s0), .val (.int (0 : Int32)), .val (.int ra), .val (.double (FP.dsub ca (FP.dmul va cx))), .second, .val (.int (1 : Int32))] [(.int ty), (.ref s0), (.double vb), (.double (FP.dsub ca (FP.dmul va cx)))])) rfl rfl (hb hby d4_61) _ ?_
    show Steps p.tables e below (T50.setTop (mkF m 62 #[.val (.ref o0), .val (.ref s0), .val (.int (0 : Int32)), .val (.int ra), .val (.double (FP.dsub ca (FP.dmul va cx))), .second, .val (.int (1 : Int32))] [(.double cy), (.double vb), (.double (FP.dsub ca (FP.dmul va cx)))])) _
    refine XS.dmulS X50.here hx rfl (hb hby d4_62) rfl nn62_2 (v := (FP.dmul vb cy)) rfl ?_
    refine XS.dsubS X50.here hx rfl (hb hby d4_63) rfl nn63_2 (v := (FP.dsub (FP.dsub ca (FP.dmul va cx)) (FP.dmul vb cy))) rfl ?_
    refine XS.dstore X50.here hx rfl (hb hby d4_64) rfl (l' := #[.val (.ref o0), .val (.ref s0), .val (.int (0 : Int32)), .val (.int ra), .val (.double (FP.dsub (FP.dsub ca (FP.dmul va cx)) (FP.dmul vb cy))), .second, .val (.int (1 : Int32))]) rfl ?_
    refine XS.iinc X50.here hx rfl (hb hby d4_66) rfl (l' := #[.val (.ref o0), .val (.ref s0), .val (.int (0 : Int32)), .val (.int ra), .val (.double (FP.dsub (FP.dsub ca (FP.dmul va cx)) (FP.dmul vb cy))), .second, .val (.int ((1 : Int32) + (1 : Int32)))]) rfl ?_
    show Steps p.tables e below (T50.setTop (mkF m 69 #[.val (.ref o0), .val (.ref s0), .val (.int (0 : Int32)), .val (.int ra), .val (.double (FP.dsub (FP.dsub ca (FP.dmul va cx)) (FP.dmul vb cy))), .second, .val (.int ((1 : Int32) + (1 : Int32)))] [])) _
    rw [show ((1 : Int32) + (1 : Int32)) = (2 : Int32) by decide]
    show Steps p.tables e below (T50.setTop (mkF m 69 #[.val (.ref o0), .val (.ref s0), .val (.int (0 : Int32)), .val (.int ra), .val (.double (FP.dsub (FP.dsub ca (FP.dmul va cx)) (FP.dmul vb cy))), .second, .val (.int (2 : Int32))] [])) _
    refine XS.goto X50.here hx rfl (pc0 := 69) (pc' := 31) rfl (hb hby d4_69) (by decide) (by decide) ?_
    show Steps p.tables e below (T50.setTop (mkF m 31 #[.val (.ref o0), .val (.ref s0), .val (.int (0 : Int32)), .val (.int ra), .val (.double (FP.dsub (FP.dsub ca (FP.dmul va cx)) (FP.dmul vb cy))), .second, .val (.int (2 : Int32))] [])) _
    refine XS.iload X50.here hx rfl (hb hby d4_31) rfl ?_
    refine XS.aloadN X50.here hx rfl (hb hby d4_33) rfl rfl ?_
    refine st53 _ ?_
    show Steps p.tables e below (T53.setTop (mkF m 37 #[.val (.ref o0), .val (.ref s0), .val (.int (0 : Int32)), .val (.int ra), .val (.double (FP.dsub (FP.dsub ca (FP.dmul va cx)) (FP.dmul vb cy))), .second, .val (.int (2 : Int32))] [(.ref fa2), (.int (2 : Int32))])) _
    refine XS.iloadN X53.here hx rfl (hb hby d4_37) rfl ?_
    refine XS.iconst X53.here hx rfl (hb hby d4_38) ?_
    refine XS.iadd X53.here hx rfl (hb hby d4_39) rfl ?_
    show Steps p.tables e below (T53.setTop (mkF m 40 #[.val (.ref o0), .val (.ref s0), .val (.int (0 : Int32)), .val (.int ra), .val (.double (FP.dsub (FP.dsub ca (FP.dmul va cx)) (FP.dmul vb cy))), .second, .val (.int (2 : Int32))] [(.int ((0 : Int32) + (1 : Int32))), (.ref fa2), (.int (2 : Int32))])) _
    rw [show ((0 : Int32) + (1 : Int32)) = (1 : Int32) by decide]
    show Steps p.tables e below (T53.setTop (mkF m 40 #[.val (.ref o0), .val (.ref s0), .val (.int (0 : Int32)), .val (.int ra), .val (.double (FP.dsub (FP.dsub ca (FP.dmul va cx)) (FP.dmul vb cy))), .second, .val (.int (2 : Int32))] [(.int (1 : Int32)), (.ref fa2), (.int (2 : Int32))])) _
    refine X53.iaload hx (j := (1 : Int32)) (v := (.int (2 : Int32))) (by rw [e53]; exact Arq54.1) (State.isArrayOf_alike hZ.alike Arq54.2.1) Arq54.2.2 (inb_of Sq54 ⟨by decide, by decide⟩) (Has.at Hq54 (inb_of Sq54 ⟨by decide, by decide⟩) rfl) (g := (mkF m 40 #[.val (.ref o0), .val (.ref s0), .val (.int (0 : Int32)), .val (.int ra), .val (.double (FP.dsub (FP.dsub ca (FP.dmul va cx)) (FP.dmul vb cy))), .second, .val (.int (2 : Int32))] [(.int (1 : Int32)), (.ref fa2), (.int (2 : Int32))])) rfl rfl (hb hby d4_40) _ ?_
    show Steps p.tables e below (T53.setTop (mkF m 41 #[.val (.ref o0), .val (.ref s0), .val (.int (0 : Int32)), .val (.int ra), .val (.double (FP.dsub (FP.dsub ca (FP.dmul va cx)) (FP.dmul vb cy))), .second, .val (.int (2 : Int32))] [(.int (2 : Int32)), (.int (2 : Int32))])) _
    refine XS.icmpYes X53.here hx rfl (pc0 := 41) (pc' := 72) rfl (hb hby d4_41) rfl (flt (by decide : ¬ ((2 : Int32) < (2 : Int32)))).2.1 (by decide) (by decide) ?_
    refine XS.aloadN X53.here hx rfl (hb hby d4_72) rfl rfl ?_
    refine XS.iloadN X53.here hx rfl (hb hby d4_73) rfl ?_
    refine XS.dload X53.here hx rfl (hb hby d4_74) rfl ?_
    show Steps p.tables e below (T53.setTop (mkF m 76 #[.val (.ref o0), .val (.ref s0), .val (.int (0 : Int32)), .val (.int ra), .val (.double (FP.dsub (FP.dsub ca (FP.dmul va cx)) (FP.dmul vb cy))), .second, .val (.int (2 : Int32))] [(.double (FP.dsub (FP.dsub ca (FP.dmul va cx)) (FP.dmul vb cy))), (.int ra), (.ref s0)])) _
    refine XS.aloadN X53.here hx rfl (hb hby d4_76) rfl rfl ?_
    refine st55 _ ?_
    show Steps p.tables e below (T55.setTop (mkF m 80 #[.val (.ref o0), .val (.ref s0), .val (.int (0 : Int32)), .val (.int ra), .val (.double (FP.dsub (FP.dsub ca (FP.dmul va cx)) (FP.dmul vb cy))), .second, .val (.int (2 : Int32))] [(.ref fa1), (.double (FP.dsub (FP.dsub ca (FP.dmul va cx)) (FP.dmul vb cy))), (.int ra), (.ref s0)])) _
    refine XS.iloadN X55.here hx rfl (hb hby d4_80) rfl ?_
    refine X55.daload hx (j := (0 : Int32)) (v := (.double pe1)) (by rw [e55]; exact Arq56.1) (State.isArrayOf_alike hZ.alike Arq56.2.1) Arq56.2.2 (inb_of Sq56 ⟨by decide, by decide⟩) (Has.at Hq56 (inb_of Sq56 ⟨by decide, by decide⟩) rfl) (g := (mkF m 81 #[.val (.ref o0), .val (.ref s0), .val (.int (0 : Int32)), .val (.int ra), .val (.double (FP.dsub (FP.dsub ca (FP.dmul va cx)) (FP.dmul vb cy))), .second, .val (.int (2 : Int32))] [(.int (0 : Int32)), (.ref fa1), (.double (FP.dsub (FP.dsub ca (FP.dmul va cx)) (FP.dmul vb cy))), (.int ra), (.ref s0)])) rfl rfl (hb hby d4_81) _ ?_
    show Steps p.tables e below (T55.setTop (mkF m 82 #[.val (.ref o0), .val (.ref s0), .val (.int (0 : Int32)), .val (.int ra), .val (.double (FP.dsub (FP.dsub ca (FP.dmul va cx)) (FP.dmul vb cy))), .second, .val (.int (2 : Int32))] [(.double pe1), (.double (FP.dsub (FP.dsub ca (FP.dmul va cx)) (FP.dmul vb cy))), (.int ra), (.ref s0)])) _
    refine XS.ddivS X55.here hx rfl (hb hby d4_82) rfl nn82_1 (v := qa) hq82_1 ?_
    refine st58 _ ?_
    show Steps p.tables e below (T58.setTop (mkF m 84 #[.val (.ref o0), .val (.ref s0), .val (.int (0 : Int32)), .val (.int ra), .val (.double (FP.dsub (FP.dsub ca (FP.dmul va cx)) (FP.dmul vb cy))), .second, .val (.int (2 : Int32))] [])) _
    refine XS.iinc X58.here hx rfl (hb hby d4_84) rfl (l' := #[.val (.ref o0), .val (.ref s0), .val (.int ((0 : Int32) + (-1 : Int32))), .val (.int ra), .val (.double (FP.dsub (FP.dsub ca (FP.dmul va cx)) (FP.dmul vb cy))), .second, .val (.int (2 : Int32))]) rfl ?_
    show Steps p.tables e below (T58.setTop (mkF m 87 #[.val (.ref o0), .val (.ref s0), .val (.int ((0 : Int32) + (-1 : Int32))), .val (.int ra), .val (.double (FP.dsub (FP.dsub ca (FP.dmul va cx)) (FP.dmul vb cy))), .second, .val (.int (2 : Int32))] [])) _
    rw [show ((0 : Int32) + (-1 : Int32)) = (-1 : Int32) by decide]
    show Steps p.tables e below (T58.setTop (mkF m 87 #[.val (.ref o0), .val (.ref s0), .val (.int (-1 : Int32)), .val (.int ra), .val (.double (FP.dsub (FP.dsub ca (FP.dmul va cx)) (FP.dmul vb cy))), .second, .val (.int (2 : Int32))] [])) _
    refine XS.goto X58.here hx rfl (pc0 := 87) (pc' := 7) rfl (hb hby d4_87) (by decide) (by decide) ?_
    refine XS.iloadN X58.here hx rfl (hb hby d4_7) rfl ?_
    refine XS.ifYes X58.here hx rfl (pc0 := 8) (pc' := 90) rfl (hb hby d4_8) rfl ((if0 _ _).trans (tlt (by decide : (-1 : Int32) < (0 : Int32))).1) (by decide) (by decide) ?_
    exact X58.returnOut hx Bd.returns (hb hby d4_90) hr
  · show Q_so2 Z o0 fa0 fa1 fa2 fa3 fa4 kfa0 kfa1 kfa2 kfa3 kfa4 ra rb pe1 w0 tx ty rc va vb w1 s0 ks c0 c1 c2 cb ca z0 z1 z2 cc cx cy qb qa y0 y1 y2 h0 n0 _ T58.heap _
    rw [e58]
    exact ⟨rfl, N58, K58, f72⟩
theorem d5_0 : decode method_4_code 0 = .ok (.iload_n 1, 1) := by decide +kernel
theorem d5_1 : decode method_4_code 1 = .ok (.iconst 1, 1) := by decide +kernel
theorem d5_2 : decode method_4_code 2 = .ok (.if_icmp .lt 42, 3) := by decide +kernel
theorem d5_5 : decode method_4_code 5 = .ok (.iload_n 0, 1) := by decide +kernel
theorem d5_6 : decode method_4_code 6 = .ok (.iload_n 2, 1) := by decide +kernel
theorem d5_7 : decode method_4_code 7 = .ok (.if_icmp .ne 37, 3) := by decide +kernel
theorem d5_10 : decode method_4_code 10 = .ok (.aload 5, 2) := by decide +kernel
theorem d5_12 : decode method_4_code 12 = .ok (.iconst 0, 1) := by decide +kernel
theorem d5_13 : decode method_4_code 13 = .ok (.daload, 1) := by decide +kernel
theorem d5_14 : decode method_4_code 14 = .ok (.aload 6, 2) := by decide +kernel
theorem d5_16 : decode method_4_code 16 = .ok (.iconst 0, 1) := by decide +kernel
theorem d5_17 : decode method_4_code 17 = .ok (.daload, 1) := by decide +kernel
theorem d5_18 : decode method_4_code 18 = .ok (.dmul, 1) := by decide +kernel
theorem d5_19 : decode method_4_code 19 = .ok (.aload 5, 2) := by decide +kernel
theorem d5_21 : decode method_4_code 21 = .ok (.iconst 1, 1) := by decide +kernel
theorem d5_22 : decode method_4_code 22 = .ok (.daload, 1) := by decide +kernel
theorem d5_23 : decode method_4_code 23 = .ok (.aload 6, 2) := by decide +kernel
theorem d5_25 : decode method_4_code 25 = .ok (.iconst 1, 1) := by decide +kernel
theorem d5_26 : decode method_4_code 26 = .ok (.daload, 1) := by decide +kernel
theorem d5_27 : decode method_4_code 27 = .ok (.dmul, 1) := by decide +kernel
theorem d5_28 : decode method_4_code 28 = .ok (.dadd, 1) := by decide +kernel
theorem d5_29 : decode method_4_code 29 = .ok (.aload 5, 2) := by decide +kernel
theorem d5_31 : decode method_4_code 31 = .ok (.iconst 2, 1) := by decide +kernel
theorem d5_32 : decode method_4_code 32 = .ok (.daload, 1) := by decide +kernel
theorem d5_33 : decode method_4_code 33 = .ok (.aload 6, 2) := by decide +kernel
theorem d5_35 : decode method_4_code 35 = .ok (.iconst 2, 1) := by decide +kernel
theorem d5_36 : decode method_4_code 36 = .ok (.daload, 1) := by decide +kernel
theorem d5_37 : decode method_4_code 37 = .ok (.dmul, 1) := by decide +kernel
theorem d5_38 : decode method_4_code 38 = .ok (.dadd, 1) := by decide +kernel
theorem d5_39 : decode method_4_code 39 = .ok (.dstore 9, 2) := by decide +kernel
theorem d5_41 : decode method_4_code 41 = .ok (.goto 44, 3) := by decide +kernel
theorem d5_85 : decode method_4_code 85 = .ok (.dload 9, 2) := by decide +kernel
theorem d5_87 : decode method_4_code 87 = .ok (.aload 8, 2) := by decide +kernel
theorem d5_89 : decode method_4_code 89 = .ok (.iload_n 0, 1) := by decide +kernel
theorem d5_90 : decode method_4_code 90 = .ok (.daload, 1) := by decide +kernel
theorem d5_91 : decode method_4_code 91 = .ok (.dcmp .l, 1) := by decide +kernel
theorem d5_92 : decode method_4_code 92 = .ok (.ifCond .ne 7, 3) := by decide +kernel
theorem d5_95 : decode method_4_code 95 = .ok (.iconst 1, 1) := by decide +kernel
theorem d5_96 : decode method_4_code 96 = .ok (.goto 4, 3) := by decide +kernel
theorem d5_100 : decode method_4_code 100 = .ok (.ireturn, 1) := by decide +kernel
theorem ef_5_Il_1___Int32_IIIRRRR (m : MethodId) (x0 : Int32) (x2 : Int32) (x3 : Int32) (x4 : Int32) (x5 : Addr) (x6 : Addr) (x7 : Addr) (x8 : Addr) : entryFrame m #[(.int x0), (.int (1 : Int32)), (.int x2), (.int x3), (.int x4), (.ref x5), (.ref x6), (.ref x7), (.ref x8)] 11 = mkF m 0 #[.val (.int x0), .val (.int (1 : Int32)), .val (.int x2), .val (.int x3), .val (.int x4), .val (.ref x5), .val (.ref x6), .val (.ref x7), .val (.ref x8), .unset, .unset] [] := by first | (simp [entryFrame, mkF, argsToLocals, Value.category]; done) | rfl
def Q_cA1 (Z : State) (jj : Int32) (ra : Int32) (rb : Int32) (rc : Int32) (s0 : Addr) (s1 : Addr) (s2 : Addr) (s3 : Addr) (k0 : ClassId) (k1 : ClassId) (k2 : ClassId) (k3 : ClassId) (y0 : UInt64) (y1 : UInt64) (y2 : UInt64) (v0 : UInt64) (v1 : UInt64) (v2 : UInt64) (c0 : UInt64) (c1 : UInt64) (c2 : UInt64) (w0 : UInt64) (w1 : UInt64) (cj : UInt64) (yj : UInt64) (yb : UInt64) (yc : UInt64) (h0 : Heap) (n0 : Nat) (v : Option Value) (h : Heap) (L : List Loc) : Prop := v = some (.int (1 : Int32)) ∧ Fr n0 L ∧ h = h0
set_option maxRecDepth 65536 in
set_option maxHeartbeats 40000000 in
theorem cA1 (l : Launch) (Z : State) (a0 : Array Value) (hw : ∀ d ∈ tables_1, d.before a0 Z = true) (ws : List Jvm.Cond) (jj : Int32) (ra : Int32) (rb : Int32) (rc : Int32) (s0 : Addr) (s1 : Addr) (s2 : Addr) (s3 : Addr) (k0 : ClassId) (k1 : ClassId) (k2 : ClassId) (k3 : ClassId) (y0 : UInt64) (y1 : UInt64) (y2 : UInt64) (v0 : UInt64) (v1 : UInt64) (v2 : UInt64) (c0 : UInt64) (c1 : UInt64) (c2 : UInt64) (w0 : UInt64) (w1 : UInt64) (cj : UInt64) (yj : UInt64) (yb : UInt64) (yc : UInt64) (h0 : Heap) (n0 : Nat) (Z0 : n0 ≤ h0.size) (V_s0 : Arv Z h0 s0 k0 .double (3 : Int32) [(.double y0), (.double y1), (.double y2)] (.double (0 : UInt64))) (V_s1 : Arv Z h0 s1 k1 .double (3 : Int32) [(.double v0), (.double v1), (.double v2)] (.double (0 : UInt64))) (V_s3 : Arv Z h0 s3 k3 .double (3 : Int32) [(.double c0), (.double c1), (.double c2)] (.double (0 : UInt64))) (V_s2 : Arv Z h0 s2 k2 .double (2 : Int32) [(.double w0), (.double w1)] (.double (0 : UInt64))) (hjj : ¬ jj < 0 ∧ jj < (3 : Int32)) (hcj : ([(.double c0), (.double c1), (.double c2)] : List Value).getD jj.toNatClampNeg (.double (0 : UInt64)) = .double cj) (hc7 : jj = ra) (nn18 : Jvm.Free.Fl.NoNaN64 (FP.dmul y0 v0)) (nn27 : Jvm.Free.Fl.NoNaN64 (FP.dmul y1 v1)) (nn28 : Jvm.Free.Fl.NoNaN64 (FP.dadd (FP.dmul y0 v0) (FP.dmul y1 v1))) (nn37 : Jvm.Free.Fl.NoNaN64 (FP.dmul y2 v2)) (nn38 : Jvm.Free.Fl.NoNaN64 (FP.dadd (FP.dadd (FP.dmul y0 v0) (FP.dmul y1 v1)) (FP.dmul y2 v2))) (hd91 : (cmpValue (FP.dcmp (FP.dadd (FP.dadd (FP.dmul y0 v0) (FP.dmul y1 v1)) (FP.dmul y2 v2)) cj) .l) = (0 : Int32)) :
    MetFree l (⟨"com/example/leeway/leeway/lp/BasisInverseSolveTransposedPinLaw", "column", "(IIIII[D[D[D[D)Z"⟩ : MethodName) (head1 (Jvm.Cond.code (⟨"com/example/leeway/leeway/lp/BasisInverseSolveTransposedPinLaw", "column", "(IIIII[D[D[D[D)Z"⟩ : MethodName) method_4_code 11 (some .boolean) :: ws) ({ frames := 0, cells := 0, slots := 0, locals := 0 } : Room)) (fun a U => a = #[(.int jj), (.int (1 : Int32)), (.int ra), (.int rb), (.int rc), (.ref s0), (.ref s1), (.ref s2), (.ref s3)] ∧ Z.Warmed39 U.vm ∧ U.heap = h0) (fun _ _ _ _ _ => True) (fun _ U o U' => ∃ v L, o = .returned v ∧ Q_cA1 Z jj ra rb rc s0 s1 s2 s3 k0 k1 k2 k3 y0 y1 y2 v0 v1 v2 c0 c1 c2 w0 w1 cj yj yb yc h0 n0 v U'.heap L ∧ FrameEnd U o U' L ({ frames := 0, cells := 0, slots := 0, locals := 0 } : Room).cells ({ frames := 0, cells := 0, slots := 0, locals := 0 } : Room).slots) := by
  refine MetFree.of_bodySF (plainFor_of_name pn_com_example_leeway_leeway_lp_BasisInverseSolveTransposedPinLaw) hisR ?_
  intro p e s m args below meth c s₁ Bd hml0 hP hK
  obtain ⟨rfl, hZ, hh⟩ := hP
  have hx := Bd.exec
  have hby := Bd.bytes
  have hml : c.maxLocals = 11 := hml0
  have hown : s.vm.findClass "com/example/leeway/leeway/lp/BasisInverseSolveTransposedPinLaw" = some m.cls := findClass_of_methodNamed Bd.named
  have hnm := (name_of_methodNamed Bd.named Bd.method).1
  have X0 : Stand p l e ({ frames := 0, cells := 0, slots := 0, locals := 0 } : Room) s m #[(.int jj), (.int (1 : Int32)), (.int ra), (.int rb), (.int rc), (.ref s0), (.ref s1), (.ref s2), (.ref s3)] below meth c s₁ [] 0 0 := Stand.of_body Bd
  have e0 : s₁.heap = h0 := by rw [← hh, Bd.state]; rfl
  have N0 := Fr.nil n0
  have pre0 : ∀ t, Steps p.tables e below (s₁.setTop (mkF m 0 #[.val (.int jj), .val (.int (1 : Int32)), .val (.int ra), .val (.int rb), .val (.int rc), .val (.ref s0), .val (.ref s1), .val (.ref s2), .val (.ref s3), .unset, .unset] [])) t → Steps p.tables e below (s₁.setTop (entryFrame m #[(.int jj), (.int (1 : Int32)), (.int ra), (.int rb), (.int rc), (.ref s0), (.ref s1), (.ref s2), (.ref s3)] 11)) t := fun t k => castTop (ef_5_Il_1___Int32_IIIRRRR m jj ra rb rc s0 s1 s2 s3) k
  obtain ⟨cq1, Arq1, -, Sq1, -, Hq1, -⟩ := id V_s0
  obtain ⟨cq2, Arq2, -, Sq2, -, Hq2, -⟩ := id V_s1
  obtain ⟨cq3, Arq3, -, Sq3, -, Hq3, -⟩ := id V_s0
  obtain ⟨cq4, Arq4, -, Sq4, -, Hq4, -⟩ := id V_s1
  obtain ⟨cq5, Arq5, -, Sq5, -, Hq5, -⟩ := id V_s0
  obtain ⟨cq6, Arq6, -, Sq6, -, Hq6, -⟩ := id V_s1
  obtain ⟨cq7, Arq7, -, Sq7, -, Hq7, -⟩ := id V_s3
  obtain ⟨fs, hr, hrun, hended, hW, hsame⟩ := X0.leave (v := some (.int (1 : Int32))) (fun h => by rw [Bd.returns] at h; cases h)
  refine ⟨_, _, pre0 _ ?_, hrun, hended, _, _, rfl, ?_, ⟨_, rfl⟩, hW, hsame.mono (by decide) (by decide)⟩
  · show Steps p.tables e below (s₁.setTop (mkF m 0 #[.val (.int jj), .val (.int (1 : Int32)), .val (.int ra), .val (.int rb), .val (.int rc), .val (.ref s0), .val (.ref s1), .val (.ref s2), .val (.ref s3), .unset, .unset] [])) _
    refine XS.iloadN X0.here hx rfl (hb hby d5_0) rfl ?_
    refine XS.iconst X0.here hx rfl (hb hby d5_1) ?_
    refine XS.icmpNo X0.here hx rfl (hb hby d5_2) rfl (flt (by decide : ¬ ((1 : Int32) < (1 : Int32)))).1 ?_
    refine XS.iloadN X0.here hx rfl (hb hby d5_5) rfl ?_
    refine XS.iloadN X0.here hx rfl (hb hby d5_6) rfl ?_
    show Steps p.tables e below (s₁.setTop (mkF m 7 #[.val (.int jj), .val (.int (1 : Int32)), .val (.int ra), .val (.int rb), .val (.int rc), .val (.ref s0), .val (.ref s1), .val (.ref s2), .val (.ref s3), .unset, .unset] [(.int ra), (.int jj)])) _
    refine XS.icmpNo X0.here hx rfl (hb hby d5_7) rfl (teq hc7).2 ?_
    refine XS.aload X0.here hx rfl (hb hby d5_10) rfl rfl ?_
    refine XS.iconst X0.here hx rfl (hb hby d5_12) ?_
    refine X0.daload hx (j := (0 : Int32)) (v := (.double y0)) (by rw [e0]; exact Arq1.1) (State.isArrayOf_alike hZ.alike Arq1.2.1) Arq1.2.2 (inb_of Sq1 ⟨by decide, by decide⟩) (Has.at Hq1 (inb_of Sq1 ⟨by decide, by decide⟩) rfl) (g := (mkF m 13 #[.val (.int jj), .val (.int (1 : Int32)), .val (.int ra), .val (.int rb), .val (.int rc), .val (.ref s0), .val (.ref s1), .val (.ref s2), .val (.ref s3), .unset, .unset] [(.int (0 : Int32)), (.ref s0)])) rfl rfl (hb hby d5_13) _ ?_
    show Steps p.tables e below (s₁.setTop (mkF m 14 #[.val (.int jj), .val (.int (1 : Int32)), .val (.int ra), .val (.int rb), .val (.int rc), .val (.ref s0), .val (.ref s1), .val (.ref s2), .val (.ref s3), .unset, .unset] [(.double y0)])) _
    refine XS.aload X0.here hx rfl (hb hby d5_14) rfl rfl ?_
    refine XS.iconst X0.here hx rfl (hb hby d5_16) ?_
    show Steps p.tables e below (s₁.setTop (mkF m 17 #[.val (.int jj), .val (.int (1 : Int32)), .val (.int ra), .val (.int rb), .val (.int rc), .val (.ref s0), .val (.ref s1), .val (.ref s2), .val (.ref s3), .unset, .unset] [(.int (0 : Int32)), (.ref s1), (.double y0)])) _
    refine X0.daload hx (j := (0 : Int32)) (v := (.double v0)) (by rw [e0]; exact Arq2.1) (State.isArrayOf_alike hZ.alike Arq2.2.1) Arq2.2.2 (inb_of Sq2 ⟨by decide, by decide⟩) (Has.at Hq2 (inb_of Sq2 ⟨by decide, by decide⟩) rfl) (g := (mkF m 17 #[.val (.int jj), .val (.int (1 : Int32)), .val (.int ra), .val (.int rb), .val (.int rc), .val (.ref s0), .val (.ref s1), .val (.ref s2), .val (.ref s3), .unset, .unset] [(.int (0 : Int32)), (.ref s1), (.double y0)])) rfl rfl (hb hby d5_17) _ ?_
    show Steps p.tables e below (s₁.setTop (mkF m 18 #[.val (.int jj), .val (.int (1 : Int32)), .val (.int ra), .val (.int rb), .val (.int rc), .val (.ref s0), .val (.ref s1), .val (.ref s2), .val (.ref s3), .unset, .unset] [(.double v0), (.double y0)])) _
    refine XS.dmulS X0.here hx rfl (hb hby d5_18) rfl nn18 (v := (FP.dmul y0 v0)) rfl ?_
    refine XS.aload X0.here hx rfl (hb hby d5_19) rfl rfl ?_
    refine XS.iconst X0.here hx rfl (hb hby d5_21) ?_
    refine X0.daload hx (j := (1 : Int32)) (v := (.double y1)) (by rw [e0]; exact Arq3.1) (State.isArrayOf_alike hZ.alike Arq3.2.1) Arq3.2.2 (inb_of Sq3 ⟨by decide, by decide⟩) (Has.at Hq3 (inb_of Sq3 ⟨by decide, by decide⟩) rfl) (g := (mkF m 22 #[.val (.int jj), .val (.int (1 : Int32)), .val (.int ra), .val (.int rb), .val (.int rc), .val (.ref s0), .val (.ref s1), .val (.ref s2), .val (.ref s3), .unset, .unset] [(.int (1 : Int32)), (.ref s0), (.double (FP.dmul y0 v0))])) rfl rfl (hb hby d5_22) _ ?_
    show Steps p.tables e below (s₁.setTop (mkF m 23 #[.val (.int jj), .val (.int (1 : Int32)), .val (.int ra), .val (.int rb), .val (.int rc), .val (.ref s0), .val (.ref s1), .val (.ref s2), .val (.ref s3), .unset, .unset] [(.double y1), (.double (FP.dmul y0 v0))])) _
    refine XS.aload X0.here hx rfl (hb hby d5_23) rfl rfl ?_
    show Steps p.tables e below (s₁.setTop (mkF m 25 #[.val (.int jj), .val (.int (1 : Int32)), .val (.int ra), .val (.int rb), .val (.int rc), .val (.ref s0), .val (.ref s1), .val (.ref s2), .val (.ref s3), .unset, .unset] [(.ref s1), (.double y1), (.double (FP.dmul y0 v0))])) _
    refine XS.iconst X0.here hx rfl (hb hby d5_25) ?_
    refine X0.daload hx (j := (1 : Int32)) (v := (.double v1)) (by rw [e0]; exact Arq4.1) (State.isArrayOf_alike hZ.alike Arq4.2.1) Arq4.2.2 (inb_of Sq4 ⟨by decide, by decide⟩) (Has.at Hq4 (inb_of Sq4 ⟨by decide, by decide⟩) rfl) (g := (mkF m 26 #[.val (.int jj), .val (.int (1 : Int32)), .val (.int ra), .val (.int rb), .val (.int rc), .val (.ref s0), .val (.ref s1), .val (.ref s2), .val (.ref s3), .unset, .unset] [(.int (1 : Int32)), (.ref s1), (.double y1), (.double (FP.dmul y0 v0))])) rfl rfl (hb hby d5_26) _ ?_
    show Steps p.tables e below (s₁.setTop (mkF m 27 #[.val (.int jj), .val (.int (1 : Int32)), .val (.int ra), .val (.int rb), .val (.int rc), .val (.ref s0), .val (.ref s1), .val (.ref s2), .val (.ref s3), .unset, .unset] [(.double v1), (.double y1), (.double (FP.dmul y0 v0))])) _
    refine XS.dmulS X0.here hx rfl (hb hby d5_27) rfl nn27 (v := (FP.dmul y1 v1)) rfl ?_
    refine XS.daddS X0.here hx rfl (hb hby d5_28) rfl nn28 (v := (FP.dadd (FP.dmul y0 v0) (FP.dmul y1 v1))) rfl ?_
    refine XS.aload X0.here hx rfl (hb hby d5_29) rfl rfl ?_
    refine XS.iconst X0.here hx rfl (hb hby d5_31) ?_
    show Steps p.tables e below (s₁.setTop (mkF m 32 #[.val (.int jj), .val (.int (1 : Int32)), .val (.int ra), .val (.int rb), .val (.int rc), .val (.ref s0), .val (.ref s1), .val (.ref s2), .val (.ref s3), .unset, .unset] [(.int (2 : Int32)), (.ref s0), (.double (FP.dadd (FP.dmul y0 v0) (FP.dmul y1 v1)))])) _
    refine X0.daload hx (j := (2 : Int32)) (v := (.double y2)) (by rw [e0]; exact Arq5.1) (State.isArrayOf_alike hZ.alike Arq5.2.1) Arq5.2.2 (inb_of Sq5 ⟨by decide, by decide⟩) (Has.at Hq5 (inb_of Sq5 ⟨by decide, by decide⟩) rfl) (g := (mkF m 32 #[.val (.int jj), .val (.int (1 : Int32)), .val (.int ra), .val (.int rb), .val (.int rc), .val (.ref s0), .val (.ref s1), .val (.ref s2), .val (.ref s3), .unset, .unset] [(.int (2 : Int32)), (.ref s0), (.double (FP.dadd (FP.dmul y0 v0) (FP.dmul y1 v1)))])) rfl rfl (hb hby d5_32) _ ?_
    show Steps p.tables e below (s₁.setTop (mkF m 33 #[.val (.int jj), .val (.int (1 : Int32)), .val (.int ra), .val (.int rb), .val (.int rc), .val (.ref s0), .val (.ref s1), .val (.ref s2), .val (.ref s3), .unset, .unset] [(.double y2), (.double (FP.dadd (FP.dmul y0 v0) (FP.dmul y1 v1)))])) _
    refine XS.aload X0.here hx rfl (hb hby d5_33) rfl rfl ?_
    refine XS.iconst X0.here hx rfl (hb hby d5_35) ?_
    refine X0.daload hx (j := (2 : Int32)) (v := (.double v2)) (by rw [e0]; exact Arq6.1) (State.isArrayOf_alike hZ.alike Arq6.2.1) Arq6.2.2 (inb_of Sq6 ⟨by decide, by decide⟩) (Has.at Hq6 (inb_of Sq6 ⟨by decide, by decide⟩) rfl) (g := (mkF m 36 #[.val (.int jj), .val (.int (1 : Int32)), .val (.int ra), .val (.int rb), .val (.int rc), .val (.ref s0), .val (.ref s1), .val (.ref s2), .val (.ref s3), .unset, .unset] [(.int (2 : Int32)), (.ref s1), (.double y2), (.double (FP.dadd (FP.dmul y0 v0) (FP.dmul y1 v1)))])) rfl rfl (hb hby d5_36) _ ?_
    show Steps p.tables e below (s₁.setTop (mkF m 37 #[.val (.int jj), .val (.int (1 : Int32)), .val (.int ra), .val (.int rb), .val (.int rc), .val (.ref s0), .val (.ref s1), .val (.ref s2), .val (.ref s3), .unset, .unset] [(.double v2), (.double y2), (.double (FP.dadd (FP.dmul y0 v0) (FP.dmul y1 v1)))])) _
    refine XS.dmulS X0.here hx rfl (hb hby d5_37) rfl nn37 (v := (FP.dmul y2 v2)) rfl ?_
    refine XS.daddS X0.here hx rfl (hb hby d5_38) rfl nn38 (v := (FP.dadd (FP.dadd (FP.dmul y0 v0) (FP.dmul y1 v1)) (FP.dmul y2 v2))) rfl ?_
    show Steps p.tables e below (s₁.setTop (mkF m 39 #[.val (.int jj), .val (.int (1 : Int32)), .val (.int ra), .val (.int rb), .val (.int rc), .val (.ref s0), .val (.ref s1), .val (.ref s2), .val (.ref s3), .unset, .unset] [(.double (FP.dadd (FP.dadd (FP.dmul y0 v0) (FP.dmul y1 v1)) (FP.dmul y2 v2)))])) _
    refine XS.dstore X0.here hx rfl (hb hby d5_39) rfl (l' := #[.val (.int jj), .val (.int (1 : Int32)), .val (.int ra), .val (.int rb), .val (.int rc), .val (.ref s0), .val (.ref s1), .val (.ref s2), .val (.ref s3), .val (.double (FP.dadd (FP.dadd (FP.dmul y0 v0) (FP.dmul y1 v1)) (FP.dmul y2 v2))), .second]) rfl ?_
    refine XS.goto X0.here hx rfl (pc0 := 41) (pc' := 85) rfl (hb hby d5_41) (by decide) (by decide) ?_
    refine XS.dload X0.here hx rfl (hb hby d5_85) rfl ?_
    refine XS.aload X0.here hx rfl (hb hby d5_87) rfl rfl ?_
    refine XS.iloadN X0.here hx rfl (hb hby d5_89) rfl ?_
    refine X0.daload hx (j := jj) (v := (.double cj)) (by rw [e0]; exact Arq7.1) (State.isArrayOf_alike hZ.alike Arq7.2.1) Arq7.2.2 (inb_of Sq7 hjj) (Has.at Hq7 (inb_of Sq7 hjj) hcj) (g := (mkF m 90 #[.val (.int jj), .val (.int (1 : Int32)), .val (.int ra), .val (.int rb), .val (.int rc), .val (.ref s0), .val (.ref s1), .val (.ref s2), .val (.ref s3), .val (.double (FP.dadd (FP.dadd (FP.dmul y0 v0) (FP.dmul y1 v1)) (FP.dmul y2 v2))), .second] [(.int jj), (.ref s3), (.double (FP.dadd (FP.dadd (FP.dmul y0 v0) (FP.dmul y1 v1)) (FP.dmul y2 v2)))])) rfl rfl (hb hby d5_90) _ ?_
    show Steps p.tables e below (s₁.setTop (mkF m 91 #[.val (.int jj), .val (.int (1 : Int32)), .val (.int ra), .val (.int rb), .val (.int rc), .val (.ref s0), .val (.ref s1), .val (.ref s2), .val (.ref s3), .val (.double (FP.dadd (FP.dadd (FP.dmul y0 v0) (FP.dmul y1 v1)) (FP.dmul y2 v2))), .second] [(.double cj), (.double (FP.dadd (FP.dadd (FP.dmul y0 v0) (FP.dmul y1 v1)) (FP.dmul y2 v2)))])) _
    refine XS.dcmpS X0.here hx rfl (hb hby d5_91) rfl (v := (0 : Int32)) hd91 ?_
    refine XS.ifNo X0.here hx rfl (hb hby d5_92) rfl ((if0 _ _).trans (teq (by decide : (0 : Int32) = (0 : Int32))).2) ?_
    refine XS.iconst X0.here hx rfl (hb hby d5_95) ?_
    refine XS.goto X0.here hx rfl (pc0 := 96) (pc' := 100) rfl (hb hby d5_96) (by decide) (by decide) ?_
    exact retN X0 hx (t := .boolean) Bd.returns (by simp) (hb hby d5_100) hr
  · show Q_cA1 Z jj ra rb rc s0 s1 s2 s3 k0 k1 k2 k3 y0 y1 y2 v0 v1 v2 c0 c1 c2 w0 w1 cj yj yb yc h0 n0 _ s₁.heap _
    rw [e0]
    exact ⟨rfl, N0, rfl⟩
theorem ef_5_Il_2___Int32_IIIRRRR (m : MethodId) (x0 : Int32) (x2 : Int32) (x3 : Int32) (x4 : Int32) (x5 : Addr) (x6 : Addr) (x7 : Addr) (x8 : Addr) : entryFrame m #[(.int x0), (.int (2 : Int32)), (.int x2), (.int x3), (.int x4), (.ref x5), (.ref x6), (.ref x7), (.ref x8)] 11 = mkF m 0 #[.val (.int x0), .val (.int (2 : Int32)), .val (.int x2), .val (.int x3), .val (.int x4), .val (.ref x5), .val (.ref x6), .val (.ref x7), .val (.ref x8), .unset, .unset] [] := by first | (simp [entryFrame, mkF, argsToLocals, Value.category]; done) | rfl
def Q_cA2 (Z : State) (jj : Int32) (ra : Int32) (rb : Int32) (rc : Int32) (s0 : Addr) (s1 : Addr) (s2 : Addr) (s3 : Addr) (k0 : ClassId) (k1 : ClassId) (k2 : ClassId) (k3 : ClassId) (y0 : UInt64) (y1 : UInt64) (y2 : UInt64) (v0 : UInt64) (v1 : UInt64) (v2 : UInt64) (c0 : UInt64) (c1 : UInt64) (c2 : UInt64) (w0 : UInt64) (w1 : UInt64) (cj : UInt64) (yj : UInt64) (yb : UInt64) (yc : UInt64) (h0 : Heap) (n0 : Nat) (v : Option Value) (h : Heap) (L : List Loc) : Prop := v = some (.int (1 : Int32)) ∧ Fr n0 L ∧ h = h0
set_option maxRecDepth 65536 in
set_option maxHeartbeats 40000000 in
theorem cA2 (l : Launch) (Z : State) (a0 : Array Value) (hw : ∀ d ∈ tables_1, d.before a0 Z = true) (ws : List Jvm.Cond) (jj : Int32) (ra : Int32) (rb : Int32) (rc : Int32) (s0 : Addr) (s1 : Addr) (s2 : Addr) (s3 : Addr) (k0 : ClassId) (k1 : ClassId) (k2 : ClassId) (k3 : ClassId) (y0 : UInt64) (y1 : UInt64) (y2 : UInt64) (v0 : UInt64) (v1 : UInt64) (v2 : UInt64) (c0 : UInt64) (c1 : UInt64) (c2 : UInt64) (w0 : UInt64) (w1 : UInt64) (cj : UInt64) (yj : UInt64) (yb : UInt64) (yc : UInt64) (h0 : Heap) (n0 : Nat) (Z0 : n0 ≤ h0.size) (V_s0 : Arv Z h0 s0 k0 .double (3 : Int32) [(.double y0), (.double y1), (.double y2)] (.double (0 : UInt64))) (V_s1 : Arv Z h0 s1 k1 .double (3 : Int32) [(.double v0), (.double v1), (.double v2)] (.double (0 : UInt64))) (V_s3 : Arv Z h0 s3 k3 .double (3 : Int32) [(.double c0), (.double c1), (.double c2)] (.double (0 : UInt64))) (V_s2 : Arv Z h0 s2 k2 .double (2 : Int32) [(.double w0), (.double w1)] (.double (0 : UInt64))) (hjj : ¬ jj < 0 ∧ jj < (3 : Int32)) (hcj : ([(.double c0), (.double c1), (.double c2)] : List Value).getD jj.toNatClampNeg (.double (0 : UInt64)) = .double cj) (hc7 : jj = ra) (nn18 : Jvm.Free.Fl.NoNaN64 (FP.dmul y0 v0)) (nn27 : Jvm.Free.Fl.NoNaN64 (FP.dmul y1 v1)) (nn28 : Jvm.Free.Fl.NoNaN64 (FP.dadd (FP.dmul y0 v0) (FP.dmul y1 v1))) (nn37 : Jvm.Free.Fl.NoNaN64 (FP.dmul y2 v2)) (nn38 : Jvm.Free.Fl.NoNaN64 (FP.dadd (FP.dadd (FP.dmul y0 v0) (FP.dmul y1 v1)) (FP.dmul y2 v2))) (hd91 : (cmpValue (FP.dcmp (FP.dadd (FP.dadd (FP.dmul y0 v0) (FP.dmul y1 v1)) (FP.dmul y2 v2)) cj) .l) = (0 : Int32)) :
    MetFree l (⟨"com/example/leeway/leeway/lp/BasisInverseSolveTransposedPinLaw", "column", "(IIIII[D[D[D[D)Z"⟩ : MethodName) (head1 (Jvm.Cond.code (⟨"com/example/leeway/leeway/lp/BasisInverseSolveTransposedPinLaw", "column", "(IIIII[D[D[D[D)Z"⟩ : MethodName) method_4_code 11 (some .boolean) :: ws) ({ frames := 0, cells := 0, slots := 0, locals := 0 } : Room)) (fun a U => a = #[(.int jj), (.int (2 : Int32)), (.int ra), (.int rb), (.int rc), (.ref s0), (.ref s1), (.ref s2), (.ref s3)] ∧ Z.Warmed39 U.vm ∧ U.heap = h0) (fun _ _ _ _ _ => True) (fun _ U o U' => ∃ v L, o = .returned v ∧ Q_cA2 Z jj ra rb rc s0 s1 s2 s3 k0 k1 k2 k3 y0 y1 y2 v0 v1 v2 c0 c1 c2 w0 w1 cj yj yb yc h0 n0 v U'.heap L ∧ FrameEnd U o U' L ({ frames := 0, cells := 0, slots := 0, locals := 0 } : Room).cells ({ frames := 0, cells := 0, slots := 0, locals := 0 } : Room).slots) := by
  refine MetFree.of_bodySF (plainFor_of_name pn_com_example_leeway_leeway_lp_BasisInverseSolveTransposedPinLaw) hisR ?_
  intro p e s m args below meth c s₁ Bd hml0 hP hK
  obtain ⟨rfl, hZ, hh⟩ := hP
  have hx := Bd.exec
  have hby := Bd.bytes
  have hml : c.maxLocals = 11 := hml0
  have hown : s.vm.findClass "com/example/leeway/leeway/lp/BasisInverseSolveTransposedPinLaw" = some m.cls := findClass_of_methodNamed Bd.named
  have hnm := (name_of_methodNamed Bd.named Bd.method).1
  have X0 : Stand p l e ({ frames := 0, cells := 0, slots := 0, locals := 0 } : Room) s m #[(.int jj), (.int (2 : Int32)), (.int ra), (.int rb), (.int rc), (.ref s0), (.ref s1), (.ref s2), (.ref s3)] below meth c s₁ [] 0 0 := Stand.of_body Bd
  have e0 : s₁.heap = h0 := by rw [← hh, Bd.state]; rfl
  have N0 := Fr.nil n0
  have pre0 : ∀ t, Steps p.tables e below (s₁.setTop (mkF m 0 #[.val (.int jj), .val (.int (2 : Int32)), .val (.int ra), .val (.int rb), .val (.int rc), .val (.ref s0), .val (.ref s1), .val (.ref s2), .val (.ref s3), .unset, .unset] [])) t → Steps p.tables e below (s₁.setTop (entryFrame m #[(.int jj), (.int (2 : Int32)), (.int ra), (.int rb), (.int rc), (.ref s0), (.ref s1), (.ref s2), (.ref s3)] 11)) t := fun t k => castTop (ef_5_Il_2___Int32_IIIRRRR m jj ra rb rc s0 s1 s2 s3) k
  obtain ⟨cq1, Arq1, -, Sq1, -, Hq1, -⟩ := id V_s0
  obtain ⟨cq2, Arq2, -, Sq2, -, Hq2, -⟩ := id V_s1
  obtain ⟨cq3, Arq3, -, Sq3, -, Hq3, -⟩ := id V_s0
  obtain ⟨cq4, Arq4, -, Sq4, -, Hq4, -⟩ := id V_s1
  obtain ⟨cq5, Arq5, -, Sq5, -, Hq5, -⟩ := id V_s0
  obtain ⟨cq6, Arq6, -, Sq6, -, Hq6, -⟩ := id V_s1
  obtain ⟨cq7, Arq7, -, Sq7, -, Hq7, -⟩ := id V_s3
  obtain ⟨fs, hr, hrun, hended, hW, hsame⟩ := X0.leave (v := some (.int (1 : Int32))) (fun h => by rw [Bd.returns] at h; cases h)
  refine ⟨_, _, pre0 _ ?_, hrun, hended, _, _, rfl, ?_, ⟨_, rfl⟩, hW, hsame.mono (by decide) (by decide)⟩
  · show Steps p.tables e below (s₁.setTop (mkF m 0 #[.val (.int jj), .val (.int (2 : Int32)), .val (.int ra), .val (.int rb), .val (.int rc), .val (.ref s0), .val (.ref s1), .val (.ref s2), .val (.ref s3), .unset, .unset] [])) _
    refine XS.iloadN X0.here hx rfl (hb hby d5_0) rfl ?_
    refine XS.iconst X0.here hx rfl (hb hby d5_1) ?_
    refine XS.icmpNo X0.here hx rfl (hb hby d5_2) rfl (flt (by decide : ¬ ((2 : Int32) < (1 : Int32)))).1 ?_
    refine XS.iloadN X0.here hx rfl (hb hby d5_5) rfl ?_
    refine XS.iloadN X0.here hx rfl (hb hby d5_6) rfl ?_
    show Steps p.tables e below (s₁.setTop (mkF m 7 #[.val (.int jj), .val (.int (2 : Int32)), .val (.int ra), .val (.int rb), .val (.int rc), .val (.ref s0), .val (.ref s1), .val (.ref s2), .val (.ref s3), .unset, .unset] [(.int ra), (.int jj)])) _
    refine XS.icmpNo X0.here hx rfl (hb hby d5_7) rfl (teq hc7).2 ?_
    refine XS.aload X0.here hx rfl (hb hby d5_10) rfl rfl ?_
    refine XS.iconst X0.here hx rfl (hb hby d5_12) ?_
    refine X0.daload hx (j := (0 : Int32)) (v := (.double y0)) (by rw [e0]; exact Arq1.1) (State.isArrayOf_alike hZ.alike Arq1.2.1) Arq1.2.2 (inb_of Sq1 ⟨by decide, by decide⟩) (Has.at Hq1 (inb_of Sq1 ⟨by decide, by decide⟩) rfl) (g := (mkF m 13 #[.val (.int jj), .val (.int (2 : Int32)), .val (.int ra), .val (.int rb), .val (.int rc), .val (.ref s0), .val (.ref s1), .val (.ref s2), .val (.ref s3), .unset, .unset] [(.int (0 : Int32)), (.ref s0)])) rfl rfl (hb hby d5_13) _ ?_
    show Steps p.tables e below (s₁.setTop (mkF m 14 #[.val (.int jj), .val (.int (2 : Int32)), .val (.int ra), .val (.int rb), .val (.int rc), .val (.ref s0), .val (.ref s1), .val (.ref s2), .val (.ref s3), .unset, .unset] [(.double y0)])) _
    refine XS.aload X0.here hx rfl (hb hby d5_14) rfl rfl ?_
    refine XS.iconst X0.here hx rfl (hb hby d5_16) ?_
    show Steps p.tables e below (s₁.setTop (mkF m 17 #[.val (.int jj), .val (.int (2 : Int32)), .val (.int ra), .val (.int rb), .val (.int rc), .val (.ref s0), .val (.ref s1), .val (.ref s2), .val (.ref s3), .unset, .unset] [(.int (0 : Int32)), (.ref s1), (.double y0)])) _
    refine X0.daload hx (j := (0 : Int32)) (v := (.double v0)) (by rw [e0]; exact Arq2.1) (State.isArrayOf_alike hZ.alike Arq2.2.1) Arq2.2.2 (inb_of Sq2 ⟨by decide, by decide⟩) (Has.at Hq2 (inb_of Sq2 ⟨by decide, by decide⟩) rfl) (g := (mkF m 17 #[.val (.int jj), .val (.int (2 : Int32)), .val (.int ra), .val (.int rb), .val (.int rc), .val (.ref s0), .val (.ref s1), .val (.ref s2), .val (.ref s3), .unset, .unset] [(.int (0 : Int32)), (.ref s1), (.double y0)])) rfl rfl (hb hby d5_17) _ ?_
    show Steps p.tables e below (s₁.setTop (mkF m 18 #[.val (.int jj), .val (.int (2 : Int32)), .val (.int ra), .val (.int rb), .val (.int rc), .val (.ref s0), .val (.ref s1), .val (.ref s2), .val (.ref s3), .unset, .unset] [(.double v0), (.double y0)])) _
    refine XS.dmulS X0.here hx rfl (hb hby d5_18) rfl nn18 (v := (FP.dmul y0 v0)) rfl ?_
    refine XS.aload X0.here hx rfl (hb hby d5_19) rfl rfl ?_
    refine XS.iconst X0.here hx rfl (hb hby d5_21) ?_
    refine X0.daload hx (j := (1 : Int32)) (v := (.double y1)) (by rw [e0]; exact Arq3.1) (State.isArrayOf_alike hZ.alike Arq3.2.1) Arq3.2.2 (inb_of Sq3 ⟨by decide, by decide⟩) (Has.at Hq3 (inb_of Sq3 ⟨by decide, by decide⟩) rfl) (g := (mkF m 22 #[.val (.int jj), .val (.int (2 : Int32)), .val (.int ra), .val (.int rb), .val (.int rc), .val (.ref s0), .val (.ref s1), .val (.ref s2), .val (.ref s3), .unset, .unset] [(.int (1 : Int32)), (.ref s0), (.double (FP.dmul y0 v0))])) rfl rfl (hb hby d5_22) _ ?_
    show Steps p.tables e below (s₁.setTop (mkF m 23 #[.val (.int jj), .val (.int (2 : Int32)), .val (.int ra), .val (.int rb), .val (.int rc), .val (.ref s0), .val (.ref s1), .val (.ref s2), .val (.ref s3), .unset, .unset] [(.double y1), (.double (FP.dmul y0 v0))])) _
    refine XS.aload X0.here hx rfl (hb hby d5_23) rfl rfl ?_
    show Steps p.tables e below (s₁.setTop (mkF m 25 #[.val (.int jj), .val (.int (2 : Int32)), .val (.int ra), .val (.int rb), .val (.int rc), .val (.ref s0), .val (.ref s1), .val (.ref s2), .val (.ref s3), .unset, .unset] [(.ref s1), (.double y1), (.double (FP.dmul y0 v0))])) _
    refine XS.iconst X0.here hx rfl (hb hby d5_25) ?_
    refine X0.daload hx (j := (1 : Int32)) (v := (.double v1)) (by rw [e0]; exact Arq4.1) (State.isArrayOf_alike hZ.alike Arq4.2.1) Arq4.2.2 (inb_of Sq4 ⟨by decide, by decide⟩) (Has.at Hq4 (inb_of Sq4 ⟨by decide, by decide⟩) rfl) (g := (mkF m 26 #[.val (.int jj), .val (.int (2 : Int32)), .val (.int ra), .val (.int rb), .val (.int rc), .val (.ref s0), .val (.ref s1), .val (.ref s2), .val (.ref s3), .unset, .unset] [(.int (1 : Int32)), (.ref s1), (.double y1), (.double (FP.dmul y0 v0))])) rfl rfl (hb hby d5_26) _ ?_
    show Steps p.tables e below (s₁.setTop (mkF m 27 #[.val (.int jj), .val (.int (2 : Int32)), .val (.int ra), .val (.int rb), .val (.int rc), .val (.ref s0), .val (.ref s1), .val (.ref s2), .val (.ref s3), .unset, .unset] [(.double v1), (.double y1), (.double (FP.dmul y0 v0))])) _
    refine XS.dmulS X0.here hx rfl (hb hby d5_27) rfl nn27 (v := (FP.dmul y1 v1)) rfl ?_
    refine XS.daddS X0.here hx rfl (hb hby d5_28) rfl nn28 (v := (FP.dadd (FP.dmul y0 v0) (FP.dmul y1 v1))) rfl ?_
    refine XS.aload X0.here hx rfl (hb hby d5_29) rfl rfl ?_
    refine XS.iconst X0.here hx rfl (hb hby d5_31) ?_
    show Steps p.tables e below (s₁.setTop (mkF m 32 #[.val (.int jj), .val (.int (2 : Int32)), .val (.int ra), .val (.int rb), .val (.int rc), .val (.ref s0), .val (.ref s1), .val (.ref s2), .val (.ref s3), .unset, .unset] [(.int (2 : Int32)), (.ref s0), (.double (FP.dadd (FP.dmul y0 v0) (FP.dmul y1 v1)))])) _
    refine X0.daload hx (j := (2 : Int32)) (v := (.double y2)) (by rw [e0]; exact Arq5.1) (State.isArrayOf_alike hZ.alike Arq5.2.1) Arq5.2.2 (inb_of Sq5 ⟨by decide, by decide⟩) (Has.at Hq5 (inb_of Sq5 ⟨by decide, by decide⟩) rfl) (g := (mkF m 32 #[.val (.int jj), .val (.int (2 : Int32)), .val (.int ra), .val (.int rb), .val (.int rc), .val (.ref s0), .val (.ref s1), .val (.ref s2), .val (.ref s3), .unset, .unset] [(.int (2 : Int32)), (.ref s0), (.double (FP.dadd (FP.dmul y0 v0) (FP.dmul y1 v1)))])) rfl rfl (hb hby d5_32) _ ?_
    show Steps p.tables e below (s₁.setTop (mkF m 33 #[.val (.int jj), .val (.int (2 : Int32)), .val (.int ra), .val (.int rb), .val (.int rc), .val (.ref s0), .val (.ref s1), .val (.ref s2), .val (.ref s3), .unset, .unset] [(.double y2), (.double (FP.dadd (FP.dmul y0 v0) (FP.dmul y1 v1)))])) _
    refine XS.aload X0.here hx rfl (hb hby d5_33) rfl rfl ?_
    refine XS.iconst X0.here hx rfl (hb hby d5_35) ?_
    refine X0.daload hx (j := (2 : Int32)) (v := (.double v2)) (by rw [e0]; exact Arq6.1) (State.isArrayOf_alike hZ.alike Arq6.2.1) Arq6.2.2 (inb_of Sq6 ⟨by decide, by decide⟩) (Has.at Hq6 (inb_of Sq6 ⟨by decide, by decide⟩) rfl) (g := (mkF m 36 #[.val (.int jj), .val (.int (2 : Int32)), .val (.int ra), .val (.int rb), .val (.int rc), .val (.ref s0), .val (.ref s1), .val (.ref s2), .val (.ref s3), .unset, .unset] [(.int (2 : Int32)), (.ref s1), (.double y2), (.double (FP.dadd (FP.dmul y0 v0) (FP.dmul y1 v1)))])) rfl rfl (hb hby d5_36) _ ?_
    show Steps p.tables e below (s₁.setTop (mkF m 37 #[.val (.int jj), .val (.int (2 : Int32)), .val (.int ra), .val (.int rb), .val (.int rc), .val (.ref s0), .val (.ref s1), .val (.ref s2), .val (.ref s3), .unset, .unset] [(.double v2), (.double y2), (.double (FP.dadd (FP.dmul y0 v0) (FP.dmul y1 v1)))])) _
    refine XS.dmulS X0.here hx rfl (hb hby d5_37) rfl nn37 (v := (FP.dmul y2 v2)) rfl ?_
    refine XS.daddS X0.here hx rfl (hb hby d5_38) rfl nn38 (v := (FP.dadd (FP.dadd (FP.dmul y0 v0) (FP.dmul y1 v1)) (FP.dmul y2 v2))) rfl ?_
    show Steps p.tables e below (s₁.setTop (mkF m 39 #[.val (.int jj), .val (.int (2 : Int32)), .val (.int ra), .val (.int rb), .val (.int rc), .val (.ref s0), .val (.ref s1), .val (.ref s2), .val (.ref s3), .unset, .unset] [(.double (FP.dadd (FP.dadd (FP.dmul y0 v0) (FP.dmul y1 v1)) (FP.dmul y2 v2)))])) _
    refine XS.dstore X0.here hx rfl (hb hby d5_39) rfl (l' := #[.val (.int jj), .val (.int (2 : Int32)), .val (.int ra), .val (.int rb), .val (.int rc), .val (.ref s0), .val (.ref s1), .val (.ref s2), .val (.ref s3), .val (.double (FP.dadd (FP.dadd (FP.dmul y0 v0) (FP.dmul y1 v1)) (FP.dmul y2 v2))), .second]) rfl ?_
    refine XS.goto X0.here hx rfl (pc0 := 41) (pc' := 85) rfl (hb hby d5_41) (by decide) (by decide) ?_
    refine XS.dload X0.here hx rfl (hb hby d5_85) rfl ?_
    refine XS.aload X0.here hx rfl (hb hby d5_87) rfl rfl ?_
    refine XS.iloadN X0.here hx rfl (hb hby d5_89) rfl ?_
    refine X0.daload hx (j := jj) (v := (.double cj)) (by rw [e0]; exact Arq7.1) (State.isArrayOf_alike hZ.alike Arq7.2.1) Arq7.2.2 (inb_of Sq7 hjj) (Has.at Hq7 (inb_of Sq7 hjj) hcj) (g := (mkF m 90 #[.val (.int jj), .val (.int (2 : Int32)), .val (.int ra), .val (.int rb), .val (.int rc), .val (.ref s0), .val (.ref s1), .val (.ref s2), .val (.ref s3), .val (.double (FP.dadd (FP.dadd (FP.dmul y0 v0) (FP.dmul y1 v1)) (FP.dmul y2 v2))), .second] [(.int jj), (.ref s3), (.double (FP.dadd (FP.dadd (FP.dmul y0 v0) (FP.dmul y1 v1)) (FP.dmul y2 v2)))])) rfl rfl (hb hby d5_90) _ ?_
    show Steps p.tables e below (s₁.setTop (mkF m 91 #[.val (.int jj), .val (.int (2 : Int32)), .val (.int ra), .val (.int rb), .val (.int rc), .val (.ref s0), .val (.ref s1), .val (.ref s2), .val (.ref s3), .val (.double (FP.dadd (FP.dadd (FP.dmul y0 v0) (FP.dmul y1 v1)) (FP.dmul y2 v2))), .second] [(.double cj), (.double (FP.dadd (FP.dadd (FP.dmul y0 v0) (FP.dmul y1 v1)) (FP.dmul y2 v2)))])) _
    refine XS.dcmpS X0.here hx rfl (hb hby d5_91) rfl (v := (0 : Int32)) hd91 ?_
    refine XS.ifNo X0.here hx rfl (hb hby d5_92) rfl ((if0 _ _).trans (teq (by decide : (0 : Int32) = (0 : Int32))).2) ?_
    refine XS.iconst X0.here hx rfl (hb hby d5_95) ?_
    refine XS.goto X0.here hx rfl (pc0 := 96) (pc' := 100) rfl (hb hby d5_96) (by decide) (by decide) ?_
    exact retN X0 hx (t := .boolean) Bd.returns (by simp) (hb hby d5_100) hr
  · show Q_cA2 Z jj ra rb rc s0 s1 s2 s3 k0 k1 k2 k3 y0 y1 y2 v0 v1 v2 c0 c1 c2 w0 w1 cj yj yb yc h0 n0 _ s₁.heap _
    rw [e0]
    exact ⟨rfl, N0, rfl⟩
theorem d5_44 : decode method_4_code 44 = .ok (.iload_n 1, 1) := by decide +kernel
theorem d5_45 : decode method_4_code 45 = .ok (.iconst 2, 1) := by decide +kernel
theorem d5_46 : decode method_4_code 46 = .ok (.if_icmp .lt 33, 3) := by decide +kernel
theorem d5_79 : decode method_4_code 79 = .ok (.aload 5, 2) := by decide +kernel
theorem d5_81 : decode method_4_code 81 = .ok (.iload_n 0, 1) := by decide +kernel
theorem d5_82 : decode method_4_code 82 = .ok (.daload, 1) := by decide +kernel
theorem d5_83 : decode method_4_code 83 = .ok (.dstore 9, 2) := by decide +kernel
theorem ef_5_Il_0___Int32_IIIRRRR (m : MethodId) (x0 : Int32) (x2 : Int32) (x3 : Int32) (x4 : Int32) (x5 : Addr) (x6 : Addr) (x7 : Addr) (x8 : Addr) : entryFrame m #[(.int x0), (.int (0 : Int32)), (.int x2), (.int x3), (.int x4), (.ref x5), (.ref x6), (.ref x7), (.ref x8)] 11 = mkF m 0 #[.val (.int x0), .val (.int (0 : Int32)), .val (.int x2), .val (.int x3), .val (.int x4), .val (.ref x5), .val (.ref x6), .val (.ref x7), .val (.ref x8), .unset, .unset] [] := by first | (simp [entryFrame, mkF, argsToLocals, Value.category]; done) | rfl
def Q_cC0 (Z : State) (jj : Int32) (ra : Int32) (rb : Int32) (rc : Int32) (s0 : Addr) (s1 : Addr) (s2 : Addr) (s3 : Addr) (k0 : ClassId) (k1 : ClassId) (k2 : ClassId) (k3 : ClassId) (y0 : UInt64) (y1 : UInt64) (y2 : UInt64) (v0 : UInt64) (v1 : UInt64) (v2 : UInt64) (c0 : UInt64) (c1 : UInt64) (c2 : UInt64) (w0 : UInt64) (w1 : UInt64) (cj : UInt64) (yj : UInt64) (yb : UInt64) (yc : UInt64) (h0 : Heap) (n0 : Nat) (v : Option Value) (h : Heap) (L : List Loc) : Prop := v = some (.int (1 : Int32)) ∧ Fr n0 L ∧ h = h0
set_option maxRecDepth 65536 in
set_option maxHeartbeats 40000000 in
theorem cC0 (l : Launch) (Z : State) (a0 : Array Value) (hw : ∀ d ∈ tables_1, d.before a0 Z = true) (ws : List Jvm.Cond) (jj : Int32) (ra : Int32) (rb : Int32) (rc : Int32) (s0 : Addr) (s1 : Addr) (s2 : Addr) (s3 : Addr) (k0 : ClassId) (k1 : ClassId) (k2 : ClassId) (k3 : ClassId) (y0 : UInt64) (y1 : UInt64) (y2 : UInt64) (v0 : UInt64) (v1 : UInt64) (v2 : UInt64) (c0 : UInt64) (c1 : UInt64) (c2 : UInt64) (w0 : UInt64) (w1 : UInt64) (cj : UInt64) (yj : UInt64) (yb : UInt64) (yc : UInt64) (h0 : Heap) (n0 : Nat) (Z0 : n0 ≤ h0.size) (V_s0 : Arv Z h0 s0 k0 .double (3 : Int32) [(.double y0), (.double y1), (.double y2)] (.double (0 : UInt64))) (V_s1 : Arv Z h0 s1 k1 .double (3 : Int32) [(.double v0), (.double v1), (.double v2)] (.double (0 : UInt64))) (V_s3 : Arv Z h0 s3 k3 .double (3 : Int32) [(.double c0), (.double c1), (.double c2)] (.double (0 : UInt64))) (V_s2 : Arv Z h0 s2 k2 .double (2 : Int32) [(.double w0), (.double w1)] (.double (0 : UInt64))) (hjj : ¬ jj < 0 ∧ jj < (3 : Int32)) (hcj : ([(.double c0), (.double c1), (.double c2)] : List Value).getD jj.toNatClampNeg (.double (0 : UInt64)) = .double cj) (hyj : ([(.double y0), (.double y1), (.double y2)] : List Value).getD jj.toNatClampNeg (.double (0 : UInt64)) = .double yj) (hd91 : (cmpValue (FP.dcmp yj cj) .l) = (0 : Int32)) :
    MetFree l (⟨"com/example/leeway/leeway/lp/BasisInverseSolveTransposedPinLaw", "column", "(IIIII[D[D[D[D)Z"⟩ : MethodName) (head1 (Jvm.Cond.code (⟨"com/example/leeway/leeway/lp/BasisInverseSolveTransposedPinLaw", "column", "(IIIII[D[D[D[D)Z"⟩ : MethodName) method_4_code 11 (some .boolean) :: ws) ({ frames := 0, cells := 0, slots := 0, locals := 0 } : Room)) (fun a U => a = #[(.int jj), (.int (0 : Int32)), (.int ra), (.int rb), (.int rc), (.ref s0), (.ref s1), (.ref s2), (.ref s3)] ∧ Z.Warmed39 U.vm ∧ U.heap = h0) (fun _ _ _ _ _ => True) (fun _ U o U' => ∃ v L, o = .returned v ∧ Q_cC0 Z jj ra rb rc s0 s1 s2 s3 k0 k1 k2 k3 y0 y1 y2 v0 v1 v2 c0 c1 c2 w0 w1 cj yj yb yc h0 n0 v U'.heap L ∧ FrameEnd U o U' L ({ frames := 0, cells := 0, slots := 0, locals := 0 } : Room).cells ({ frames := 0, cells := 0, slots := 0, locals := 0 } : Room).slots) := by
  refine MetFree.of_bodySF (plainFor_of_name pn_com_example_leeway_leeway_lp_BasisInverseSolveTransposedPinLaw) hisR ?_
  intro p e s m args below meth c s₁ Bd hml0 hP hK
  obtain ⟨rfl, hZ, hh⟩ := hP
  have hx := Bd.exec
  have hby := Bd.bytes
  have hml : c.maxLocals = 11 := hml0
  have hown : s.vm.findClass "com/example/leeway/leeway/lp/BasisInverseSolveTransposedPinLaw" = some m.cls := findClass_of_methodNamed Bd.named
  have hnm := (name_of_methodNamed Bd.named Bd.method).1
  have X0 : Stand p l e ({ frames := 0, cells := 0, slots := 0, locals := 0 } : Room) s m #[(.int jj), (.int (0 : Int32)), (.int ra), (.int rb), (.int rc), (.ref s0), (.ref s1), (.ref s2), (.ref s3)] below meth c s₁ [] 0 0 := Stand.of_body Bd
  have e0 : s₁.heap = h0 := by rw [← hh, Bd.state]; rfl
  have N0 := Fr.nil n0
  have pre0 : ∀ t, Steps p.tables e below (s₁.setTop (mkF m 0 #[.val (.int jj), .val (.int (0 : Int32)), .val (.int ra), .val (.int rb), .val (.int rc), .val (.ref s0), .val (.ref s1), .val (.ref s2), .val (.ref s3), .unset, .unset] [])) t → Steps p.tables e below (s₁.setTop (entryFrame m #[(.int jj), (.int (0 : Int32)), (.int ra), (.int rb), (.int rc), (.ref s0), (.ref s1), (.ref s2), (.ref s3)] 11)) t := fun t k => castTop (ef_5_Il_0___Int32_IIIRRRR m jj ra rb rc s0 s1 s2 s3) k
  obtain ⟨cq1, Arq1, -, Sq1, -, Hq1, -⟩ := id V_s0
  obtain ⟨cq2, Arq2, -, Sq2, -, Hq2, -⟩ := id V_s3
  obtain ⟨fs, hr, hrun, hended, hW, hsame⟩ := X0.leave (v := some (.int (1 : Int32))) (fun h => by rw [Bd.returns] at h; cases h)
  refine ⟨_, _, pre0 _ ?_, hrun, hended, _, _, rfl, ?_, ⟨_, rfl⟩, hW, hsame.mono (by decide) (by decide)⟩
  · show Steps p.tables e below (s₁.setTop (mkF m 0 #[.val (.int jj), .val (.int (0 : Int32)), .val (.int ra), .val (.int rb), .val (.int rc), .val (.ref s0), .val (.ref s1), .val (.ref s2), .val (.ref s3), .unset, .unset] [])) _
    refine XS.iloadN X0.here hx rfl (hb hby d5_0) rfl ?_
    refine XS.iconst X0.here hx rfl (hb hby d5_1) ?_
    refine XS.icmpYes X0.here hx rfl (pc0 := 2) (pc' := 44) rfl (hb hby d5_2) rfl (tlt (by decide : (0 : Int32) < (1 : Int32))).1 (by decide) (by decide) ?_
    refine XS.iloadN X0.here hx rfl (hb hby d5_44) rfl ?_
    refine XS.iconst X0.here hx rfl (hb hby d5_45) ?_
    show Steps p.tables e below (s₁.setTop (mkF m 46 #[.val (.int jj), .val (.int (0 : Int32)), .val (.int ra), .val (.int rb), .val (.int rc), .val (.ref s0), .val (.ref s1), .val (.ref s2), .val (.ref s3), .unset, .unset] [(.int (2 : Int32)), (.int (0 : Int32))])) _
    refine XS.icmpYes X0.here hx rfl (pc0 := 46) (pc' := 79) rfl (hb hby d5_46) rfl (tlt (by decide : (0 : Int32) < (2 : Int32))).1 (by decide) (by decide) ?_
    refine XS.aload X0.here hx rfl (hb hby d5_79) rfl rfl ?_
    refine XS.iloadN X0.here hx rfl (hb hby d5_81) rfl ?_
    refine X0.daload hx (j := jj) (v := (.double yj)) (by rw [e0]; exact Arq1.1) (State.isArrayOf_alike hZ.alike Arq1.2.1) Arq1.2.2 (inb_of Sq1 hjj) (Has.at Hq1 (inb_of Sq1 hjj) hyj) (g := (mkF m 82 #[.val (.int jj), .val (.int (0 : Int32)), .val (.int ra), .val (.int rb), .val (.int rc), .val (.ref s0), .val (.ref s1), .val (.ref s2), .val (.ref s3), .unset, .unset] [(.int jj), (.ref s0)])) rfl rfl (hb hby d5_82) _ ?_
    show Steps p.tables e below (s₁.setTop (mkF m 83 #[.val (.int jj), .val (.int (0 : Int32)), .val (.int ra), .val (.int rb), .val (.int rc), .val (.ref s0), .val (.ref s1), .val (.ref s2), .val (.ref s3), .unset, .unset] [(.double yj)])) _
    refine XS.dstore X0.here hx rfl (hb hby d5_83) rfl (l' := #[.val (.int jj), .val (.int (0 : Int32)), .val (.int ra), .val (.int rb), .val (.int rc), .val (.ref s0), .val (.ref s1), .val (.ref s2), .val (.ref s3), .val (.double yj), .second]) rfl ?_
    refine XS.dload X0.here hx rfl (hb hby d5_85) rfl ?_
    show Steps p.tables e below (s₁.setTop (mkF m 87 #[.val (.int jj), .val (.int (0 : Int32)), .val (.int ra), .val (.int rb), .val (.int rc), .val (.ref s0), .val (.ref s1), .val (.ref s2), .val (.ref s3), .val (.double yj), .second] [(.double yj)])) _
    refine XS.aload X0.here hx rfl (hb hby d5_87) rfl rfl ?_
    refine XS.iloadN X0.here hx rfl (hb hby d5_89) rfl ?_
    refine X0.daload hx (j := jj) (v := (.double cj)) (by rw [e0]; exact Arq2.1) (State.isArrayOf_alike hZ.alike Arq2.2.1) Arq2.2.2 (inb_of Sq2 hjj) (Has.at Hq2 (inb_of Sq2 hjj) hcj) (g := (mkF m 90 #[.val (.int jj), .val (.int (0 : Int32)), .val (.int ra), .val (.int rb), .val (.int rc), .val (.ref s0), .val (.ref s1), .val (.ref s2), .val (.ref s3), .val (.double yj), .second] [(.int jj), (.ref s3), (.double yj)])) rfl rfl (hb hby d5_90) _ ?_
    show Steps p.tables e below (s₁.setTop (mkF m 91 #[.val (.int jj), .val (.int (0 : Int32)), .val (.int ra), .val (.int rb), .val (.int rc), .val (.ref s0), .val (.ref s1), .val (.ref s2), .val (.ref s3), .val (.double yj), .second] [(.double cj), (.double yj)])) _
    refine XS.dcmpS X0.here hx rfl (hb hby d5_91) rfl (v := (0 : Int32)) hd91 ?_
    refine XS.ifNo X0.here hx rfl (hb hby d5_92) rfl ((if0 _ _).trans (teq (by decide : (0 : Int32) = (0 : Int32))).2) ?_
    refine XS.iconst X0.here hx rfl (hb hby d5_95) ?_
    show Steps p.tables e below (s₁.setTop (mkF m 96 #[.val (.int jj), .val (.int (0 : Int32)), .val (.int ra), .val (.int rb), .val (.int rc), .val (.ref s0), .val (.ref s1), .val (.ref s2), .val (.ref s3), .val (.double yj), .second] [(.int (1 : Int32))])) _
    refine XS.goto X0.here hx rfl (pc0 := 96) (pc' := 100) rfl (hb hby d5_96) (by decide) (by decide) ?_
    exact retN X0 hx (t := .boolean) Bd.returns (by simp) (hb hby d5_100) hr
  · show Q_cC0 Z jj ra rb rc s0 s1 s2 s3 k0 k1 k2 k3 y0 y1 y2 v0 v1 v2 c0 c1 c2 w0 w1 cj yj yb yc h0 n0 _ s₁.heap _
    rw [e0]
    exact ⟨rfl, N0, rfl⟩
def Q_cC1 (Z : State) (jj : Int32) (ra : Int32) (rb : Int32) (rc : Int32) (s0 : Addr) (s1 : Addr) (s2 : Addr) (s3 : Addr) (k0 : ClassId) (k1 : ClassId) (k2 : ClassId) (k3 : ClassId) (y0 : UInt64) (y1 : UInt64) (y2 : UInt64) (v0 : UInt64) (v1 : UInt64) (v2 : UInt64) (c0 : UInt64) (c1 : UInt64) (c2 : UInt64) (w0 : UInt64) (w1 : UInt64) (cj : UInt64) (yj : UInt64) (yb : UInt64) (yc : UInt64) (h0 : Heap) (n0 : Nat) (v : Option Value) (h : Heap) (L : List Loc) : Prop := v = some (.int (1 : Int32)) ∧ Fr n0 L ∧ h = h0
set_option maxRecDepth 65536 in
set_option maxHeartbeats 40000000 in
theorem cC1 (l : Launch) (Z : State) (a0 : Array Value) (hw : ∀ d ∈ tables_1, d.before a0 Z = true) (ws : List Jvm.Cond) (jj : Int32) (ra : Int32) (rb : Int32) (rc : Int32) (s0 : Addr) (s1 : Addr) (s2 : Addr) (s3 : Addr) (k0 : ClassId) (k1 : ClassId) (k2 : ClassId) (k3 : ClassId) (y0 : UInt64) (y1 : UInt64) (y2 : UInt64) (v0 : UInt64) (v1 : UInt64) (v2 : UInt64) (c0 : UInt64) (c1 : UInt64) (c2 : UInt64) (w0 : UInt64) (w1 : UInt64) (cj : UInt64) (yj : UInt64) (yb : UInt64) (yc : UInt64) (h0 : Heap) (n0 : Nat) (Z0 : n0 ≤ h0.size) (V_s0 : Arv Z h0 s0 k0 .double (3 : Int32) [(.double y0), (.double y1), (.double y2)] (.double (0 : UInt64))) (V_s1 : Arv Z h0 s1 k1 .double (3 : Int32) [(.double v0), (.double v1), (.double v2)] (.double (0 : UInt64))) (V_s3 : Arv Z h0 s3 k3 .double (3 : Int32) [(.double c0), (.double c1), (.double c2)] (.double (0 : UInt64))) (V_s2 : Arv Z h0 s2 k2 .double (2 : Int32) [(.double w0), (.double w1)] (.double (0 : UInt64))) (hjj : ¬ jj < 0 ∧ jj < (3 : Int32)) (hcj : ([(.double c0), (.double c1), (.double c2)] : List Value).getD jj.toNatClampNeg (.double (0 : UInt64)) = .double cj) (hyj : ([(.double y0), (.double y1), (.double y2)] : List Value).getD jj.toNatClampNeg (.double (0 : UInt64)) = .double yj) (hc7 : ¬ (jj = ra)) (hd91 : (cmpValue (FP.dcmp yj cj) .l) = (0 : Int32)) :
    MetFree l (⟨"com/example/leeway/leeway/lp/BasisInverseSolveTransposedPinLaw", "column", "(IIIII[D[D[D[D)Z"⟩ : MethodName) (head1 (Jvm.Cond.code (⟨"com/example/leeway/leeway/lp/BasisInverseSolveTransposedPinLaw", "column", "(IIIII[D[D[D[D)Z"⟩ : MethodName) method_4_code 11 (some .boolean) :: ws) ({ frames := 0, cells := 0, slots := 0, locals := 0 } : Room)) (fun a U => a = #[(.int jj), (.int (1 : Int32)), (.int ra), (.int rb), (.int rc), (.ref s0), (.ref s1), (.ref s2), (.ref s3)] ∧ Z.Warmed39 U.vm ∧ U.heap = h0) (fun _ _ _ _ _ => True) (fun _ U o U' => ∃ v L, o = .returned v ∧ Q_cC1 Z jj ra rb rc s0 s1 s2 s3 k0 k1 k2 k3 y0 y1 y2 v0 v1 v2 c0 c1 c2 w0 w1 cj yj yb yc h0 n0 v U'.heap L ∧ FrameEnd U o U' L ({ frames := 0, cells := 0, slots := 0, locals := 0 } : Room).cells ({ frames := 0, cells := 0, slots := 0, locals := 0 } : Room).slots) := by
  refine MetFree.of_bodySF (plainFor_of_name pn_com_example_leeway_leeway_lp_BasisInverseSolveTransposedPinLaw) hisR ?_
  intro p e s m args below meth c s₁ Bd hml0 hP hK
  obtain ⟨rfl, hZ, hh⟩ := hP
  have hx := Bd.exec
  have hby := Bd.bytes
  have hml : c.maxLocals = 11 := hml0
  have hown : s.vm.findClass "com/example/leeway/leeway/lp/BasisInverseSolveTransposedPinLaw" = some m.cls := findClass_of_methodNamed Bd.named
  have hnm := (name_of_methodNamed Bd.named Bd.method).1
  have X0 : Stand p l e ({ frames := 0, cells := 0, slots := 0, locals := 0 } : Room) s m #[(.int jj), (.int (1 : Int32)), (.int ra), (.int rb), (.int rc), (.ref s0), (.ref s1), (.ref s2), (.ref s3)] below meth c s₁ [] 0 0 := Stand.of_body Bd
  have e0 : s₁.heap = h0 := by rw [← hh, Bd.state]; rfl
  have N0 := Fr.nil n0
  have pre0 : ∀ t, Steps p.tables e below (s₁.setTop (mkF m 0 #[.val (.int jj), .val (.int (1 : Int32)), .val (.int ra), .val (.int rb), .val (.int rc), .val (.ref s0), .val (.ref s1), .val (.ref s2), .val (.ref s3), .unset, .unset] [])) t → Steps p.tables e below (s₁.setTop (entryFrame m #[(.int jj), (.int (1 : Int32)), (.int ra), (.int rb), (.int rc), (.ref s0), (.ref s1), (.ref s2), (.ref s3)] 11)) t := fun t k => castTop (ef_5_Il_1___Int32_IIIRRRR m jj ra rb rc s0 s1 s2 s3) k
  obtain ⟨cq1, Arq1, -, Sq1, -, Hq1, -⟩ := id V_s0
  obtain ⟨cq2, Arq2, -, Sq2, -, Hq2, -⟩ := id V_s3
  obtain ⟨fs, hr, hrun, hended, hW, hsame⟩ := X0.leave (v := some (.int (1 : Int32))) (fun h => by rw [Bd.returns] at h; cases h)
  refine ⟨_, _, pre0 _ ?_, hrun, hended, _, _, rfl, ?_, ⟨_, rfl⟩, hW, hsame.mono (by decide) (by decide)⟩
  · show Steps p.tables e below (s₁.setTop (mkF m 0 #[.val (.int jj), .val (.int (1 : Int32)), .val (.int ra), .val (.int rb), .val (.int rc), .val (.ref s0), .val (.ref s1), .val (.ref s2), .val (.ref s3), .unset, .unset] [])) _
    refine XS.iloadN X0.here hx rfl (hb hby d5_0) rfl ?_
    refine XS.iconst X0.here hx rfl (hb hby d5_1) ?_
    refine XS.icmpNo X0.here hx rfl (hb hby d5_2) rfl (flt (by decide : ¬ ((1 : Int32) < (1 : Int32)))).1 ?_
    refine XS.iloadN X0.here hx rfl (hb hby d5_5) rfl ?_
    refine XS.iloadN X0.here hx rfl (hb hby d5_6) rfl ?_
    show Steps p.tables e below (s₁.setTop (mkF m 7 #[.val (.int jj), .val (.int (1 : Int32)), .val (.int ra), .val (.int rb), .val (.int rc), .val (.ref s0), .val (.ref s1), .val (.ref s2), .val (.ref s3), .unset, .unset] [(.int ra), (.int jj)])) _
    refine XS.icmpYes X0.here hx rfl (pc0 := 7) (pc' := 44) rfl (hb hby d5_7) rfl (feq hc7).2 (by decide) (by decide) ?_
    refine XS.iloadN X0.here hx rfl (hb hby d5_44) rfl ?_
    refine XS.iconst X0.here hx rfl (hb hby d5_45) ?_
    refine XS.icmpYes X0.here hx rfl (pc0 := 46) (pc' := 79) rfl (hb hby d5_46) rfl (tlt (by decide : (1 : Int32) < (2 : Int32))).1 (by decide) (by decide) ?_
    refine XS.aload X0.here hx rfl (hb hby d5_79) rfl rfl ?_
    refine XS.iloadN X0.here hx rfl (hb hby d5_81) rfl ?_
    show Steps p.tables e below (s₁.setTop (mkF m 82 #[.val (.int jj), .val (.int (1 : Int32)), .val (.int ra), .val (.int rb), .val (.int rc), .val (.ref s0), .val (.ref s1), .val (.ref s2), .val (.ref s3), .unset, .unset] [(.int jj), (.ref s0)])) _
    refine X0.daload hx (j := jj) (v := (.double yj)) (by rw [e0]; exact Arq1.1) (State.isArrayOf_alike hZ.alike Arq1.2.1) Arq1.2.2 (inb_of Sq1 hjj) (Has.at Hq1 (inb_of Sq1 hjj) hyj) (g := (mkF m 82 #[.val (.int jj), .val (.int (1 : Int32)), .val (.int ra), .val (.int rb), .val (.int rc), .val (.ref s0), .val (.ref s1), .val (.ref s2), .val (.ref s3), .unset, .unset] [(.int jj), (.ref s0)])) rfl rfl (hb hby d5_82) _ ?_
    show Steps p.tables e below (s₁.setTop (mkF m 83 #[.val (.int jj), .val (.int (1 : Int32)), .val (.int ra), .val (.int rb), .val (.int rc), .val (.ref s0), .val (.ref s1), .val (.ref s2), .val (.ref s3), .unset, .unset] [(.double yj)])) _
    refine XS.dstore X0.here hx rfl (hb hby d5_83) rfl (l' := #[.val (.int jj), .val (.int (1 : Int32)), .val (.int ra), .val (.int rb), .val (.int rc), .val (.ref s0), .val (.ref s1), .val (.ref s2), .val (.ref s3), .val (.double yj), .second]) rfl ?_
    refine XS.dload X0.here hx rfl (hb hby d5_85) rfl ?_
    refine XS.aload X0.here hx rfl (hb hby d5_87) rfl rfl ?_
    refine XS.iloadN X0.here hx rfl (hb hby d5_89) rfl ?_
    refine X0.daload hx (j := jj) (v := (.double cj)) (by rw [e0]; exact Arq2.1) (State.isArrayOf_alike hZ.alike Arq2.2.1) Arq2.2.2 (inb_of Sq2 hjj) (Has.at Hq2 (inb_of Sq2 hjj) hcj) (g := (mkF m 90 #[.val (.int jj), .val (.int (1 : Int32)), .val (.int ra), .val (.int rb), .val (.int rc), .val (.ref s0), .val (.ref s1), .val (.ref s2), .val (.ref s3), .val (.double yj), .second] [(.int jj), (.ref s3), (.double yj)])) rfl rfl (hb hby d5_90) _ ?_
    show Steps p.tables e below (s₁.setTop (mkF m 91 #[.val (.int jj), .val (.int (1 : Int32)), .val (.int ra), .val (.int rb), .val (.int rc), .val (.ref s0), .val (.ref s1), .val (.ref s2), .val (.ref s3), .val (.double yj), .second] [(.double cj), (.double yj)])) _
    refine XS.dcmpS X0.here hx rfl (hb hby d5_91) rfl (v := (0 : Int32)) hd91 ?_
    refine XS.ifNo X0.here hx rfl (hb hby d5_92) rfl ((if0 _ _).trans (teq (by decide : (0 : Int32) = (0 : Int32))).2) ?_
    refine XS.iconst X0.here hx rfl (hb hby d5_95) ?_
    refine XS.goto X0.here hx rfl (pc0 := 96) (pc' := 100) rfl (hb hby d5_96) (by decide) (by decide) ?_
    exact retN X0 hx (t := .boolean) Bd.returns (by simp) (hb hby d5_100) hr
  · show Q_cC1 Z jj ra rb rc s0 s1 s2 s3 k0 k1 k2 k3 y0 y1 y2 v0 v1 v2 c0 c1 c2 w0 w1 cj yj yb yc h0 n0 _ s₁.heap _
    rw [e0]
    exact ⟨rfl, N0, rfl⟩
theorem d5_49 : decode method_4_code 49 = .ok (.iload_n 0, 1) := by decide +kernel
theorem d5_50 : decode method_4_code 50 = .ok (.iload_n 3, 1) := by decide +kernel
theorem d5_51 : decode method_4_code 51 = .ok (.if_icmp .ne 28, 3) := by decide +kernel
def Q_cC2 (Z : State) (jj : Int32) (ra : Int32) (rb : Int32) (rc : Int32) (s0 : Addr) (s1 : Addr) (s2 : Addr) (s3 : Addr) (k0 : ClassId) (k1 : ClassId) (k2 : ClassId) (k3 : ClassId) (y0 : UInt64) (y1 : UInt64) (y2 : UInt64) (v0 : UInt64) (v1 : UInt64) (v2 : UInt64) (c0 : UInt64) (c1 : UInt64) (c2 : UInt64) (w0 : UInt64) (w1 : UInt64) (cj : UInt64) (yj : UInt64) (yb : UInt64) (yc : UInt64) (h0 : Heap) (n0 : Nat) (v : Option Value) (h : Heap) (L : List Loc) : Prop := v = some (.int (1 : Int32)) ∧ Fr n0 L ∧ h = h0
set_option maxRecDepth 65536 in
set_option maxHeartbeats 40000000 in
theorem cC2 (l : Launch) (Z : State) (a0 : Array Value) (hw : ∀ d ∈ tables_1, d.before a0 Z = true) (ws : List Jvm.Cond) (jj : Int32) (ra : Int32) (rb : Int32) (rc : Int32) (s0 : Addr) (s1 : Addr) (s2 : Addr) (s3 : Addr) (k0 : ClassId) (k1 : ClassId) (k2 : ClassId) (k3 : ClassId) (y0 : UInt64) (y1 : UInt64) (y2 : UInt64) (v0 : UInt64) (v1 : UInt64) (v2 : UInt64) (c0 : UInt64) (c1 : UInt64) (c2 : UInt64) (w0 : UInt64) (w1 : UInt64) (cj : UInt64) (yj : UInt64) (yb : UInt64) (yc : UInt64) (h0 : Heap) (n0 : Nat) (Z0 : n0 ≤ h0.size) (V_s0 : Arv Z h0 s0 k0 .double (3 : Int32) [(.double y0), (.double y1), (.double y2)] (.double (0 : UInt64))) (V_s1 : Arv Z h0 s1 k1 .double (3 : Int32) [(.double v0), (.double v1), (.double v2)] (.double (0 : UInt64))) (V_s3 : Arv Z h0 s3 k3 .double (3 : Int32) [(.double c0), (.double c1), (.double c2)] (.double (0 : UInt64))) (V_s2 : Arv Z h0 s2 k2 .double (2 : Int32) [(.double w0), (.double w1)] (.double (0 : UInt64))) (hjj : ¬ jj < 0 ∧ jj < (3 : Int32)) (hcj : ([(.double c0), (.double c1), (.double c2)] : List Value).getD jj.toNatClampNeg (.double (0 : UInt64)) = .double cj) (hyj : ([(.double y0), (.double y1), (.double y2)] : List Value).getD jj.toNatClampNeg (.double (0 : UInt64)) = .double yj) (hc7 : ¬ (jj = ra)) (hc51 : ¬ (jj = rb)) (hd91 : (cmpValue (FP.dcmp yj cj) .l) = (0 : Int32)) :
    MetFree l (⟨"com/example/leeway/leeway/lp/BasisInverseSolveTransposedPinLaw", "column", "(IIIII[D[D[D[D)Z"⟩ : MethodName) (head1 (Jvm.Cond.code (⟨"com/example/leeway/leeway/lp/BasisInverseSolveTransposedPinLaw", "column", "(IIIII[D[D[D[D)Z"⟩ : MethodName) method_4_code 11 (some .boolean) :: ws) ({ frames := 0, cells := 0, slots := 0, locals := 0 } : Room)) (fun a U => a = #[(.int jj), (.int (2 : Int32)), (.int ra), (.int rb), (.int rc), (.ref s0), (.ref s1), (.ref s2), (.ref s3)] ∧ Z.Warmed39 U.vm ∧ U.heap = h0) (fun _ _ _ _ _ => True) (fun _ U o U' => ∃ v L, o = .returned v ∧ Q_cC2 Z jj ra rb rc s0 s1 s2 s3 k0 k1 k2 k3 y0 y1 y2 v0 v1 v2 c0 c1 c2 w0 w1 cj yj yb yc h0 n0 v U'.heap L ∧ FrameEnd U o U' L ({ frames := 0, cells := 0, slots := 0, locals := 0 } : Room).cells ({ frames := 0, cells := 0, slots := 0, locals := 0 } : Room).slots) := by
  refine MetFree.of_bodySF (plainFor_of_name pn_com_example_leeway_leeway_lp_BasisInverseSolveTransposedPinLaw) hisR ?_
  intro p e s m args below meth c s₁ Bd hml0 hP hK
  obtain ⟨rfl, hZ, hh⟩ := hP
  have hx := Bd.exec
  have hby := Bd.bytes
  have hml : c.maxLocals = 11 := hml0
  have hown : s.vm.findClass "com/example/leeway/leeway/lp/BasisInverseSolveTransposedPinLaw" = some m.cls := findClass_of_methodNamed Bd.named
  have hnm := (name_of_methodNamed Bd.named Bd.method).1
  have X0 : Stand p l e ({ frames := 0, cells := 0, slots := 0, locals := 0 } : Room) s m #[(.int jj), (.int (2 : Int32)), (.int ra), (.int rb), (.int rc), (.ref s0), (.ref s1), (.ref s2), (.ref s3)] below meth c s₁ [] 0 0 := Stand.of_body Bd
  have e0 : s₁.heap = h0 := by rw [← hh, Bd.state]; rfl
  have N0 := Fr.nil n0
  have pre0 : ∀ t, Steps p.tables e below (s₁.setTop (mkF m 0 #[.val (.int jj), .val (.int (2 : Int32)), .val (.int ra), .val (.int rb), .val (.int rc), .val (.ref s0), .val (.ref s1), .val (.ref s2), .val (.ref s3), .unset, .unset] [])) t → Steps p.tables e below (s₁.setTop (entryFrame m #[(.int jj), (.int (2 : Int32)), (.int ra), (.int rb), (.int rc), (.ref s0), (.ref s1), (.ref s2), (.ref s3)] 11)) t := fun t k => castTop (ef_5_Il_2___Int32_IIIRRRR m jj ra rb rc s0 s1 s2 s3) k
  obtain ⟨cq1, Arq1, -, Sq1, -, Hq1, -⟩ := id V_s0
  obtain ⟨cq2, Arq2, -, Sq2, -, Hq2, -⟩ := id V_s3
  obtain ⟨fs, hr, hrun, hended, hW, hsame⟩ := X0.leave (v := some (.int (1 : Int32))) (fun h => by rw [Bd.returns] at h; cases h)
  refine ⟨_, _, pre0 _ ?_, hrun, hended, _, _, rfl, ?_, ⟨_, rfl⟩, hW, hsame.mono (by decide) (by decide)⟩
  · show Steps p.tables e below (s₁.setTop (mkF m 0 #[.val (.int jj), .val (.int (2 : Int32)), .val (.int ra), .val (.int rb), .val (.int rc), .val (.ref s0), .val (.ref s1), .val (.ref s2), .val (.ref s3), .unset, .unset] [])) _
    refine XS.iloadN X0.here hx rfl (hb hby d5_0) rfl ?_
    refine XS.iconst X0.here hx rfl (hb hby d5_1) ?_
    refine XS.icmpNo X0.here hx rfl (hb hby d5_2) rfl (flt (by decide : ¬ ((2 : Int32) < (1 : Int32)))).1 ?_
    refine XS.iloadN X0.here hx rfl (hb hby d5_5) rfl ?_
    refine XS.iloadN X0.here hx rfl (hb hby d5_6) rfl ?_
    show Steps p.tables e below (s₁.setTop (mkF m 7 #[.val (.int jj), .val (.int (2 : Int32)), .val (.int ra), .val (.int rb), .val (.int rc), .val (.ref s0), .val (.ref s1), .val (.ref s2), .val (.ref s3), .unset, .unset] [(.int ra), (.int jj)])) _
    refine XS.icmpYes X0.here hx rfl (pc0 := 7) (pc' := 44) rfl (hb hby d5_7) rfl (feq hc7).2 (by decide) (by decide) ?_
    refine XS.iloadN X0.here hx rfl (hb hby d5_44) rfl ?_
    refine XS.iconst X0.here hx rfl (hb hby d5_45) ?_
    refine XS.icmpNo X0.here hx rfl (hb hby d5_46) rfl (flt (by decide : ¬ ((2 : Int32) < (2 : Int32)))).1 ?_
    refine XS.iloadN X0.here hx rfl (hb hby d5_49) rfl ?_
    refine XS.iloadN X0.here hx rfl (hb hby d5_50) rfl ?_
    show Steps p.tables e below (s₁.setTop (mkF m 51 #[.val (.int jj), .val (.int (2 : Int32)), .val (.int ra), .val (.int rb), .val (.int rc), .val (.ref s0), .val (.ref s1), .val (.ref s2), .val (.ref s3), .unset, .unset] [(.int rb), (.int jj)])) _
    refine XS.icmpYes X0.here hx rfl (pc0 := 51) (pc' := 79) rfl (hb hby d5_51) rfl (feq hc51).2 (by decide) (by decide) ?_
    refine XS.aload X0.here hx rfl (hb hby d5_79) rfl rfl ?_
    refine XS.iloadN X0.here hx rfl (hb hby d5_81) rfl ?_
    refine X0.daload hx (j := jj) (v := (.double yj)) (by rw [e0]; exact Arq1.1) (State.isArrayOf_alike hZ.alike Arq1.2.1) Arq1.2.2 (inb_of Sq1 hjj) (Has.at Hq1 (inb_of Sq1 hjj) hyj) (g := (mkF m 82 #[.val (.int jj), .val (.int (2 : Int32)), .val (.int ra), .val (.int rb), .val (.int rc), .val (.ref s0), .val (.ref s1), .val (.ref s2), .val (.ref s3), .unset, .unset] [(.int jj), (.ref s0)])) rfl rfl (hb hby d5_82) _ ?_
    show Steps p.tables e below (s₁.setTop (mkF m 83 #[.val (.int jj), .val (.int (2 : Int32)), .val (.int ra), .val (.int rb), .val (.int rc), .val (.ref s0), .val (.ref s1), .val (.ref s2), .val (.ref s3), .unset, .unset] [(.double yj)])) _
    refine XS.dstore X0.here hx rfl (hb hby d5_83) rfl (l' := #[.val (.int jj), .val (.int (2 : Int32)), .val (.int ra), .val (.int rb), .val (.int rc), .val (.ref s0), .val (.ref s1), .val (.ref s2), .val (.ref s3), .val (.double yj), .second]) rfl ?_
    refine XS.dload X0.here hx rfl (hb hby d5_85) rfl ?_
    show Steps p.tables e below (s₁.setTop (mkF m 87 #[.val (.int jj), .val (.int (2 : Int32)), .val (.int ra), .val (.int rb), .val (.int rc), .val (.ref s0), .val (.ref s1), .val (.ref s2), .val (.ref s3), .val (.double yj), .second] [(.double yj)])) _
    refine XS.aload X0.here hx rfl (hb hby d5_87) rfl rfl ?_
    refine XS.iloadN X0.here hx rfl (hb hby d5_89) rfl ?_
    refine X0.daload hx (j := jj) (v := (.double cj)) (by rw [e0]; exact Arq2.1) (State.isArrayOf_alike hZ.alike Arq2.2.1) Arq2.2.2 (inb_of Sq2 hjj) (Has.at Hq2 (inb_of Sq2 hjj) hcj) (g := (mkF m 90 #[.val (.int jj), .val (.int (2 : Int32)), .val (.int ra), .val (.int rb), .val (.int rc), .val (.ref s0), .val (.ref s1), .val (.ref s2), .val (.ref s3), .val (.double yj), .second] [(.int jj), (.ref s3), (.double yj)])) rfl rfl (hb hby d5_90) _ ?_
    show Steps p.tables e below (s₁.setTop (mkF m 91 #[.val (.int jj), .val (.int (2 : Int32)), .val (.int ra), .val (.int rb), .val (.int rc), .val (.ref s0), .val (.ref s1), .val (.ref s2), .val (.ref s3), .val (.double yj), .second] [(.double cj), (.double yj)])) _
    refine XS.dcmpS X0.here hx rfl (hb hby d5_91) rfl (v := (0 : Int32)) hd91 ?_
    refine XS.ifNo X0.here hx rfl (hb hby d5_92) rfl ((if0 _ _).trans (teq (by decide : (0 : Int32) = (0 : Int32))).2) ?_
    refine XS.iconst X0.here hx rfl (hb hby d5_95) ?_
    show Steps p.tables e below (s₁.setTop (mkF m 96 #[.val (.int jj), .val (.int (2 : Int32)), .val (.int ra), .val (.int rb), .val (.int rc), .val (.ref s0), .val (.ref s1), .val (.ref s2), .val (.ref s3), .val (.double yj), .second] [(.int (1 : Int32))])) _
    refine XS.goto X0.here hx rfl (pc0 := 96) (pc' := 100) rfl (hb hby d5_96) (by decide) (by decide) ?_
    exact retN X0 hx (t := .boolean) Bd.returns (by simp) (hb hby d5_100) hr
  · show Q_cC2 Z jj ra rb rc s0 s1 s2 s3 k0 k1 k2 k3 y0 y1 y2 v0 v1 v2 c0 c1 c2 w0 w1 cj yj yb yc h0 n0 _ s₁.heap _
    rw [e0]
    exact ⟨rfl, N0, rfl⟩
theorem d5_54 : decode method_4_code 54 = .ok (.aload 5, 2) := by decide +kernel
theorem d5_56 : decode method_4_code 56 = .ok (.iload_n 3, 1) := by decide +kernel
theorem d5_57 : decode method_4_code 57 = .ok (.daload, 1) := by decide +kernel
theorem d5_58 : decode method_4_code 58 = .ok (.aload 7, 2) := by decide +kernel
theorem d5_60 : decode method_4_code 60 = .ok (.iconst 0, 1) := by decide +kernel
theorem d5_61 : decode method_4_code 61 = .ok (.daload, 1) := by decide +kernel
theorem d5_62 : decode method_4_code 62 = .ok (.dmul, 1) := by decide +kernel
theorem d5_63 : decode method_4_code 63 = .ok (.aload 5, 2) := by decide +kernel
theorem d5_65 : decode method_4_code 65 = .ok (.iload 4, 2) := by decide +kernel
theorem d5_67 : decode method_4_code 67 = .ok (.daload, 1) := by decide +kernel
theorem d5_68 : decode method_4_code 68 = .ok (.aload 7, 2) := by decide +kernel
theorem d5_70 : decode method_4_code 70 = .ok (.iconst 1, 1) := by decide +kernel
theorem d5_71 : decode method_4_code 71 = .ok (.daload, 1) := by decide +kernel
theorem d5_72 : decode method_4_code 72 = .ok (.dmul, 1) := by decide +kernel
theorem d5_73 : decode method_4_code 73 = .ok (.dadd, 1) := by decide +kernel
theorem d5_74 : decode method_4_code 74 = .ok (.dstore 9, 2) := by decide +kernel
theorem d5_76 : decode method_4_code 76 = .ok (.goto 9, 3) := by decide +kernel
def Q_cB (Z : State) (jj : Int32) (ra : Int32) (rb : Int32) (rc : Int32) (s0 : Addr) (s1 : Addr) (s2 : Addr) (s3 : Addr) (k0 : ClassId) (k1 : ClassId) (k2 : ClassId) (k3 : ClassId) (y0 : UInt64) (y1 : UInt64) (y2 : UInt64) (v0 : UInt64) (v1 : UInt64) (v2 : UInt64) (c0 : UInt64) (c1 : UInt64) (c2 : UInt64) (w0 : UInt64) (w1 : UInt64) (cj : UInt64) (yj : UInt64) (yb : UInt64) (yc : UInt64) (h0 : Heap) (n0 : Nat) (v : Option Value) (h : Heap) (L : List Loc) : Prop := v = some (.int (1 : Int32)) ∧ Fr n0 L ∧ h = h0
set_option maxRecDepth 65536 in
set_option maxHeartbeats 40000000 in
theorem cB (l : Launch) (Z : State) (a0 : Array Value) (hw : ∀ d ∈ tables_1, d.before a0 Z = true) (ws : List Jvm.Cond) (jj : Int32) (ra : Int32) (rb : Int32) (rc : Int32) (s0 : Addr) (s1 : Addr) (s2 : Addr) (s3 : Addr) (k0 : ClassId) (k1 : ClassId) (k2 : ClassId) (k3 : ClassId) (y0 : UInt64) (y1 : UInt64) (y2 : UInt64) (v0 : UInt64) (v1 : UInt64) (v2 : UInt64) (c0 : UInt64) (c1 : UInt64) (c2 : UInt64) (w0 : UInt64) (w1 : UInt64) (cj : UInt64) (yj : UInt64) (yb : UInt64) (yc : UInt64) (h0 : Heap) (n0 : Nat) (Z0 : n0 ≤ h0.size) (V_s0 : Arv Z h0 s0 k0 .double (3 : Int32) [(.double y0), (.double y1), (.double y2)] (.double (0 : UInt64))) (V_s1 : Arv Z h0 s1 k1 .double (3 : Int32) [(.double v0), (.double v1), (.double v2)] (.double (0 : UInt64))) (V_s3 : Arv Z h0 s3 k3 .double (3 : Int32) [(.double c0), (.double c1), (.double c2)] (.double (0 : UInt64))) (V_s2 : Arv Z h0 s2 k2 .double (2 : Int32) [(.double w0), (.double w1)] (.double (0 : UInt64))) (hjj : ¬ jj < 0 ∧ jj < (3 : Int32)) (hcj : ([(.double c0), (.double c1), (.double c2)] : List Value).getD jj.toNatClampNeg (.double (0 : UInt64)) = .double cj) (hn_rb : ¬ rb < 0 ∧ rb < (3 : Int32)) (hyb : ([(.double y0), (.double y1), (.double y2)] : List Value).getD rb.toNatClampNeg (.double (0 : UInt64)) = .double yb) (hn_rc : ¬ rc < 0 ∧ rc < (3 : Int32)) (hyc : ([(.double y0), (.double y1), (.double y2)] : List Value).getD rc.toNatClampNeg (.double (0 : UInt64)) = .double yc) (hc7 : ¬ (jj = ra)) (hc51 : jj = rb) (nn62 : Jvm.Free.Fl.NoNaN64 (FP.dmul yb w0)) (nn72 : Jvm.Free.Fl.NoNaN64 (FP.dmul yc w1)) (nn73 : Jvm.Free.Fl.NoNaN64 (FP.dadd (FP.dmul yb w0) (FP.dmul yc w1))) (hd91 : (cmpValue (FP.dcmp (FP.dadd (FP.dmul yb w0) (FP.dmul yc w1)) cj) .l) = (0 : Int32)) :
    MetFree l (⟨"com/example/leeway/leeway/lp/BasisInverseSolveTransposedPinLaw", "column", "(IIIII[D[D[D[D)Z"⟩ : MethodName) (head1 (Jvm.Cond.code (⟨"com/example/leeway/leeway/lp/BasisInverseSolveTransposedPinLaw", "column", "(IIIII[D[D[D[D)Z"⟩ : MethodName) method_4_code 11 (some .boolean) :: ws) ({ frames := 0, cells := 0, slots := 0, locals := 0 } : Room)) (fun a U => a = #[(.int jj), (.int (2 : Int32)), (.int ra), (.int rb), (.int rc), (.ref s0), (.ref s1), (.ref s2), (.ref s3)] ∧ Z.Warmed39 U.vm ∧ U.heap = h0) (fun _ _ _ _ _ => True) (fun _ U o U' => ∃ v L, o = .returned v ∧ Q_cB Z jj ra rb rc s0 s1 s2 s3 k0 k1 k2 k3 y0 y1 y2 v0 v1 v2 c0 c1 c2 w0 w1 cj yj yb yc h0 n0 v U'.heap L ∧ FrameEnd U o U' L ({ frames := 0, cells := 0, slots := 0, locals := 0 } : Room).cells ({ frames := 0, cells := 0, slots := 0, locals := 0 } : Room).slots) := by
  refine MetFree.of_bodySF (plainFor_of_name pn_com_example_leeway_leeway_lp_BasisInverseSolveTransposedPinLaw) hisR ?_
  intro p e s m args below meth c s₁ Bd hml0 hP hK
  obtain ⟨rfl, hZ, hh⟩ := hP
  have hx := Bd.exec
  have hby := Bd.bytes
  have hml : c.maxLocals = 11 := hml0
  have hown : s.vm.findClass "com/example/leeway/leeway/lp/BasisInverseSolveTransposedPinLaw" = some m.cls := findClass_of_methodNamed Bd.named
  have hnm := (name_of_methodNamed Bd.named Bd.method).1
  have X0 : Stand p l e ({ frames := 0, cells := 0, slots := 0, locals := 0 } : Room) s m #[(.int jj), (.int (2 : Int32)), (.int ra), (.int rb), (.int rc), (.ref s0), (.ref s1), (.ref s2), (.ref s3)] below meth c s₁ [] 0 0 := Stand.of_body Bd
  have e0 : s₁.heap = h0 := by rw [← hh, Bd.state]; rfl
  have N0 := Fr.nil n0
  have pre0 : ∀ t, Steps p.tables e below (s₁.setTop (mkF m 0 #[.val (.int jj), .val (.int (2 : Int32)), .val (.int ra), .val (.int rb), .val (.int rc), .val (.ref s0), .val (.ref s1), .val (.ref s2), .val (.ref s3), .unset, .unset] [])) t → Steps p.tables e below (s₁.setTop (entryFrame m #[(.int jj), (.int (2 : Int32)), (.int ra), (.int rb), (.int rc), (.ref s0), (.ref s1), (.ref s2), (.ref s3)] 11)) t := fun t k => castTop (ef_5_Il_2___Int32_IIIRRRR m jj ra rb rc s0 s1 s2 s3) k
  obtain ⟨cq1, Arq1, -, Sq1, -, Hq1, -⟩ := id V_s0
  obtain ⟨cq2, Arq2, -, Sq2, -, Hq2, -⟩ := id V_s2
  obtain ⟨cq3, Arq3, -, Sq3, -, Hq3, -⟩ := id V_s0
  obtain ⟨cq4, Arq4, -, Sq4, -, Hq4, -⟩ := id V_s2
  obtain ⟨cq5, Arq5, -, Sq5, -, Hq5, -⟩ := id V_s3
  obtain ⟨fs, hr, hrun, hended, hW, hsame⟩ := X0.leave (v := some (.int (1 : Int32))) (fun h => by rw [Bd.returns] at h; cases h)
  refine ⟨_, _, pre0 _ ?_, hrun, hended, _, _, rfl, ?_, ⟨_, rfl⟩, hW, hsame.mono (by decide) (by decide)⟩
  · show Steps p.tables e below (s₁.setTop (mkF m 0 #[.val (.int jj), .val (.int (2 : Int32)), .val (.int ra), .val (.int rb), .val (.int rc), .val (.ref s0), .val (.ref s1), .val (.ref s2), .val (.ref s3), .unset, .unset] [])) _
    refine XS.iloadN X0.here hx rfl (hb hby d5_0) rfl ?_
    refine XS.iconst X0.here hx rfl (hb hby d5_1) ?_
    refine XS.icmpNo X0.here hx rfl (hb hby d5_2) rfl (flt (by decide : ¬ ((2 : Int32) < (1 : Int32)))).1 ?_
    refine XS.iloadN X0.here hx rfl (hb hby d5_5) rfl ?_
    refine XS.iloadN X0.here hx rfl (hb hby d5_6) rfl ?_
    show Steps p.tables e below (s₁.setTop (mkF m 7 #[.val (.int jj), .val (.int (2 : Int32)), .val (.int ra), .val (.int rb), .val (.int rc), .val (.ref s0), .val (.ref s1), .val (.ref s2), .val (.ref s3), .unset, .unset] [(.int ra), (.int jj)])) _
    refine XS.icmpYes X0.here hx rfl (pc0 := 7) (pc' := 44) rfl (hb hby d5_7) rfl (feq hc7).2 (by decide) (by decide) ?_
    refine XS.iloadN X0.here hx rfl (hb hby d5_44) rfl ?_
    refine XS.iconst X0.here hx rfl (hb hby d5_45) ?_
    refine XS.icmpNo X0.here hx rfl (hb hby d5_46) rfl (flt (by decide : ¬ ((2 : Int32) < (2 : Int32)))).1 ?_
    refine XS.iloadN X0.here hx rfl (hb hby d5_49) rfl ?_
    refine XS.iloadN X0.here hx rfl (hb hby d5_50) rfl ?_
    show Steps p.tables e below (s₁.setTop (mkF m 51 #[.val (.int jj), .val (.int (2 : Int32)), .val (.int ra), .val (.int rb), .val (.int rc), .val (.ref s0), .val (.ref s1), .val (.ref s2), .val (.ref s3), .unset, .unset] [(.int rb), (.int jj)])) _
    refine XS.icmpNo X0.here hx rfl (hb hby d5_51) rfl (teq hc51).2 ?_
    refine XS.aload X0.here hx rfl (hb hby d5_54) rfl rfl ?_
    refine XS.iloadN X0.here hx rfl (hb hby d5_56) rfl ?_
    refine X0.daload hx (j := rb) (v := (.double yb)) (by rw [e0]; exact Arq1.1) (State.isArrayOf_alike hZ.alike Arq1.2.1) Arq1.2.2 (inb_of Sq1 hn_rb) (Has.at Hq1 (inb_of Sq1 hn_rb) hyb) (g := (mkF m 57 #[.val (.int jj), .val (.int (2 : Int32)), .val (.int ra), .val (.int rb), .val (.int rc), .val (.ref s0), .val (.ref s1), .val (.ref s2), .val (.ref s3), .unset, .unset] [(.int rb), (.ref s0)])) rfl rfl (hb hby d5_57) _ ?_
    show Steps p.tables e below (s₁.setTop (mkF m 58 #[.val (.int jj), .val (.int (2 : Int32)), .val (.int ra), .val (.int rb), .val (.int rc), .val (.ref s0), .val (.ref s1), .val (.ref s2), .val (.ref s3), .unset, .unset] [(.double yb)])) _
    refine XS.aload X0.here hx rfl (hb hby d5_58) rfl rfl ?_
    refine XS.iconst X0.here hx rfl (hb hby d5_60) ?_
    show Steps p.tables e below (s₁.setTop (mkF m 61 #[.val (.int jj), .val (.int (2 : Int32)), .val (.int ra), .val (.int rb), .val (.int rc), .val (.ref s0), .val (.ref s1), .val (.ref s2), .val (.ref s3), .unset, .unset] [(.int (0 : Int32)), (.ref s2), (.double yb)])) _
    refine X0.daload hx (j := (0 : Int32)) (v := (.double w0)) (by rw [e0]; exact Arq2.1) (State.isArrayOf_alike hZ.alike Arq2.2.1) Arq2.2.2 (inb_of Sq2 ⟨by decide, by decide⟩) (Has.at Hq2 (inb_of Sq2 ⟨by decide, by decide⟩) rfl) (g := (mkF m 61 #[.val (.int jj), .val (.int (2 : Int32)), .val (.int ra), .val (.int rb), .val (.int rc), .val (.ref s0), .val (.ref s1), .val (.ref s2), .val (.ref s3), .unset, .unset] [(.int (0 : Int32)), (.ref s2), (.double yb)])) rfl rfl (hb hby d5_61) _ ?_
    show Steps p.tables e below (s₁.setTop (mkF m 62 #[.val (.int jj), .val (.int (2 : Int32)), .val (.int ra), .val (.int rb), .val (.int rc), .val (.ref s0), .val (.ref s1), .val (.ref s2), .val (.ref s3), .unset, .unset] [(.double w0), (.double yb)])) _
    refine XS.dmulS X0.here hx rfl (hb hby d5_62) rfl nn62 (v := (FP.dmul yb w0)) rfl ?_
    refine XS.aload X0.here hx rfl (hb hby d5_63) rfl rfl ?_
    refine XS.iload X0.here hx rfl (hb hby d5_65) rfl ?_
    refine X0.daload hx (j := rc) (v := (.double yc)) (by rw [e0]; exact Arq3.1) (State.isArrayOf_alike hZ.alike Arq3.2.1) Arq3.2.2 (inb_of Sq3 hn_rc) (Has.at Hq3 (inb_of Sq3 hn_rc) hyc) (g := (mkF m 67 #[.val (.int jj), .val (.int (2 : Int32)), .val (.int ra), .val (.int rb), .val (.int rc), .val (.ref s0), .val (.ref s1), .val (.ref s2), .val (.ref s3), .unset, .unset] [(.int rc), (.ref s0), (.double (FP.dmul yb w0))])) rfl rfl (hb hby d5_67) _ ?_
    show Steps p.tables e below (s₁.setTop (mkF m 68 #[.val (.int jj), .val (.int (2 : Int32)), .val (.int ra), .val (.int rb), .val (.int rc), .val (.ref s0), .val (.ref s1), .val (.ref s2), .val (.ref s3), .unset, .unset] [(.double yc), (.double (FP.dmul yb w0))])) _
    refine XS.aload X0.here hx rfl (hb hby d5_68) rfl rfl ?_
    show Steps p.tables e below (s₁.setTop (mkF m 70 #[.val (.int jj), .val (.int (2 : Int32)), .val (.int ra), .val (.int rb), .val (.int rc), .val (.ref s0), .val (.ref s1), .val (.ref s2), .val (.ref s3), .unset, .unset] [(.ref s2), (.double yc), (.double (FP.dmul yb w0))])) _
    refine XS.iconst X0.here hx rfl (hb hby d5_70) ?_
    refine X0.daload hx (j := (1 : Int32)) (v := (.double w1)) (by rw [e0]; exact Arq4.1) (State.isArrayOf_alike hZ.alike Arq4.2.1) Arq4.2.2 (inb_of Sq4 ⟨by decide, by decide⟩) (Has.at Hq4 (inb_of Sq4 ⟨by decide, by decide⟩) rfl) (g := (mkF m 71 #[.val (.int jj), .val (.int (2 : Int32)), .val (.int ra), .val (.int rb), .val (.int rc), .val (.ref s0), .val (.ref s1), .val (.ref s2), .val (.ref s3), .unset, .unset] [(.int (1 : Int32)), (.ref s2), (.double yc), (.double (FP.dmul yb w0))])) rfl rfl (hb hby d5_71) _ ?_
    show Steps p.tables e below (s₁.setTop (mkF m 72 #[.val (.int jj), .val (.int (2 : Int32)), .val (.int ra), .val (.int rb), .val (.int rc), .val (.ref s0), .val (.ref s1), .val (.ref s2), .val (.ref s3), .unset, .unset] [(.double w1), (.double yc), (.double (FP.dmul yb w0))])) _
    refine XS.dmulS X0.here hx rfl (hb hby d5_72) rfl nn72 (v := (FP.dmul yc w1)) rfl ?_
    refine XS.daddS X0.here hx rfl (hb hby d5_73) rfl nn73 (v := (FP.dadd (FP.dmul yb w0) (FP.dmul yc w1))) rfl ?_
    refine XS.dstore X0.here hx rfl (hb hby d5_74) rfl (l' := #[.val (.int jj), .val (.int (2 : Int32)), .val (.int ra), .val (.int rb), .val (.int rc), .val (.ref s0), .val (.ref s1), .val (.ref s2), .val (.ref s3), .val (.double (FP.dadd (FP.dmul yb w0) (FP.dmul yc w1))), .second]) rfl ?_
    refine XS.goto X0.here hx rfl (pc0 := 76) (pc' := 85) rfl (hb hby d5_76) (by decide) (by decide) ?_
    show Steps p.tables e below (s₁.setTop (mkF m 85 #[.val (.int jj), .val (.int (2 : Int32)), .val (.int ra), .val (.int rb), .val (.int rc), .val (.ref s0), .val (.ref s1), .val (.ref s2), .val (.ref s3), .val (.double (FP.dadd (FP.dmul yb w0) (FP.dmul yc w1))), .second] [])) _
    refine XS.dload X0.here hx rfl (hb hby d5_85) rfl ?_
    refine XS.aload X0.here hx rfl (hb hby d5_87) rfl rfl ?_
    refine XS.iloadN X0.here hx rfl (hb hby d5_89) rfl ?_
    refine X0.daload hx (j := jj) (v := (.double cj)) (by rw [e0]; exact Arq5.1) (State.isArrayOf_alike hZ.alike Arq5.2.1) Arq5.2.2 (inb_of Sq5 hjj) (Has.at Hq5 (inb_of Sq5 hjj) hcj) (g := (mkF m 90 #[.val (.int jj), .val (.int (2 : Int32)), .val (.int ra), .val (.int rb), .val (.int rc), .val (.ref s0), .val (.ref s1), .val (.ref s2), .val (.ref s3), .val (.double (FP.dadd (FP.dmul yb w0) (FP.dmul yc w1))), .second] [(.int jj), (.ref s3), (.double (FP.dadd (FP.dmul yb w0) (FP.dmul yc w1)))])) rfl rfl (hb hby d5_90) _ ?_
    show Steps p.tables e below (s₁.setTop (mkF m 91 #[.val (.int jj), .val (.int (2 : Int32)), .val (.int ra), .val (.int rb), .val (.int rc), .val (.ref s0), .val (.ref s1), .val (.ref s2), .val (.ref s3), .val (.double (FP.dadd (FP.dmul yb w0) (FP.dmul yc w1))), .second] [(.double cj), (.double (FP.dadd (FP.dmul yb w0) (FP.dmul yc w1)))])) _
    refine XS.dcmpS X0.here hx rfl (hb hby d5_91) rfl (v := (0 : Int32)) hd91 ?_
    refine XS.ifNo X0.here hx rfl (hb hby d5_92) rfl ((if0 _ _).trans (teq (by decide : (0 : Int32) = (0 : Int32))).2) ?_
    show Steps p.tables e below (s₁.setTop (mkF m 95 #[.val (.int jj), .val (.int (2 : Int32)), .val (.int ra), .val (.int rb), .val (.int rc), .val (.ref s0), .val (.ref s1), .val (.ref s2), .val (.ref s3), .val (.double (FP.dadd (FP.dmul yb w0) (FP.dmul yc w1))), .second] [])) _
    refine XS.iconst X0.here hx rfl (hb hby d5_95) ?_
    refine XS.goto X0.here hx rfl (pc0 := 96) (pc' := 100) rfl (hb hby d5_96) (by decide) (by decide) ?_
    exact retN X0 hx (t := .boolean) Bd.returns (by simp) (hb hby d5_100) hr
  · show Q_cB Z jj ra rb rc s0 s1 s2 s3 k0 k1 k2 k3 y0 y1 y2 v0 v1 v2 c0 c1 c2 w0 w1 cj yj yb yc h0 n0 _ s₁.heap _
    rw [e0]
    exact ⟨rfl, N0, rfl⟩
def Q_col1 (Z : State) (jj : Int32) (ra : Int32) (rb : Int32) (rc : Int32) (s0 : Addr) (s1 : Addr) (s2 : Addr) (s3 : Addr) (k0 : ClassId) (k1 : ClassId) (k2 : ClassId) (k3 : ClassId) (y0 : UInt64) (y1 : UInt64) (y2 : UInt64) (v0 : UInt64) (v1 : UInt64) (v2 : UInt64) (c0 : UInt64) (c1 : UInt64) (c2 : UInt64) (w0 : UInt64) (w1 : UInt64) (cj : UInt64) (yj : UInt64) (yb : UInt64) (yc : UInt64) (h0 : Heap) (n0 : Nat) (v : Option Value) (h : Heap) (L : List Loc) : Prop := v = some (.int (1 : Int32)) ∧ Fr n0 L ∧ h = h0
theorem col1 (l : Launch) (Z : State) (a0 : Array Value) (hw : ∀ d ∈ tables_1, d.before a0 Z = true) (ws : List Jvm.Cond) (jj : Int32) (ra : Int32) (rb : Int32) (rc : Int32) (s0 : Addr) (s1 : Addr) (s2 : Addr) (s3 : Addr) (k0 : ClassId) (k1 : ClassId) (k2 : ClassId) (k3 : ClassId) (y0 : UInt64) (y1 : UInt64) (y2 : UInt64) (v0 : UInt64) (v1 : UInt64) (v2 : UInt64) (c0 : UInt64) (c1 : UInt64) (c2 : UInt64) (w0 : UInt64) (w1 : UInt64) (cj : UInt64) (yj : UInt64) (yb : UInt64) (yc : UInt64) (h0 : Heap) (n0 : Nat) (Z0 : n0 ≤ h0.size) (V_s0 : Arv Z h0 s0 k0 .double (3 : Int32) [(.double y0), (.double y1), (.double y2)] (.double (0 : UInt64))) (V_s1 : Arv Z h0 s1 k1 .double (3 : Int32) [(.double v0), (.double v1), (.double v2)] (.double (0 : UInt64))) (V_s3 : Arv Z h0 s3 k3 .double (3 : Int32) [(.double c0), (.double c1), (.double c2)] (.double (0 : UInt64))) (V_s2 : Arv Z h0 s2 k2 .double (2 : Int32) [(.double w0), (.double w1)] (.double (0 : UInt64))) (hjj : ¬ jj < 0 ∧ jj < (3 : Int32)) (hcj : ([(.double c0), (.double c1), (.double c2)] : List Value).getD jj.toNatClampNeg (.double (0 : UInt64)) = .double cj) (hcase : ((jj = ra) ∧ (Jvm.Free.Fl.NoNaN64 (FP.dmul y0 v0)) ∧ (Jvm.Free.Fl.NoNaN64 (FP.dmul y1 v1)) ∧ (Jvm.Free.Fl.NoNaN64 (FP.dadd (FP.dmul y0 v0) (FP.dmul y1 v1))) ∧ (Jvm.Free.Fl.NoNaN64 (FP.dmul y2 v2)) ∧ (Jvm.Free.Fl.NoNaN64 (FP.dadd (FP.dadd (FP.dmul y0 v0) (FP.dmul y1 v1)) (FP.dmul y2 v2))) ∧ ((cmpValue (FP.dcmp (FP.dadd (FP.dadd (FP.dmul y0 v0) (FP.dmul y1 v1)) (FP.dmul y2 v2)) cj) .l) = (0 : Int32))) ∨ ((([(.double y0), (.double y1), (.double y2)] : List Value).getD jj.toNatClampNeg (.double (0 : UInt64)) = .double yj) ∧ (¬ (jj = ra)) ∧ ((cmpValue (FP.dcmp yj cj) .l) = (0 : Int32)))) :
    MetFree l (⟨"com/example/leeway/leeway/lp/BasisInverseSolveTransposedPinLaw", "column", "(IIIII[D[D[D[D)Z"⟩ : MethodName) (head1 (Jvm.Cond.code (⟨"com/example/leeway/leeway/lp/BasisInverseSolveTransposedPinLaw", "column", "(IIIII[D[D[D[D)Z"⟩ : MethodName) method_4_code 11 (some .boolean) :: ws) ({ frames := 0, cells := 0, slots := 0, locals := 0 } : Room)) (fun a U => a = #[(.int jj), (.int (1 : Int32)), (.int ra), (.int rb), (.int rc), (.ref s0), (.ref s1), (.ref s2), (.ref s3)] ∧ Z.Warmed39 U.vm ∧ U.heap = h0) (fun _ _ _ _ _ => True) (fun _ U o U' => ∃ v L, o = .returned v ∧ Q_col1 Z jj ra rb rc s0 s1 s2 s3 k0 k1 k2 k3 y0 y1 y2 v0 v1 v2 c0 c1 c2 w0 w1 cj yj yb yc h0 n0 v U'.heap L ∧ FrameEnd U o U' L ({ frames := 0, cells := 0, slots := 0, locals := 0 } : Room).cells ({ frames := 0, cells := 0, slots := 0, locals := 0 } : Room).slots) := by
  rcases hcase with ⟨h_hc7, h_nn18, h_nn27, h_nn28, h_nn37, h_nn38, h_hd91⟩ | ⟨h_hyj, h_hc7, h_hd91⟩
  · exact cA1 l Z a0 hw ws jj ra rb rc s0 s1 s2 s3 k0 k1 k2 k3 y0 y1 y2 v0 v1 v2 c0 c1 c2 w0 w1 cj yj yb yc h0 n0 Z0 (V_s0 := V_s0) (V_s1 := V_s1) (V_s3 := V_s3) (V_s2 := V_s2) (hjj := hjj) (hcj := hcj) (hc7 := h_hc7) (nn18 := h_nn18) (nn27 := h_nn27) (nn28 := h_nn28) (nn37 := h_nn37) (nn38 := h_nn38) (hd91 := h_hd91)
  · exact cC1 l Z a0 hw ws jj ra rb rc s0 s1 s2 s3 k0 k1 k2 k3 y0 y1 y2 v0 v1 v2 c0 c1 c2 w0 w1 cj yj yb yc h0 n0 Z0 (V_s0 := V_s0) (V_s1 := V_s1) (V_s3 := V_s3) (V_s2 := V_s2) (hjj := hjj) (hcj := hcj) (hyj := h_hyj) (hc7 := h_hc7) (hd91 := h_hd91)
def Q_col2 (Z : State) (jj : Int32) (ra : Int32) (rb : Int32) (rc : Int32) (s0 : Addr) (s1 : Addr) (s2 : Addr) (s3 : Addr) (k0 : ClassId) (k1 : ClassId) (k2 : ClassId) (k3 : ClassId) (y0 : UInt64) (y1 : UInt64) (y2 : UInt64) (v0 : UInt64) (v1 : UInt64) (v2 : UInt64) (c0 : UInt64) (c1 : UInt64) (c2 : UInt64) (w0 : UInt64) (w1 : UInt64) (cj : UInt64) (yj : UInt64) (yb : UInt64) (yc : UInt64) (h0 : Heap) (n0 : Nat) (v : Option Value) (h : Heap) (L : List Loc) : Prop := v = some (.int (1 : Int32)) ∧ Fr n0 L ∧ h = h0
theorem col2 (l : Launch) (Z : State) (a0 : Array Value) (hw : ∀ d ∈ tables_1, d.before a0 Z = true) (ws : List Jvm.Cond) (jj : Int32) (ra : Int32) (rb : Int32) (rc : Int32) (s0 : Addr) (s1 : Addr) (s2 : Addr) (s3 : Addr) (k0 : ClassId) (k1 : ClassId) (k2 : ClassId) (k3 : ClassId) (y0 : UInt64) (y1 : UInt64) (y2 : UInt64) (v0 : UInt64) (v1 : UInt64) (v2 : UInt64) (c0 : UInt64) (c1 : UInt64) (c2 : UInt64) (w0 : UInt64) (w1 : UInt64) (cj : UInt64) (yj : UInt64) (yb : UInt64) (yc : UInt64) (h0 : Heap) (n0 : Nat) (Z0 : n0 ≤ h0.size) (V_s0 : Arv Z h0 s0 k0 .double (3 : Int32) [(.double y0), (.double y1), (.double y2)] (.double (0 : UInt64))) (V_s1 : Arv Z h0 s1 k1 .double (3 : Int32) [(.double v0), (.double v1), (.double v2)] (.double (0 : UInt64))) (V_s3 : Arv Z h0 s3 k3 .double (3 : Int32) [(.double c0), (.double c1), (.double c2)] (.double (0 : UInt64))) (V_s2 : Arv Z h0 s2 k2 .double (2 : Int32) [(.double w0), (.double w1)] (.double (0 : UInt64))) (hjj : ¬ jj < 0 ∧ jj < (3 : Int32)) (hcj : ([(.double c0), (.double c1), (.double c2)] : List Value).getD jj.toNatClampNeg (.double (0 : UInt64)) = .double cj) (hcase : ((jj = ra) ∧ (Jvm.Free.Fl.NoNaN64 (FP.dmul y0 v0)) ∧ (Jvm.Free.Fl.NoNaN64 (FP.dmul y1 v1)) ∧ (Jvm.Free.Fl.NoNaN64 (FP.dadd (FP.dmul y0 v0) (FP.dmul y1 v1))) ∧ (Jvm.Free.Fl.NoNaN64 (FP.dmul y2 v2)) ∧ (Jvm.Free.Fl.NoNaN64 (FP.dadd (FP.dadd (FP.dmul y0 v0) (FP.dmul y1 v1)) (FP.dmul y2 v2))) ∧ ((cmpValue (FP.dcmp (FP.dadd (FP.dadd (FP.dmul y0 v0) (FP.dmul y1 v1)) (FP.dmul y2 v2)) cj) .l) = (0 : Int32))) ∨ ((¬ rb < 0 ∧ rb < (3 : Int32)) ∧ (([(.double y0), (.double y1), (.double y2)] : List Value).getD rb.toNatClampNeg (.double (0 : UInt64)) = .double yb) ∧ (¬ rc < 0 ∧ rc < (3 : Int32)) ∧ (([(.double y0), (.double y1), (.double y2)] : List Value).getD rc.toNatClampNeg (.double (0 : UInt64)) = .double yc) ∧ (¬ (jj = ra)) ∧ (jj = rb) ∧ (Jvm.Free.Fl.NoNaN64 (FP.dmul yb w0)) ∧ (Jvm.Free.Fl.NoNaN64 (FP.dmul yc w1)) ∧ (Jvm.Free.Fl.NoNaN64 (FP.dadd (FP.dmul yb w0) (FP.dmul yc w1))) ∧ ((cmpValue (FP.dcmp (FP.dadd (FP.dmul yb w0) (FP.dmul yc w1)) cj) .l) = (0 : Int32))) ∨ ((([(.double y0), (.double y1), (.double y2)] : List Value).getD jj.toNatClampNeg (.double (0 : UInt64)) = .double yj) ∧ (¬ (jj = ra)) ∧ (¬ (jj = rb)) ∧ ((cmpValue (FP.dcmp yj cj) .l) = (0 : Int32)))) :
    MetFree l (⟨"com/example/leeway/leeway/lp/BasisInverseSolveTransposedPinLaw", "column", "(IIIII[D[D[D[D)Z"⟩ : MethodName) (head1 (Jvm.Cond.code (⟨"com/example/leeway/leeway/lp/BasisInverseSolveTransposedPinLaw", "column", "(IIIII[D[D[D[D)Z"⟩ : MethodName) method_4_code 11 (some .boolean) :: ws) ({ frames := 0, cells := 0, slots := 0, locals := 0 } : Room)) (fun a U => a = #[(.int jj), (.int (2 : Int32)), (.int ra), (.int rb), (.int rc), (.ref s0), (.ref s1), (.ref s2), (.ref s3)] ∧ Z.Warmed39 U.vm ∧ U.heap = h0) (fun _ _ _ _ _ => True) (fun _ U o U' => ∃ v L, o = .returned v ∧ Q_col2 Z jj ra rb rc s0 s1 s2 s3 k0 k1 k2 k3 y0 y1 y2 v0 v1 v2 c0 c1 c2 w0 w1 cj yj yb yc h0 n0 v U'.heap L ∧ FrameEnd U o U' L ({ frames := 0, cells := 0, slots := 0, locals := 0 } : Room).cells ({ frames := 0, cells := 0, slots := 0, locals := 0 } : Room).slots) := by
  rcases hcase with ⟨h_hc7, h_nn18, h_nn27, h_nn28, h_nn37, h_nn38, h_hd91⟩ | ⟨h_hn_rb, h_hyb, h_hn_rc, h_hyc, h_hc7, h_hc51, h_nn62, h_nn72, h_nn73, h_hd91⟩ | ⟨h_hyj, h_hc7, h_hc51, h_hd91⟩
  · exact cA2 l Z a0 hw ws jj ra rb rc s0 s1 s2 s3 k0 k1 k2 k3 y0 y1 y2 v0 v1 v2 c0 c1 c2 w0 w1 cj yj yb yc h0 n0 Z0 (V_s0 := V_s0) (V_s1 := V_s1) (V_s3 := V_s3) (V_s2 := V_s2) (hjj := hjj) (hcj := hcj) (hc7 := h_hc7) (nn18 := h_nn18) (nn27 := h_nn27) (nn28 := h_nn28) (nn37 := h_nn37) (nn38 := h_nn38) (hd91 := h_hd91)
  · exact cB l Z a0 hw ws jj ra rb rc s0 s1 s2 s3 k0 k1 k2 k3 y0 y1 y2 v0 v1 v2 c0 c1 c2 w0 w1 cj yj yb yc h0 n0 Z0 (V_s0 := V_s0) (V_s1 := V_s1) (V_s3 := V_s3) (V_s2 := V_s2) (hjj := hjj) (hcj := hcj) (hn_rb := h_hn_rb) (hyb := h_hyb) (hn_rc := h_hn_rc) (hyc := h_hyc) (hc7 := h_hc7) (hc51 := h_hc51) (nn62 := h_nn62) (nn72 := h_nn72) (nn73 := h_nn73) (hd91 := h_hd91)
  · exact cC2 l Z a0 hw ws jj ra rb rc s0 s1 s2 s3 k0 k1 k2 k3 y0 y1 y2 v0 v1 v2 c0 c1 c2 w0 w1 cj yj yb yc h0 n0 Z0 (V_s0 := V_s0) (V_s1 := V_s1) (V_s3 := V_s3) (V_s2 := V_s2) (hjj := hjj) (hcj := hcj) (hyj := h_hyj) (hc7 := h_hc7) (hc51 := h_hc51) (hd91 := h_hd91)
theorem pd_2 : parseMethodDescriptor "(I)D" = some ⟨[.int], some .double⟩ := by decide +kernel
theorem pd_3 : parseMethodDescriptor "()V" = some ⟨[], none⟩ := by decide +kernel
theorem pd_4 : parseMethodDescriptor "([D)V" = some ⟨[(.array .double)], none⟩ := by decide +kernel
theorem pd_5 : parseMethodDescriptor "(IIIII[D[D[D[D)Z" = some ⟨[.int, .int, .int, .int, .int, (.array .double), (.array .double), (.array .double), (.array .double)], some .boolean⟩ := by decide +kernel
theorem ef_0_IIIII (m : MethodId) (x0 : Int32) (x1 : Int32) (x2 : Int32) (x3 : Int32) (x4 : Int32) : entryFrame m #[(.int x0), (.int x1), (.int x2), (.int x3), (.int x4)] maxLocals = mkF m 0 #[.val (.int x0), .val (.int x1), .val (.int x2), .val (.int x3), .val (.int x4), .unset, .unset, .unset, .unset, .unset, .unset, .unset, .unset, .unset, .unset, .unset, .unset, .unset, .unset, .unset] [] := by first | (simp [entryFrame, mkF, argsToLocals, Value.category, maxLocals]; done) | rfl
def Q0 (n0 : Nat) (v : Option Value) (h : Heap) (L : List Loc) : Prop := v = some (.int (1 : Int32)) ∧ Fr n0 L
set_option maxRecDepth 65536 in
set_option maxHeartbeats 40000000 in
theorem rm0 (l : Launch) (Z : State) (a0 : Array Value) (hw : ∀ d ∈ tables_1, d.before a0 Z = true) (ws : List Jvm.Cond) (p0 : Int32) (p1 : Int32) (p2 : Int32) (p3 : Int32) (p4 : Int32) (d1 : UInt64) (d2 : UInt64) (v0 : UInt64) (v1 : UInt64) (v2 : UInt64) (yj0 : UInt64) (yj1 : UInt64) (yj2 : UInt64) (yb : UInt64) (yc : UInt64) (ra : Int32) (u0 : Int32) (u1 : Int32) (u2 : Int32) (rb : Int32) (rc : Int32) (pa : Int32) (pb : Int32) (u3 : Int32) (h0 : Heap) (n0 : Nat) (Z0 : n0 ≤ h0.size) (hl_ra : ra.toNatClampNeg < 3) (hn_ra : ¬ ra < 0 ∧ ra < (3 : Int32)) (hvv : (([(.double (FP.i2d u0)), (.double (FP.i2d u1)), (.double (FP.i2d u2))] : List Value).set ra.toNatClampNeg (.double d1)) = [(.double v0), (.double v1), (.double v2)]) (hv6 : (((p4.toUInt32 >>> ((24 : Int32) &&& 31).toUInt32).toInt32) % (3 : Int32)) = ra) (hv21 : (((ra + (1 : Int32)) + (((p4.toUInt32 >>> ((2 : Int32) &&& 31).toUInt32).toInt32) &&& (1 : Int32))) % (3 : Int32)) = rb) (hv30 : (((3 : Int32) - ra) - rb) = rc) (hv40 : ((((p4.toUInt32 >>> ((3 : Int32) &&& 31).toUInt32).toInt32) &&& (3 : Int32)) % (3 : Int32)) = (0 : Int32)) (hv48 : (((p4.toUInt32 >>> ((5 : Int32) &&& 31).toUInt32).toInt32) &&& (3 : Int32)) = pa) (hpw_49 : own_pv pa = d1) (hv60 : (((p4.toUInt32 >>> ((7 : Int32) &&& 31).toUInt32).toInt32) &&& (3 : Int32)) = pb) (hpw_61 : own_pv pb = d2) (hv72 : (p3.toInt8.toInt32) = u0) (hv81 : ((p3 >>> ((8 : Int32) &&& 31)).toInt8.toInt32) = u1) (hv90 : ((p3 >>> ((16 : Int32) &&& 31)).toInt8.toInt32) = u2) (hv148 : ((p3 >>> ((24 : Int32) &&& 31)).toInt8.toInt32) = u3) (hjj_260 : ¬ (0 : Int32) < 0 ∧ (0 : Int32) < (3 : Int32)) (hcj_260 : ([(.double (FP.i2d p0)), (.double (FP.i2d p1)), (.double (FP.i2d p2))] : List Value).getD (0 : Int32).toNatClampNeg (.double (0 : UInt64)) = .double (FP.i2d p0)) (hyj_260 : ([(.double (FP.i2d p0)), (.double (FP.i2d p1)), (.double (FP.i2d p2))] : List Value).getD (0 : Int32).toNatClampNeg (.double (0 : UInt64)) = .double yj0) (hd91_260 : (cmpValue (FP.dcmp yj0 (FP.i2d p0)) .l) = (0 : Int32)) (hjj_283 : ¬ (1 : Int32) < 0 ∧ (1 : Int32) < (3 : Int32)) (hcj_283 : ([(.double (FP.i2d p0)), (.double (FP.i2d p1)), (.double (FP.i2d p2))] : List Value).getD (1 : Int32).toNatClampNeg (.double (0 : UInt64)) = .double (FP.i2d p1)) (hyj_283 : ([(.double (FP.i2d p0)), (.double (FP.i2d p1)), (.double (FP.i2d p2))] : List Value).getD (1 : Int32).toNatClampNeg (.double (0 : UInt64)) = .double yj1) (hd91_283 : (cmpValue (FP.dcmp yj1 (FP.i2d p1)) .l) = (0 : Int32)) (hjj_306 : ¬ (2 : Int32) < 0 ∧ (2 : Int32) < (3 : Int32)) (hcj_306 : ([(.double (FP.i2d p0)), (.double (FP.i2d p1)), (.double (FP.i2d p2))] : List Value).getD (2 : Int32).toNatClampNeg (.double (0 : UInt64)) = .double (FP.i2d p2)) (hyj_306 : ([(.double (FP.i2d p0)), (.double (FP.i2d p1)), (.double (FP.i2d p2))] : List Value).getD (2 : Int32).toNatClampNeg (.double (0 : UInt64)) = .double yj2) (hd91_306 : (cmpValue (FP.dcmp yj2 (FP.i2d p2)) .l) = (0 : Int32)) :
    MetFree l x (head1 (Jvm.Cond.code x code maxLocals ret :: ws) room_1) (fun a U => a = #[(.int p0), (.int p1), (.int p2), (.int p3), (.int p4)] ∧ Z.Warmed39 U.vm ∧ U.heap = h0) (fun _ _ _ _ _ => True) (fun _ U o U' => ∃ v L, o = .returned v ∧ Q0 n0 v U'.heap L ∧ FrameEnd U o U' L room_1.cells room_1.slots) := by
  refine MetFree.of_bodySF (plainFor_of_name pn_com_example_leeway_leeway_lp_BasisInverseSolveTransposedPinLaw) hisR ?_
  intro p e s m args below meth c s₁ Bd hml0 hP hK
  obtain ⟨rfl, hZ, hh⟩ := hP
  have hx := Bd.exec
  have hby := Bd.bytes
  have hml : c.maxLocals = 20 := hml0
  have hown : s.vm.findClass "com/example/leeway/leeway/lp/BasisInverseSolveTransposedPinLaw" = some m.cls := findClass_of_methodNamed Bd.named
  have hnm := (name_of_methodNamed Bd.named Bd.method).1
  have X0 : Stand p l e room_1 s m #[(.int p0), (.int p1), (.int p2), (.int p3), (.int p4)] below meth c s₁ [] 0 0 := Stand.of_body Bd
  have e0 : s₁.heap = h0 := by rw [← hh, Bd.state]; rfl
  have N0 := Fr.nil n0
  have pre0 : ∀ t, Steps p.tables e below (s₁.setTop (mkF m 0 #[.val (.int p0), .val (.int p1), .val (.int p2), .val (.int p3), .val (.int p4), .unset, .unset, .unset, .unset, .unset, .unset, .unset, .unset, .unset, .unset, .unset, .unset, .unset, .unset, .unset] [])) t → Steps p.tables e below (s₁.setTop (entryFrame m #[(.int p0), (.int p1), (.int p2), (.int p3), (.int p4)] maxLocals)) t := fun t k => castTop (ef_0_IIIII m p0 p1 p2 p3 p4) k
  obtain ⟨_, _, ⟨T1, L1, k1, n1⟩, -, X1, ⟨Lc1, hQ1, lq1, yq1, zq1⟩, st1⟩ := Jvm.LawKit.callS X0 hx (y := (⟨"com/example/leeway/leeway/lp/BasisInverseSolveTransposedPinLaw", "pivot", "(I)D"⟩ : MethodName)) hown (mvT hZ (hw _ (List.mem_of_getElem? (i := 0) rfl))) (mvT hZ (hw _ (List.mem_of_getElem? (i := 1) rfl))) (mvT hZ (hw _ (List.mem_of_getElem? (i := 2) rfl))) (mvT hZ (hw _ (List.mem_of_getElem? (i := 3) rfl))) (by decide) (backOf (W := 0) (piv l Z a0 hw [] pa d1 h0 n0 Z0 hpw_49) hZ (hw _ (List.mem_of_getElem? (i := 3) rfl)) (hw _ (List.mem_of_getElem? (i := 2) rfl)) (by decide) (by decide)) (g := (mkF m 49 #[.val (.int p0), .val (.int p1), .val (.int p2), .val (.int p3), .val (.int p4), .val (.int ra), .val (.int rb), .val (.int rc), .val (.int (0 : Int32)), .unset, .unset, .unset, .unset, .unset, .unset, .unset, .unset, .unset, .unset, .unset] [(.int pa)])) rfl (by rw [hml]; rfl) (argsL := [(.int pa)]) (rest := []) (lenOf pd_2 rfl) rfl (by show 2 * 0 + _ ≤ _; exact Nat.le_of_eq rfl) (hb hby at_49) (fun _ _ => ⟨rfl, e0, (by decide : 0 + 0 ≤ _), (by decide : 0 + 0 ≤ _)⟩)
  dsimp only [Pt.U, Pt.locs, Pt.cells, Pt.slots] at X1 lq1 yq1 zq1 st1 hQ1
  rw [lq1, yq1, zq1] at X1
  obtain ⟨rfl, N1q, eh1⟩ := hQ1
  have N1 := Fr.app N0 N1q
  have e1 : T1.heap = h0 := eh1
  obtain ⟨_, _, ⟨T2, L2, k2, n2⟩, -, X2, ⟨Lc2, hQ2, lq2, yq2, zq2⟩, st2⟩ := Jvm.LawKit.callS X1 hx (y := (⟨"com/example/leeway/leeway/lp/BasisInverseSolveTransposedPinLaw", "pivot", "(I)D"⟩ : MethodName)) hown (mvT hZ (hw _ (List.mem_of_getElem? (i := 0) rfl))) (mvT hZ (hw _ (List.mem_of_getElem? (i := 1) rfl))) (mvT hZ (hw _ (List.mem_of_getElem? (i := 2) rfl))) (mvT hZ (hw _ (List.mem_of_getElem? (i := 3) rfl))) (by decide) (backOf (W := 0) (piv l Z a0 hw [] pb d2 h0 n0 Z0 hpw_61) hZ (hw _ (List.mem_of_getElem? (i := 3) rfl)) (hw _ (List.mem_of_getElem? (i := 2) rfl)) (by decide) (by decide)) (g := (mkF m 61 #[.val (.int p0), .val (.int p1), .val (.int p2), .val (.int p3), .val (.int p4), .val (.int ra), .val (.int rb), .val (.int rc), .val (.int (0 : Int32)), .val (.double d1), .second, .unset, .unset, .unset, .unset, .unset, .unset, .unset, .unset, .unset] [(.int pb)])) rfl (by rw [hml]; rfl) (argsL := [(.int pb)]) (rest := []) (lenOf pd_2 rfl) rfl (by show 2 * 0 + _ ≤ _; exact Nat.le_of_eq rfl) (hb hby at_61) (fun _ _ => ⟨rfl, e1, (by decide : 0 + 0 ≤ _), (by decide : 0 + 0 ≤ _)⟩)
  dsimp only [Pt.U, Pt.locs, Pt.cells, Pt.slots] at X2 lq2 yq2 zq2 st2 hQ2
  rw [lq2, yq2, zq2] at X2
  obtain ⟨rfl, N2q, eh2⟩ := hQ2
  have N2 := Fr.app N1 N2q
  have e2 : T2.heap = h0 := eh2
  obtain ⟨T3, h3, k3, X3, e3, E3, A3, st3⟩ := newP X2 hx hZ (hw _ (List.mem_of_getElem? (i := 4) rfl)) e2 (g := (mkF m 67 #[.val (.int p0), .val (.int p1), .val (.int p2), .val (.int p3), .val (.int p4), .val (.int ra), .val (.int rb), .val (.int rc), .val (.int (0 : Int32)), .val (.double d1), .second, .val (.double d2), .second, .unset, .unset, .unset, .unset, .unset, .unset, .unset] [(.int (3 : Int32))])) rfl (hb hby at_67) rfl (by decide) (cap := 3) (by decide) (by decide) (by decide) (by decide)
  obtain ⟨b3, g3⟩ : ∃ z, z = h0.size := ⟨_, rfl⟩
  rw [← g3] at A3 st3
  have g_b3 : n0 ≤ b3 := Nat.le_trans Z0 (Nat.le_of_eq g3.symm)
  have sz_b3 : h0.size ≤ b3 := Nat.le_trans (Keep.refl h0 []).1 (Nat.le_of_eq g3.symm)
  have K3 : Keep h0 h3 [] := (Keep.refl h0 []).ext E3
  have Zs3 := Nat.le_trans Z0 E3.1
  have V3 : Arv Z h3 b3 k3 .double (3 : Int32) [(.double (0 : UInt64)), (.double (0 : UInt64)), (.double (0 : UInt64))] (.double (0 : UInt64)) := (Arv.new A3 (by decide)).pad (pad_rep [] (.double (0 : UInt64)) 3)
  obtain ⟨cq4, Arq4, qq4, Sq4, Nq4, Hq4, Gq4⟩ := id V3
  obtain ⟨T5, h5, X5, e5, W5, st5⟩ := stD X3 hx hZ e3 Arq4 (j := (0 : Int32)) (inb_of Sq4 ⟨by decide, by decide⟩) (g := (mkF m 74 #[.val (.int p0), .val (.int p1), .val (.int p2), .val (.int p3), .val (.int p4), .val (.int ra), .val (.int rb), .val (.int rc), .val (.int (0 : Int32)), .val (.double d1), .second, .val (.double d2), .second, .unset, .unset, .unset, .unset, .unset, .unset, .unset] [(.double (FP.i2d u0)), (.int (0 : Int32)), (.ref b3), (.ref b3)])) rfl rfl (hb hby at_74)
  have K5 : Keep h0 h5 [] := K3.wr W5 (Or.inr sz_b3)
  have Zs5 := Nat.le_trans Zs3 (Keep.of_wr W5).1
  have N5 := Fr.snoc X5 N2 g_b3
  have f6 : Arv Z h5 b3 k3 .double (3 : Int32) [(.double (FP.i2d u0)), (.double (0 : UInt64)), (.double (0 : UInt64))] (.double (0 : UInt64)) := Arv.set Arq4 qq4 Sq4 Nq4 Hq4 Gq4 rfl W5 0 rfl (Nat.le_of_ble_eq_true rfl)
  obtain ⟨cq7, Arq7, qq7, Sq7, Nq7, Hq7, Gq7⟩ := id f6
  obtain ⟨T8, h8, X8, e8, W8, st8⟩ := stD X5 hx hZ e5 Arq7 (j := (1 : Int32)) (inb_of Sq7 ⟨by decide, by decide⟩) (g := (mkF m 83 #[.val (.int p0), .val (.int p1), .val (.int p2), .val (.int p3), .val (.int p4), .val (.int ra), .val (.int rb), .val (.int rc), .val (.int (0 : Int32)), .val (.double d1), .second, .val (.double d2), .second, .unset, .unset, .unset, .unset, .unset, .unset, .unset] [(.double (FP.i2d u1)), (.int (1 : Int32)), (.ref b3), (.ref b3)])) rfl rfl (hb hby at_83)
  have K8 : Keep h0 h8 [] := K5.wr W8 (Or.inr sz_b3)
  have Zs8 := Nat.le_trans Zs5 (Keep.of_wr W8).1
  have N8 := Fr.snoc X8 N5 g_b3
  have f9 : Arv Z h8 b3 k3 .double (3 : Int32) [(.double (FP.i2d u0)), (.double (FP.i2d u1)), (.double (0 : UInt64))] (.double (0 : UInt64)) := Arv.set Arq7 qq7 Sq7 Nq7 Hq7 Gq7 rfl W8 1 rfl (Nat.le_of_ble_eq_true rfl)
  obtain ⟨cq10, Arq10, qq10, Sq10, Nq10, Hq10, Gq10⟩ := id f9
  obtain ⟨T11, h11, X11, e11, W11, st11⟩ := stD X8 hx hZ e8 Arq10 (j := (2 : Int32)) (inb_of Sq10 ⟨by decide, by decide⟩) (g := (mkF m 92 #[.val (.int p0), .val (.int p1), .val (.int p2), .val (.int p3), .val (.int p4), .val (.int ra), .val (.int rb), .val (.int rc), .val (.int (0 : Int32)), .val (.double d1), .second, .val (.double d2), .second, .unset, .unset, .unset, .unset, .unset, .unset, .unset] [(.double (FP.i2d u2)), (.int (2 : Int32)), (.ref b3), (.ref b3)])) rfl rfl (hb hby at_92)
  have K11 : Keep h0 h11 [] := K8.wr W11 (Or.inr sz_b3)
  have Zs11 := Nat.le_trans Zs8 (Keep.of_wr W11).1
  have N11 := Fr.snoc X11 N8 g_b3
  have f12 : Arv Z h11 b3 k3 .double (3 : Int32) [(.double (FP.i2d u0)), (.double (FP.i2d u1)), (.double (FP.i2d u2))] (.double (0 : UInt64)) := Arv.set Arq10 qq10 Sq10 Nq10 Hq10 Gq10 rfl W11 2 rfl (Nat.le_of_ble_eq_true rfl)
  obtain ⟨cq13, Arq13, qq13, Sq13, Nq13, Hq13, Gq13⟩ := id f12
  obtain ⟨T14, h14, X14, e14, W14, st14⟩ := stD X11 hx hZ e11 Arq13 (j := ra) (inb_of Sq13 hn_ra) (g := (mkF m 101 #[.val (.int p0), .val (.int p1), .val (.int p2), .val (.int p3), .val (.int p4), .val (.int ra), .val (.int rb), .val (.int rc), .val (.int (0 : Int32)), .val (.double d1), .second, .val (.double d2), .second, .val (.ref b3), .unset, .unset, .unset, .unset, .unset, .unset] [(.double d1), (.int ra), (.ref b3)])) rfl rfl (hb hby at_101)
  have K14 : Keep h0 h14 [] := K11.wr W14 (Or.inr sz_b3)
  have Zs14 := Nat.le_trans Zs11 (Keep.of_wr W14).1
  have N14 := Fr.snoc X14 N11 g_b3
  have f15 : Arv Z h14 b3 k3 .double (3 : Int32) ([(.double (FP.i2d u0)), (.double (FP.i2d u1)), (.double (FP.i2d u2))].set ra.toNatClampNeg (.double d1)) (.double (0 : UInt64)) := Arv.set Arq13 qq13 Sq13 Nq13 Hq13 Gq13 rfl W14 ra.toNatClampNeg rfl hl_ra
  have f16 := own_arvL (vs1 := [(.double v0), (.double v1), (.double v2)]) (hvv : (([(.double (FP.i2d u0)), (.double (FP.i2d u1)), (.double (FP.i2d u2))].set ra.toNatClampNeg (.double d1)) : List Value) = [(.double v0), (.double v1), (.double v2)]) f15
  obtain ⟨T17, h17, k17, X17, e17, E17, A17, st17⟩ := newP X14 hx hZ (hw _ (List.mem_of_getElem? (i := 5) rfl)) e14 (g := (mkF m 103 #[.val (.int p0), .val (.int p1), .val (.int p2), .val (.int p3), .val (.int p4), .val (.int ra), .val (.int rb), .val (.int rc), .val (.int (0 : Int32)), .val (.double d1), .second, .val (.double d2), .second, .val (.ref b3), .unset, .unset, .unset, .unset, .unset, .unset] [(.int (3 : Int32))])) rfl (hb hby at_103) rfl (by decide) (cap := 3) (by decide) (by decide) (by decide) (by decide)
  obtain ⟨b17, g17⟩ : ∃ z, z = h14.size := ⟨_, rfl⟩
  rw [← g17] at A17 st17
  have ne_b3_b17 : b3 ≠ b17 := Nat.ne_of_lt (Nat.lt_of_lt_of_le f16.lt (Nat.le_of_eq g17.symm))
  have g_b17 : n0 ≤ b17 := Nat.le_trans Zs14 (Nat.le_of_eq g17.symm)
  have sz_b17 : h0.size ≤ b17 := Nat.le_trans K14.1 (Nat.le_of_eq g17.symm)
  have f18 := f16.ext E17
  have K17 : Keep h0 h17 [] := K14.ext E17
  have Zs17 := Nat.le_trans Zs14 E17.1
  have V17 : Arv Z h17 b17 k17 .int (3 : Int32) [(.int (0 : Int32)), (.int (0 : Int32)), (.int (0 : Int32))] (.int (0 : Int32)) := (Arv.new A17 (by decide)).pad (pad_rep [] (.int (0 : Int32)) 3)
  obtain ⟨cq19, Arq19, qq19, Sq19, Nq19, Hq19, Gq19⟩ := id V17
  obtain ⟨T20, h20, X20, e20, W20, st20⟩ := stI X17 hx hZ e17 Arq19 (j := (0 : Int32)) (inb_of Sq19 ⟨by decide, by decide⟩) (g := (mkF m 108 #[.val (.int p0), .val (.int p1), .val (.int p2), .val (.int p3), .val (.int p4), .val (.int ra), .val (.int rb), .val (.int rc), .val (.int (0 : Int32)), .val (.double d1), .second, .val (.double d2), .second, .val (.ref b3), .unset, .unset, .unset, .unset, .unset, .unset] [(.int (0 : Int32)), (.int (0 : Int32)), (.ref b17), (.ref b17)])) rfl rfl (hb hby at_108)
  have f21 := f18.other W20 ne_b3_b17
  have K20 : Keep h0 h20 [] := K17.wr W20 (Or.inr sz_b17)
  have Zs20 := Nat.le_trans Zs17 (Keep.of_wr W20).1
  have N20 := Fr.snoc X20 N14 g_b17
  have f22 : Arv Z h20 b17 k17 .int (3 : Int32) [(.int (0 : Int32)), (.int (0 : Int32)), (.int (0 : Int32))] (.int (0 : Int32)) := Arv.set Arq19 qq19 Sq19 Nq19 Hq19 Gq19 rfl W20 0 rfl (Nat.le_of_ble_eq_true rfl)
  obtain ⟨cq23, Arq23, qq23, Sq23, Nq23, Hq23, Gq23⟩ := id f22
  obtain ⟨T24, h24, X24, e24, W24, st24⟩ := stI X20 hx hZ e20 Arq23 (j := (1 : Int32)) (inb_of Sq23 ⟨by decide, by decide⟩) (g := (mkF m 112 #[.val (.int p0), .val (.int p1), .val (.int p2), .val (.int p3), .val (.int p4), .val (.int ra), .val (.int rb), .val (.int rc), .val (.int (0 : Int32)), .val (.double d1), .second, .val (.double d2), .second, .val (.ref b3), .unset, .unset, .unset, .unset, .unset, .unset] [(.int (1 : Int32)), (.int (1 : Int32)), (.ref b17), (.ref b17)])) rfl rfl (hb hby at_112)
  have f25 := f21.other W24 ne_b3_b17
  have K24 : Keep h0 h24 [] := K20.wr W24 (Or.inr sz_b17)
  have Zs24 := Nat.le_trans Zs20 (Keep.of_wr W24).1
  have N24 := Fr.snoc X24 N20 g_b17
  have f26 : Arv Z h24 b17 k17 .int (3 : Int32) [(.int (0 : Int32)), (.int (1 : Int32)), (.int (0 : Int32))] (.int (0 : Int32)) := Arv.set Arq23 qq23 Sq23 Nq23 Hq23 Gq23 rfl W24 1 rfl (Nat.le_of_ble_eq_true rfl)
  obtain ⟨cq27, Arq27, qq27, Sq27, Nq27, Hq27, Gq27⟩ := id f26
  obtain ⟨T28, h28, X28, e28, W28, st28⟩ := stI X24 hx hZ e24 Arq27 (j := (2 : Int32)) (inb_of Sq27 ⟨by decide, by decide⟩) (g := (mkF m 116 #[.val (.int p0), .val (.int p1), .val (.int p2), .val (.int p3), .val (.int p4), .val (.int ra), .val (.int rb), .val (.int rc), .val (.int (0 : Int32)), .val (.double d1), .second, .val (.double d2), .second, .val (.ref b3), .unset, .unset, .unset, .unset, .unset, .unset] [(.int (2 : Int32)), (.int (2 : Int32)), (.ref b17), (.ref b17)])) rfl rfl (hb hby at_116)
  have f29 := f25.other W28 ne_b3_b17
  have K28 : Keep h0 h28 [] := K24.wr W28 (Or.inr sz_b17)
  have Zs28 := Nat.le_trans Zs24 (Keep.of_wr W28).1
  have N28 := Fr.snoc X28 N24 g_b17
  have f30 : Arv Z h28 b17 k17 .int (3 : Int32) [(.int (0 : Int32)), (.int (1 : Int32)), (.int (2 : Int32))] (.int (0 : Int32)) := Arv.set Arq27 qq27 Sq27 Nq27 Hq27 Gq27 rfl W28 2 rfl (Nat.le_of_ble_eq_true rfl)
  obtain ⟨T31, h31, k31, X31, e31, E31, A31, st31⟩ := newP X28 hx hZ (hw _ (List.mem_of_getElem? (i := 5) rfl)) e28 (g := (mkF m 120 #[.val (.int p0), .val (.int p1), .val (.int p2), .val (.int p3), .val (.int p4), .val (.int ra), .val (.int rb), .val (.int rc), .val (.int (0 : Int32)), .val (.double d1), .second, .val (.double d2), .second, .val (.ref b3), .val (.ref b17), .unset, .unset, .unset, .unset, .unset] [(.int (2 : Int32))])) rfl (hb hby at_120) rfl (by decide) (cap := 2) (by decide) (by decide) (by decide) (by decide)
  obtain ⟨b31, g31⟩ : ∃ z, z = h28.size := ⟨_, rfl⟩
  rw [← g31] at A31 st31
  have ne_b3_b31 : b3 ≠ b31 := Nat.ne_of_lt (Nat.lt_of_lt_of_le f29.lt (Nat.le_of_eq g31.symm))
  have ne_b17_b31 : b17 ≠ b31 := Nat.ne_of_lt (Nat.lt_of_lt_of_le f30.lt (Nat.le_of_eq g31.symm))
  have g_b31 : n0 ≤ b31 := Nat.le_trans Zs28 (Nat.le_of_eq g31.symm)
  have sz_b31 : h0.size ≤ b31 := Nat.le_trans K28.1 (Nat.le_of_eq g31.symm)
  have f32 := f29.ext E31
  have f33 := f30.ext E31
  have K31 : Keep h0 h31 [] := K28.ext E31
  have Zs31 := Nat.le_trans Zs28 E31.1
  have V31 : Arv Z h31 b31 k31 .int (2 : Int32) [(.int (0 : Int32)), (.int (0 : Int32))] (.int (0 : Int32)) := (Arv.new A31 (by decide)).pad (pad_rep [] (.int (0 : Int32)) 2)
  obtain ⟨cq34, Arq34, qq34, Sq34, Nq34, Hq34, Gq34⟩ := id V31
  obtain ⟨T35, h35, X35, e35, W35, st35⟩ := stI X31 hx hZ e31 Arq34 (j := (0 : Int32)) (inb_of Sq34 ⟨by decide, by decide⟩) (g := (mkF m 126 #[.val (.int p0), .val (.int p1), .val (.int p2), .val (.int p3), .val (.int p4), .val (.int ra), .val (.int rb), .val (.int rc), .val (.int (0 : Int32)), .val (.double d1), .second, .val (.double d2), .second, .val (.ref b3), .val (.ref b17), .unset, .unset, .unset, .unset, .unset] [(.int rb), (.int (0 : Int32)), (.ref b31), (.ref b31)])) rfl rfl (hb hby at_126)
  have f36 := f32.other W35 ne_b3_b31
  have f37 := f33.other W35 ne_b17_b31
  have K35 : Keep h0 h35 [] := K31.wr W35 (Or.inr sz_b31)
  have Zs35 := Nat.le_trans Zs31 (Keep.of_wr W35).1
  have N35 := Fr.snoc X35 N28 g_b31
  have f38 : Arv Z h35 b31 k31 .int (2 : Int32) [(.int rb), (.int (0 : Int32))] (.int (0 : Int32)) := Arv.set Arq34 qq34 Sq34 Nq34 Hq34 Gq34 rfl W35 0 rfl (Nat.le_of_ble_eq_true rfl)
  obtain ⟨cq39, Arq39, qq39, Sq39, Nq39, Hq39, Gq39⟩ := id f38
  obtain ⟨T40, h40, X40, e40, W40, st40⟩ := stI X35 hx hZ e35 Arq39 (j := (1 : Int32)) (inb_of Sq39 ⟨by decide, by decide⟩) (g := (mkF m 131 #[.val (.int p0), .val (.int p1), .val (.int p2), .val (.int p3), .val (.int p4), .val (.int ra), .val (.int rb), .val (.int rc), .val (.int (0 : Int32)), .val (.double d1), .second, .val (.double d2), .second, .val (.ref b3), .val (.ref b17), .unset, .unset, .unset, .unset, .unset] [(.int rc), (.int (1 : Int32)), (.ref b31), (.ref b31)])) rfl rfl (hb hby at_131)
  have f41 := f36.other W40 ne_b3_b31
  have f42 := f37.other W40 ne_b17_b31
  have K40 : Keep h0 h40 [] := K35.wr W40 (Or.inr sz_b31)
  have Zs40 := Nat.le_trans Zs35 (Keep.of_wr W40).1
  have N40 := Fr.snoc X40 N35 g_b31
  have f43 : Arv Z h40 b31 k31 .int (2 : Int32) [(.int rb), (.int rc)] (.int (0 : Int32)) := Arv.set Arq39 qq39 Sq39 Nq39 Hq39 Gq39 rfl W40 1 rfl (Nat.le_of_ble_eq_true rfl)
  obtain ⟨T44, h44, k44, X44, e44, E44, A44, st44⟩ := newP X40 hx hZ (hw _ (List.mem_of_getElem? (i := 4) rfl)) e40 (g := (mkF m 135 #[.val (.int p0), .val (.int p1), .val (.int p2), .val (.int p3), .val (.int p4), .val (.int ra), .val (.int rb), .val (.int rc), .val (.int (0 : Int32)), .val (.double d1), .second, .val (.double d2), .second, .val (.ref b3), .val (.ref b17), .val (.ref b31), .unset, .unset, .unset, .unset] [(.int (2 : Int32))])) rfl (hb hby at_135) rfl (by decide) (cap := 2) (by decide) (by decide) (by decide) (by decide)
  obtain ⟨b44, g44⟩ : ∃ z, z = h40.size := ⟨_, rfl⟩
  rw [← g44] at A44 st44
  have ne_b3_b44 : b3 ≠ b44 := Nat.ne_of_lt (Nat.lt_of_lt_of_le f41.lt (Nat.le_of_eq g44.symm))
  have ne_b17_b44 : b17 ≠ b44 := Nat.ne_of_lt (Nat.lt_of_lt_of_le f42.lt (Nat.le_of_eq g44.symm))
  have ne_b31_b44 : b31 ≠ b44 := Nat.ne_of_lt (Nat.lt_of_lt_of_le f43.lt (Nat.le_of_eq g44.symm))
  have g_b44 : n0 ≤ b44 := Nat.le_trans Zs40 (Nat.le_of_eq g44.symm)
  have sz_b44 : h0.size ≤ b44 := Nat.le_trans K40.1 (Nat.le_of_eq g44.symm)
  have f45 := f41.ext E44
  have f46 := f42.ext E44
  have f47 := f43.ext E44
  have K44 : Keep h0 h44 [] := K40.ext E44
  have Zs44 := Nat.le_trans Zs40 E44.1
  have V44 : Arv Z h44 b44 k44 .double (2 : Int32) [(.double (0 : UInt64)), (.double (0 : UInt64))] (.double (0 : UInt64)) := (Arv.new A44 (by decide)).pad (pad_rep [] (.double (0 : UInt64)) 2)
  obtain ⟨cq48, Arq48, qq48, Sq48, Nq48, Hq48, Gq48⟩ := id V44
  obtain ⟨T49, h49, X49, e49, W49, st49⟩ := stD X44 hx hZ e44 Arq48 (j := (0 : Int32)) (inb_of Sq48 ⟨by decide, by decide⟩) (g := (mkF m 141 #[.val (.int p0), .val (.int p1), .val (.int p2), .val (.int p3), .val (.int p4), .val (.int ra), .val (.int rb), .val (.int rc), .val (.int (0 : Int32)), .val (.double d1), .second, .val (.double d2), .second, .val (.ref b3), .val (.ref b17), .val (.ref b31), .unset, .unset, .unset, .unset] [(.double d2), (.int (0 : Int32)), (.ref b44), (.ref b44)])) rfl rfl (hb hby at_141)
  have f50 := f45.other W49 ne_b3_b44
  have f51 := f46.other W49 ne_b17_b44
  have f52 := f47.other W49 ne_b31_b44
  have K49 : Keep h0 h49 [] := K44.wr W49 (Or.inr sz_b44)
  have Zs49 := Nat.le_trans Zs44 (Keep.of_wr W49).1
  have N49 := Fr.snoc X49 N40 g_b44
  have f53 : Arv Z h49 b44 k44 .double (2 : Int32) [(.double d2), (.double (0 : UInt64))] (.double (0 : UInt64)) := Arv.set Arq48 qq48 Sq48 Nq48 Hq48 Gq48 rfl W49 0 rfl (Nat.le_of_ble_eq_true rfl)
  obtain ⟨cq54, Arq54, qq54, Sq54, Nq54, Hq54, Gq54⟩ := id f53
  obtain ⟨T55, h55, X55, e55, W55, st55⟩ := stD X49 hx hZ e49 Arq54 (j := (1 : Int32)) (inb_of Sq54 ⟨by decide, by decide⟩) (g := (mkF m 150 #[.val (.int p0), .val (.int p1), .val (.int p2), .val (.int p3), .val (.int p4), .val (.int ra), .val (.int rb), .val (.int rc), .val (.int (0 : Int32)), .val (.double d1), .second, .val (.double d2), .second, .val (.ref b3), .val (.ref b17), .val (.ref b31), .unset, .unset, .unset, .unset] [(.double (FP.i2d u3)), (.int (1 : Int32)), (.ref b44), (.ref b44)])) rfl rfl (hb hby at_150)
  have f56 := f50.other W55 ne_b3_b44
  have f57 := f51.other W55 ne_b17_b44
  have f58 := f52.other W55 ne_b31_b44
  have K55 : Keep h0 h55 [] := K49.wr W55 (Or.inr sz_b44)
  have Zs55 := Nat.le_trans Zs49 (Keep.of_wr W55).1
  have N55 := Fr.snoc X55 N49 g_b44
  have f59 : Arv Z h55 b44 k44 .double (2 : Int32) [(.double d2), (.double (FP.i2d u3))] (.double (0 : UInt64)) := Arv.set Arq54 qq54 Sq54 Nq54 Hq54 Gq54 rfl W55 1 rfl (Nat.le_of_ble_eq_true rfl)
  obtain ⟨T60, h60, k60, X60, e60, E60, A60, st60⟩ := newP X55 hx hZ (hw _ (List.mem_of_getElem? (i := 4) rfl)) e55 (g := (mkF m 154 #[.val (.int p0), .val (.int p1), .val (.int p2), .val (.int p3), .val (.int p4), .val (.int ra), .val (.int rb), .val (.int rc), .val (.int (0 : Int32)), .val (.double d1), .second, .val (.double d2), .second, .val (.ref b3), .val (.ref b17), .val (.ref b31), .val (.ref b44), .unset, .unset, .unset] [(.int (3 : Int32))])) rfl (hb hby at_154) rfl (by decide) (cap := 3) (by decide) (by decide) (by decide) (by decide)
  obtain ⟨b60, g60⟩ : ∃ z, z = h55.size := ⟨_, rfl⟩
  rw [← g60] at A60 st60
  have ne_b3_b60 : b3 ≠ b60 := Nat.ne_of_lt (Nat.lt_of_lt_of_le f56.lt (Nat.le_of_eq g60.symm))
  have ne_b17_b60 : b17 ≠ b60 := Nat.ne_of_lt (Nat.lt_of_lt_of_le f57.lt (Nat.le_of_eq g60.symm))
  have ne_b31_b60 : b31 ≠ b60 := Nat.ne_of_lt (Nat.lt_of_lt_of_le f58.lt (Nat.le_of_eq g60.symm))
  have ne_b44_b60 : b44 ≠ b60 := Nat.ne_of_lt (Nat.lt_of_lt_of_le f59.lt (Nat.le_of_eq g60.symm))
  have g_b60 : n0 ≤ b60 := Nat.le_trans Zs55 (Nat.le_of_eq g60.symm)
  have sz_b60 : h0.size ≤ b60 := Nat.le_trans K55.1 (Nat.le_of_eq g60.symm)
  have f61 := f56.ext E60
  have f62 := f57.ext E60
  have f63 := f58.ext E60
  have f64 := f59.ext E60
  have K60 : Keep h0 h60 [] := K55.ext E60
  have Zs60 := Nat.le_trans Zs55 E60.1
  have V60 : Arv Z h60 b60 k60 .double (3 : Int32) [(.double (0 : UInt64)), (.double (0 : UInt64)), (.double (0 : UInt64))] (.double (0 : UInt64)) := (Arv.new A60 (by decide)).pad (pad_rep [] (.double (0 : UInt64)) 3)
  obtain ⟨cq65, Arq65, qq65, Sq65, Nq65, Hq65, Gq65⟩ := id V60
  obtain ⟨T66, h66, X66, e66, W66, st66⟩ := stD X60 hx hZ e60 Arq65 (j := (0 : Int32)) (inb_of Sq65 ⟨by decide, by decide⟩) (g := (mkF m 160 #[.val (.int p0), .val (.int p1), .val (.int p2), .val (.int p3), .val (.int p4), .val (.int ra), .val (.int rb), .val (.int rc), .val (.int (0 : Int32)), .val (.double d1), .second, .val (.double d2), .second, .val (.ref b3), .val (.ref b17), .val (.ref b31), .val (.ref b44), .unset, .unset, .unset] [(.double (FP.i2d p0)), (.int (0 : Int32)), (.ref b60), (.ref b60)])) rfl rfl (hb hby at_160)
  have f67 := f61.other W66 ne_b3_b60
  have f68 := f62.other W66 ne_b17_b60
  have f69 := f63.other W66 ne_b31_b60
  have f70 := f64.other W66 ne_b44_b60
  have K66 : Keep h0 h66 [] := K60.wr W66 (Or.inr sz_b60)
  have Zs66 := Nat.le_trans Zs60 (Keep.of_wr W66).1
  have N66 := Fr.snoc X66 N55 g_b60
  have f71 : Arv Z h66 b60 k60 .double (3 : Int32) [(.double (FP.i2d p0)), (.double (0 : UInt64)), (.double (0 : UInt64))] (.double (0 : UInt64)) := Arv.set Arq65 qq65 Sq65 Nq65 Hq65 Gq65 rfl W66 0 rfl (Nat.le_of_ble_eq_true rfl)
  obtain ⟨cq72, Arq72, qq72, Sq72, Nq72, Hq72, Gq72⟩ := id f71
  obtain ⟨T73, h73, X73, e73, W73, st73⟩ := stD X66 hx hZ e66 Arq72 (j := (1 : Int32)) (inb_of Sq72 ⟨by decide, by decide⟩) (g := (mkF m 165 #[.val (.int p0), .val (.int p1), .val (.int p2), .val (.int p3), .val (.int p4), .val (.int ra), .val (.int rb), .val (.int rc), .val (.int (0 : Int32)), .val (.double d1), .second, .val (.double d2), .second, .val (.ref b3), .val (.ref b17), .val (.ref b31), .val (.ref b44), .unset, .unset, .unset] [(.double (FP.i2d p1)), (.int (1 : Int32)), (.ref b60), (.ref b60)])) rfl rfl (hb hby at_165)
  have f74 := f67.other W73 ne_b3_b60
  have f75 := f68.other W73 ne_b17_b60
  have f76 := f69.other W73 ne_b31_b60
  have f77 := f70.other W73 ne_b44_b60
  have K73 : Keep h0 h73 [] := K66.wr W73 (Or.inr sz_b60)
  have Zs73 := Nat.le_trans Zs66 (Keep.of_wr W73).1
  have N73 := Fr.snoc X73 N66 g_b60
  have f78 : Arv Z h73 b60 k60 .double (3 : Int32) [(.double (FP.i2d p0)), (.double (FP.i2d p1)), (.double (0 : UInt64))] (.double (0 : UInt64)) := Arv.set Arq72 qq72 Sq72 Nq72 Hq72 Gq72 rfl W73 1 rfl (Nat.le_of_ble_eq_true rfl)
  obtain ⟨cq79, Arq79, qq79, Sq79, Nq79, Hq79, Gq79⟩ := id f78
  obtain ⟨T80, h80, X80, e80, W80, st80⟩ := stD X73 hx hZ e73 Arq79 (j := (2 : Int32)) (inb_of Sq79 ⟨by decide, by decide⟩) (g := (mkF m 170 #[.val (.int p0), .val (.int p1), .val (.int p2), .val (.int p3), .val (.int p4), .val (.int ra), .val (.int rb), .val (.int rc), .val (.int (0 : Int32)), .val (.double d1), .second, .val (.double d2), .second, .val (.ref b3), .val (.ref b17), .val (.ref b31), .val (.ref b44), .unset, .unset, .unset] [(.double (FP.i2d p2)), (.int (2 : Int32)), (.ref b60), (.ref b60)])) rfl rfl (hb hby at_170)
  have f81 := f74.other W80 ne_b3_b60
  have f82 := f75.other W80 ne_b17_b60
  have f83 := f76.other W80 ne_b31_b60
  have f84 := f77.other W80 ne_b44_b60
  have K80 : Keep h0 h80 [] := K73.wr W80 (Or.inr sz_b60)
  have Zs80 := Nat.le_trans Zs73 (Keep.of_wr W80).1
  have N80 := Fr.snoc X80 N73 g_b60
  have f85 : Arv Z h80 b60 k60 .double (3 : Int32) [(.double (FP.i2d p0)), (.double (FP.i2d p1)), (.double (FP.i2d p2))] (.double (0 : UInt64)) := Arv.set Arq79 qq79 Sq79 Nq79 Hq79 Gq79 rfl W80 2 rfl (Nat.le_of_ble_eq_true rfl)
  obtain ⟨T86, h86, k86, X86, e86, E86, A86, st86⟩ := newP X80 hx hZ (hw _ (List.mem_of_getElem? (i := 4) rfl)) e80 (g := (mkF m 174 #[.val (.int p0), .val (.int p1), .val (.int p2), .val (.int p3), .val (.int p4), .val (.int ra), .val (.int rb), .val (.int rc), .val (.int (0 : Int32)), .val (.double d1), .second, .val (.double d2), .second, .val (.ref b3), .val (.ref b17), .val (.ref b31), .val (.ref b44), .val (.ref b60), .unset, .unset] [(.int (3 : Int32))])) rfl (hb hby at_174) rfl (by decide) (cap := 3) (by decide) (by decide) (by decide) (by decide)
  obtain ⟨b86, g86⟩ : ∃ z, z = h80.size := ⟨_, rfl⟩
  rw [← g86] at A86 st86
  have ne_b3_b86 : b3 ≠ b86 := Nat.ne_of_lt (Nat.lt_of_lt_of_le f81.lt (Nat.le_of_eq g86.symm))
  have ne_b17_b86 : b17 ≠ b86 := Nat.ne_of_lt (Nat.lt_of_lt_of_le f82.lt (Nat.le_of_eq g86.symm))
  have ne_b31_b86 : b31 ≠ b86 := Nat.ne_of_lt (Nat.lt_of_lt_of_le f83.lt (Nat.le_of_eq g86.symm))
  have ne_b44_b86 : b44 ≠ b86 := Nat.ne_of_lt (Nat.lt_of_lt_of_le f84.lt (Nat.le_of_eq g86.symm))
  have ne_b60_b86 : b60 ≠ b86 := Nat.ne_of_lt (Nat.lt_of_lt_of_le f85.lt (Nat.le_of_eq g86.symm))
  have g_b86 : n0 ≤ b86 := Nat.le_trans Zs80 (Nat.le_of_eq g86.symm)
  have sz_b86 : h0.size ≤ b86 := Nat.le_trans K80.1 (Nat.le_of_eq g86.symm)
  have f87 := f81.ext E86
  have f88 := f82.ext E86
  have f89 := f83.ext E86
  have f90 := f84.ext E86
  have f91 := f85.ext E86
  have K86 : Keep h0 h86 [] := K80.ext E86
  have Zs86 := Nat.le_trans Zs80 E86.1
  have V86 : Arv Z h86 b86 k86 .double (3 : Int32) [(.double (0 : UInt64)), (.double (0 : UInt64)), (.double (0 : UInt64))] (.double (0 : UInt64)) := (Arv.new A86 (by decide)).pad (pad_rep [] (.double (0 : UInt64)) 3)
  obtain ⟨cq92, Arq92, qq92, Sq92, Nq92, Hq92, Gq92⟩ := id V86
  obtain ⟨T93, h93, X93, e93, W93, st93⟩ := stD X86 hx hZ e86 Arq92 (j := (0 : Int32)) (inb_of Sq92 ⟨by decide, by decide⟩) (g := (mkF m 180 #[.val (.int p0), .val (.int p1), .val (.int p2), .val (.int p3), .val (.int p4), .val (.int ra), .val (.int rb), .val (.int rc), .val (.int (0 : Int32)), .val (.double d1), .second, .val (.double d2), .second, .val (.ref b3), .val (.ref b17), .val (.ref b31), .val (.ref b44), .val (.ref b60), .unset, .unset] [(.double (FP.i2d p0)), (.int (0 : Int32)), (.ref b86), (.ref b86)])) rfl rfl (hb hby at_180)
  have f94 := f87.other W93 ne_b3_b86
  have f95 := f88.other W93 ne_b17_b86
  have f96 := f89.other W93 ne_b31_b86
  have f97 := f90.other W93 ne_b44_b86
  have f98 := f91.other W93 ne_b60_b86
  have K93 : Keep h0 h93 [] := K86.wr W93 (Or.inr sz_b86)
  have Zs93 := Nat.le_trans Zs86 (Keep.of_wr W93).1
  have N93 := Fr.snoc X93 N80 g_b86
  have f99 : Arv Z h93 b86 k86 .double (3 : Int32) [(.double (FP.i2d p0)), (.double (0 : UInt64)), (.double (0 : UInt64))] (.double (0 : UInt64)) := Arv.set Arq92 qq92 Sq92 Nq92 Hq92 Gq92 rfl W93 0 rfl (Nat.le_of_ble_eq_true rfl)
  obtain ⟨cq100, Arq100, qq100, Sq100, Nq100, Hq100, Gq100⟩ := id f99
  obtain ⟨T101, h101, X101, e101, W101, st101⟩ := stD X93 hx hZ e93 Arq100 (j := (1 : Int32)) (inb_of Sq100 ⟨by decide, by decide⟩) (g := (mkF m 185 #[.val (.int p0), .val (.int p1), .val (.int p2), .val (.int p3), .val (.int p4), .val (.int ra), .val (.int rb), .val (.int rc), .val (.int (0 : Int32)), .val (.double d1), .second, .val (.double d2), .second, .val (.ref b3), .val (.ref b17), .val (.ref b31), .val (.ref b44), .val (.ref b60), .unset, .unset] [(.double (FP.i2d p1)), (.int (1 : Int32)), (.ref b86), (.ref b86)])) rfl rfl (hb hby at_185)
  have f102 := f94.other W101 ne_b3_b86
  have f103 := f95.other W101 ne_b17_b86
  have f104 := f96.other W101 ne_b31_b86
  have f105 := f97.other W101 ne_b44_b86
  have f106 := f98.other W101 ne_b60_b86
  have K101 : Keep h0 h101 [] := K93.wr W101 (Or.inr sz_b86)
  have Zs101 := Nat.le_trans Zs93 (Keep.of_wr W101).1
  have N101 := Fr.snoc X101 N93 g_b86
  have f107 : Arv Z h101 b86 k86 .double (3 : Int32) [(.double (FP.i2d p0)), (.double (FP.i2d p1)), (.double (0 : UInt64))] (.double (0 : UInt64)) := Arv.set Arq100 qq100 Sq100 Nq100 Hq100 Gq100 rfl W101 1 rfl (Nat.le_of_ble_eq_true rfl)
  obtain ⟨cq108, Arq108, qq108, Sq108, Nq108, Hq108, Gq108⟩ := id f107
  obtain ⟨T109, h109, X109, e109, W109, st109⟩ := stD X101 hx hZ e101 Arq108 (j := (2 : Int32)) (inb_of Sq108 ⟨by decide, by decide⟩) (g := (mkF m 190 #[.val (.int p0), .val (.int p1), .val (.int p2), .val (.int p3), .val (.int p4), .val (.int ra), .val (.int rb), .val (.int rc), .val (.int (0 : Int32)), .val (.double d1), .second, .val (.double d2), .second, .val (.ref b3), .val (.ref b17), .val (.ref b31), .val (.ref b44), .val (.ref b60), .unset, .unset] [(.double (FP.i2d p2)), (.int (2 : Int32)), (.ref b86), (.ref b86)])) rfl rfl (hb hby at_190)
  have f110 := f102.other W109 ne_b3_b86
  have f111 := f103.other W109 ne_b17_b86
  have f112 := f104.other W109 ne_b31_b86
  have f113 := f105.other W109 ne_b44_b86
  have f114 := f106.other W109 ne_b60_b86
  have K109 : Keep h0 h109 [] := K101.wr W109 (Or.inr sz_b86)
  have Zs109 := Nat.le_trans Zs101 (Keep.of_wr W109).1
  have N109 := Fr.snoc X109 N101 g_b86
  have f115 : Arv Z h109 b86 k86 .double (3 : Int32) [(.double (FP.i2d p0)), (.double (FP.i2d p1)), (.double (FP.i2d p2))] (.double (0 : UInt64)) := Arv.set Arq108 qq108 Sq108 Nq108 Hq108 Gq108 rfl W109 2 rfl (Nat.le_of_ble_eq_true rfl)
  obtain ⟨T116, h116, X116, e116, E116, A116, D116, -, st116⟩ := newO X109 hx hZ hown (hw _ (List.mem_of_getElem? (i := 6) rfl)) (hw _ (List.mem_of_getElem? (i := 7) rfl)) (hw _ (List.mem_of_getElem? (i := 8) rfl)) e109 (g := (mkF m 193 #[.val (.int p0), .val (.int p1), .val (.int p2), .val (.int p3), .val (.int p4), .val (.int ra), .val (.int rb), .val (.int rc), .val (.int (0 : Int32)), .val (.double d1), .second, .val (.double d2), .second, .val (.ref b3), .val (.ref b17), .val (.ref b31), .val (.ref b44), .val (.ref b60), .val (.ref b86), .unset] [])) rfl (hb hby at_193) (by decide) (by decide)
  obtain ⟨b116, g116⟩ : ∃ z, z = h109.size := ⟨_, rfl⟩
  rw [← g116] at A116 D116 st116
  have ne_b3_b116 : b3 ≠ b116 := Nat.ne_of_lt (Nat.lt_of_lt_of_le f110.lt (Nat.le_of_eq g116.symm))
  have ne_b17_b116 : b17 ≠ b116 := Nat.ne_of_lt (Nat.lt_of_lt_of_le f111.lt (Nat.le_of_eq g116.symm))
  have ne_b31_b116 : b31 ≠ b116 := Nat.ne_of_lt (Nat.lt_of_lt_of_le f112.lt (Nat.le_of_eq g116.symm))
  have ne_b44_b116 : b44 ≠ b116 := Nat.ne_of_lt (Nat.lt_of_lt_of_le f113.lt (Nat.le_of_eq g116.symm))
  have ne_b60_b116 : b60 ≠ b116 := Nat.ne_of_lt (Nat.lt_of_lt_of_le f114.lt (Nat.le_of_eq g116.symm))
  have ne_b86_b116 : b86 ≠ b116 := Nat.ne_of_lt (Nat.lt_of_lt_of_le f115.lt (Nat.le_of_eq g116.symm))
  have g_b116 : n0 ≤ b116 := Nat.le_trans Zs109 (Nat.le_of_eq g116.symm)
  have sz_b116 : h0.size ≤ b116 := Nat.le_trans K109.1 (Nat.le_of_eq g116.symm)
  have f117 := f110.ext E116
  have f118 := f111.ext E116
  have f119 := f112.ext E116
  have f120 := f113.ext E116
  have f121 := f114.ext E116
  have f122 := f115.ext E116
  have K116 : Keep h0 h116 [] := K109.ext E116
  have Zs116 := Nat.le_trans Zs109 E116.1
  have F116_pivotRows : Fld Z h116 b116 "com/example/leeway/leeway/lp/BasisInverse" "pivotRows" "[I" .null := D116 (Or.inl (hw _ (List.mem_of_getElem? (i := 16) rfl))) (ty := (.array .int)) (by decide)
  have F116_pivots : Fld Z h116 b116 "com/example/leeway/leeway/lp/BasisInverse" "pivots" "[D" .null := D116 (Or.inl (hw _ (List.mem_of_getElem? (i := 18) rfl))) (ty := (.array .double)) (by decide)
  have F116_termStart : Fld Z h116 b116 "com/example/leeway/leeway/lp/BasisInverse" "termStart" "[I" .null := D116 (Or.inl (hw _ (List.mem_of_getElem? (i := 20) rfl))) (ty := (.array .int)) (by decide)
  have F116_termRows : Fld Z h116 b116 "com/example/leeway/leeway/lp/BasisInverse" "termRows" "[I" .null := D116 (Or.inl (hw _ (List.mem_of_getElem? (i := 22) rfl))) (ty := (.array .int)) (by decide)
  have F116_termValues : Fld Z h116 b116 "com/example/leeway/leeway/lp/BasisInverse" "termValues" "[D" .null := D116 (Or.inl (hw _ (List.mem_of_getElem? (i := 24) rfl))) (ty := (.array .double)) (by decide)
  have F116_count : Fld Z h116 b116 "com/example/leeway/leeway/lp/BasisInverse" "count" "I" (.int (0 : Int32)) := D116 (Or.inl (hw _ (List.mem_of_getElem? (i := 31) rfl))) (ty := .int) (by decide)
  obtain ⟨_, _, ⟨T123, L123, k123, n123⟩, -, X123, ⟨Lc123, hQ123, lq123, yq123, zq123⟩, st123⟩ := X116.specialBack hx (y := (⟨"com/example/leeway/leeway/lp/BasisInverse", "<init>", "()V"⟩ : MethodName)) rfl hown (mvT hZ (hw _ (List.mem_of_getElem? (i := 9) rfl))) (mvT hZ (hw _ (List.mem_of_getElem? (i := 10) rfl))) (mvT hZ (hw _ (List.mem_of_getElem? (i := 11) rfl))) (by decide) (backOf (W := 1) (ini l Z a0 hw [] b116 h116 n0 Zs116 g_b116 A116 F116_pivotRows F116_pivots F116_termStart F116_termRows F116_termValues F116_count) hZ (hw _ (List.mem_of_getElem? (i := 11) rfl)) (hw _ (List.mem_of_getElem? (i := 8) rfl)) (by decide) (by decide)) (g := (mkF m 197 #[.val (.int p0), .val (.int p1), .val (.int p2), .val (.int p3), .val (.int p4), .val (.int ra), .val (.int rb), .val (.int rc), .val (.int (0 : Int32)), .val (.double d1), .second, .val (.double d2), .second, .val (.ref b3), .val (.ref b17), .val (.ref b31), .val (.ref b44), .val (.ref b60), .val (.ref b86), .unset] [(.ref b116), (.ref b116)])) rfl (by rw [hml]; rfl) (Steps.refl _) (a := b116) (argsL := []) (rest := [(.ref b116)]) (lenOf pd_3 rfl) rfl (by show 2 * 0 + _ ≤ _; exact Nat.le_of_eq rfl) (hb hby at_197) (fun _ _ => ⟨rfl, e116, (by decide : 7 + 5 ≤ _), (by decide : 22 + 177 ≤ _)⟩)
  dsimp only [Pt.U, Pt.locs, Pt.cells, Pt.slots] at X123 lq123 yq123 zq123 st123 hQ123
  rw [lq123, yq123, zq123] at X123
  obtain ⟨b2_123, b19_123, b38_123, b59_123, b82_123, k2_123, k19_123, k38_123, k59_123, k82_123, rfl, N123q, K123q, r124, r125, r126, r127, r128, r129, r130, r131, r132, r133, r134, r135, r136, r137, r138, f139, f140, f141, f142, f143, f144, f145, f146, f147, f148, f149, f150⟩ := hQ123
  have N123 := Fr.app N109 N123q
  have ne_b3_b2_123 : b3 ≠ b2_123 := Nat.ne_of_lt (Nat.lt_of_lt_of_le f117.lt r124)
  have ne_b17_b2_123 : b17 ≠ b2_123 := Nat.ne_of_lt (Nat.lt_of_lt_of_le f118.lt r124)
  have ne_b31_b2_123 : b31 ≠ b2_123 := Nat.ne_of_lt (Nat.lt_of_lt_of_le f119.lt r124)
  have ne_b44_b2_123 : b44 ≠ b2_123 := Nat.ne_of_lt (Nat.lt_of_lt_of_le f120.lt r124)
  have ne_b60_b2_123 : b60 ≠ b2_123 := Nat.ne_of_lt (Nat.lt_of_lt_of_le f121.lt r124)
  have ne_b86_b2_123 : b86 ≠ b2_123 := Nat.ne_of_lt (Nat.lt_of_lt_of_le f122.lt r124)
  have ne_b116_b2_123 : b116 ≠ b2_123 := Nat.ne_of_lt (Nat.lt_of_lt_of_le A116.lt r124)
  have g_b2_123 : n0 ≤ b2_123 := Nat.le_trans Zs116 r124
  have sz_b2_123 : h0.size ≤ b2_123 := Nat.le_trans K116.1 r124
  have ne_b3_b19_123 : b3 ≠ b19_123 := Nat.ne_of_lt (Nat.lt_of_lt_of_le f117.lt r125)
  have ne_b17_b19_123 : b17 ≠ b19_123 := Nat.ne_of_lt (Nat.lt_of_lt_of_le f118.lt r125)
  have ne_b31_b19_123 : b31 ≠ b19_123 := Nat.ne_of_lt (Nat.lt_of_lt_of_le f119.lt r125)
  have ne_b44_b19_123 : b44 ≠ b19_123 := Nat.ne_of_lt (Nat.lt_of_lt_of_le f120.lt r125)
  have ne_b60_b19_123 : b60 ≠ b19_123 := Nat.ne_of_lt (Nat.lt_of_lt_of_le f121.lt r125)
  have ne_b86_b19_123 : b86 ≠ b19_123 := Nat.ne_of_lt (Nat.lt_of_lt_of_le f122.lt r125)
  have ne_b116_b19_123 : b116 ≠ b19_123 := Nat.ne_of_lt (Nat.lt_of_lt_of_le A116.lt r125)
  have g_b19_123 : n0 ≤ b19_123 := Nat.le_trans Zs116 r125
  have sz_b19_123 : h0.size ≤ b19_123 := Nat.le_trans K116.1 r125
  have ne_b3_b38_123 : b3 ≠ b38_123 := Nat.ne_of_lt (Nat.lt_of_lt_of_le f117.lt r126)
  have ne_b17_b38_123 : b17 ≠ b38_123 := Nat.ne_of_lt (Nat.lt_of_lt_of_le f118.lt r126)
  have ne_b31_b38_123 : b31 ≠ b38_123 := Nat.ne_of_lt (Nat.lt_of_lt_of_le f119.lt r126)
  have ne_b44_b38_123 : b44 ≠ b38_123 := Nat.ne_of_lt (Nat.lt_of_lt_of_le f120.lt r126)
  have ne_b60_b38_123 : b60 ≠ b38_123 := Nat.ne_of_lt (Nat.lt_of_lt_of_le f121.lt r126)
  have ne_b86_b38_123 : b86 ≠ b38_123 := Nat.ne_of_lt (Nat.lt_of_lt_of_le f122.lt r126)
  have ne_b116_b38_123 : b116 ≠ b38_123 := Nat.ne_of_lt (Nat.lt_of_lt_of_le A116.lt r126)
  have g_b38_123 : n0 ≤ b38_123 := Nat.le_trans Zs116 r126
  have sz_b38_123 : h0.size ≤ b38_123 := Nat.le_trans K116.1 r126
  have ne_b3_b59_123 : b3 ≠ b59_123 := Nat.ne_of_lt (Nat.lt_of_lt_of_le f117.lt r127)
  have ne_b17_b59_123 : b17 ≠ b59_123 := Nat.ne_of_lt (Nat.lt_of_lt_of_le f118.lt r127)
  have ne_b31_b59_123 : b31 ≠ b59_123 := Nat.ne_of_lt (Nat.lt_of_lt_of_le f119.lt r127)
  have ne_b44_b59_123 : b44 ≠ b59_123 := Nat.ne_of_lt (Nat.lt_of_lt_of_le f120.lt r127)
  have ne_b60_b59_123 : b60 ≠ b59_123 := Nat.ne_of_lt (Nat.lt_of_lt_of_le f121.lt r127)
  have ne_b86_b59_123 : b86 ≠ b59_123 := Nat.ne_of_lt (Nat.lt_of_lt_of_le f122.lt r127)
  have ne_b116_b59_123 : b116 ≠ b59_123 := Nat.ne_of_lt (Nat.lt_of_lt_of_le A116.lt r127)
  have g_b59_123 : n0 ≤ b59_123 := Nat.le_trans Zs116 r127
  have sz_b59_123 : h0.size ≤ b59_123 := Nat.le_trans K116.1 r127
  have ne_b3_b82_123 : b3 ≠ b82_123 := Nat.ne_of_lt (Nat.lt_of_lt_of_le f117.lt r128)
  have ne_b17_b82_123 : b17 ≠ b82_123 := Nat.ne_of_lt (Nat.lt_of_lt_of_le f118.lt r128)
  have ne_b31_b82_123 : b31 ≠ b82_123 := Nat.ne_of_lt (Nat.lt_of_lt_of_le f119.lt r128)
  have ne_b44_b82_123 : b44 ≠ b82_123 := Nat.ne_of_lt (Nat.lt_of_lt_of_le f120.lt r128)
  have ne_b60_b82_123 : b60 ≠ b82_123 := Nat.ne_of_lt (Nat.lt_of_lt_of_le f121.lt r128)
  have ne_b86_b82_123 : b86 ≠ b82_123 := Nat.ne_of_lt (Nat.lt_of_lt_of_le f122.lt r128)
  have ne_b116_b82_123 : b116 ≠ b82_123 := Nat.ne_of_lt (Nat.lt_of_lt_of_le A116.lt r128)
  have g_b82_123 : n0 ≤ b82_123 := Nat.le_trans Zs116 r128
  have sz_b82_123 : h0.size ≤ b82_123 := Nat.le_trans K116.1 r128
  have f151 := f117.keep K123q (own_niS ne_b3_b116 own_ni0)
  have f152 := f118.keep K123q (own_niS ne_b17_b116 own_ni0)
  have f153 := f119.keep K123q (own_niS ne_b31_b116 own_ni0)
  have f154 := f120.keep K123q (own_niS ne_b44_b116 own_ni0)
  have f155 := f121.keep K123q (own_niS ne_b60_b116 own_ni0)
  have f156 := f122.keep K123q (own_niS ne_b86_b116 own_ni0)
  have f157 := A116.keep K123q
  have K123 : Keep h0 T123.heap [] := K116.trans K123q (own_allS (Or.inr sz_b116) own_all0)
  have Zs123 := Nat.le_trans Zs116 K123q.1
  obtain ⟨cq158, kq158, q158a, q158b, q158c⟩ := isOf hZ rfl f139
  obtain ⟨_, _, ⟨T158, L158, k158, n158⟩, -, X158, ⟨Lc158, hQ158, lq158, yq158, zq158⟩, st158⟩ := X123.virtualBack hx (y := (⟨"com/example/leeway/leeway/lp/BasisInverse", "solveTransposed", "([D)V"⟩ : MethodName)) (z := (⟨"com/example/leeway/leeway/lp/BasisInverse", "solveTransposed", "([D)V"⟩ : MethodName)) hown (mvT hZ (hw _ (List.mem_of_getElem? (i := 25) rfl))) (mvT hZ (hw _ (List.mem_of_getElem? (i := 26) rfl))) (notFace_of_selects (args := #[]) (mvT hZ (hw _ (List.mem_of_getElem? (i := 28) rfl)))) (mvT hZ (hw _ (List.mem_of_getElem? (i := 28) rfl))) (mvT hZ (hw _ (List.mem_of_getElem? (i := 27) rfl))) (by decide) (backOf (W := 0) (so0 l Z a0 hw [] b116 b2_123 b19_123 b38_123 b59_123 b82_123 k2_123 k19_123 k38_123 k59_123 k82_123 b86 k86 (FP.i2d p0) (FP.i2d p1) (FP.i2d p2) T123.heap n0 Zs123 f140 f141 f142 f143 f144 f145 f139 f146 f147 f148 f149 f150 f156 g_b86 (Ne.symm ne_b86_b116) (Ne.symm ne_b86_b2_123) (Ne.symm ne_b86_b19_123) (Ne.symm ne_b86_b38_123) (Ne.symm ne_b86_b59_123) (Ne.symm ne_b86_b82_123)) hZ (hw _ (List.mem_of_getElem? (i := 29) rfl)) (hw _ (List.mem_of_getElem? (i := 8) rfl)) (by decide) (by decide)) q158a q158c (g := (mkF m 240 #[.val (.int p0), .val (.int p1), .val (.int p2), .val (.int p3), .val (.int p4), .val (.int ra), .val (.int rb), .val (.int rc), .val (.int (0 : Int32)), .val (.double d1), .second, .val (.double d2), .second, .val (.ref b3), .val (.ref b17), .val (.ref b31), .val (.ref b44), .val (.ref b60), .val (.ref b86), .val (.ref b116)] [(.ref b86), (.ref b116)])) rfl (by rw [hml]; rfl) (Steps.refl _) (argsL := [(.ref b86)]) (rest := []) (lenOf pd_4 rfl) rfl (by show 2 * 0 + _ ≤ _; exact Nat.le_of_eq rfl) (hb hby at_240) (fun _ _ => ⟨rfl, rfl, (by decide : 12 + 0 ≤ _), (by decide : 199 + 0 ≤ _)⟩)
  dsimp only [Pt.U, Pt.locs, Pt.cells, Pt.slots] at X158 lq158 yq158 zq158 st158 hQ158
  rw [lq158, yq158, zq158] at X158
  obtain ⟨rfl, N158q, eh158⟩ := hQ158
  have N158 := Fr.app N123 N158q
  have e158 : T158.heap = T123.heap := eh158
  obtain ⟨_, _, ⟨T159, L159, k159, n159⟩, -, X159, ⟨Lc159, hQ159, lq159, yq159, zq159⟩, st159⟩ := Jvm.LawKit.callS X158 hx (y := (⟨"com/example/leeway/leeway/lp/BasisInverseSolveTransposedPinLaw", "column", "(IIIII[D[D[D[D)Z"⟩ : MethodName)) hown (mvT hZ (hw _ (List.mem_of_getElem? (i := 32) rfl))) (mvT hZ (hw _ (List.mem_of_getElem? (i := 33) rfl))) (mvT hZ (hw _ (List.mem_of_getElem? (i := 2) rfl))) (mvT hZ (hw _ (List.mem_of_getElem? (i := 34) rfl))) (by decide) (backOf (W := 0) (cC0 l Z a0 hw [] (0 : Int32) ra rb rc b86 b3 b44 b60 k86 k3 k44 k60 (FP.i2d p0) (FP.i2d p1) (FP.i2d p2) v0 v1 v2 (FP.i2d p0) (FP.i2d p1) (FP.i2d p2) d2 (FP.i2d u3) (FP.i2d p0) yj0 yb yc T123.heap n0 Zs123 f156 f151 f155 f154 hjj_260 hcj_260 hyj_260 hd91_260) hZ (hw _ (List.mem_of_getElem? (i := 34) rfl)) (hw _ (List.mem_of_getElem? (i := 2) rfl)) (by decide) (by decide)) (g := (mkF m 260 #[.val (.int p0), .val (.int p1), .val (.int p2), .val (.int p3), .val (.int p4), .val (.int ra), .val (.int rb), .val (.int rc), .val (.int (0 : Int32)), .val (.double d1), .second, .val (.double d2), .second, .val (.ref b3), .val (.ref b17), .val (.ref b31), .val (.ref b44), .val (.ref b60), .val (.ref b86), .val (.ref b116)] [(.ref b60), (.ref b44), (.ref b3), (.ref b86), (.int rc), (.int rb), (.int ra), (.int (0 : Int32)), (.int (0 : Int32))])) rfl (by rw [hml]; rfl) (argsL := [(.int (0 : Int32)), (.int (0 : Int32)), (.int ra), (.int rb), (.int rc), (.ref b86), (.ref b3), (.ref b44), (.ref b60)]) (rest := []) (lenOf pd_5 rfl) rfl (by show 2 * 0 + _ ≤ _; exact Nat.le_of_eq rfl) (hb hby at_260) (fun _ _ => ⟨rfl, e158, (by decide : 12 + 0 ≤ _), (by decide : 199 + 0 ≤ _)⟩)
  dsimp only [Pt.U, Pt.locs, Pt.cells, Pt.slots] at X159 lq159 yq159 zq159 st159 hQ159
  rw [lq159, yq159, zq159] at X159
  obtain ⟨rfl, N159q, eh159⟩ := hQ159
  have N159 := Fr.app N158 N159q
  have e159 : T159.heap = T123.heap := eh159
  obtain ⟨_, _, ⟨T160, L160, k160, n160⟩, -, X160, ⟨Lc160, hQ160, lq160, yq160, zq160⟩, st160⟩ := Jvm.LawKit.callS X159 hx (y := (⟨"com/example/leeway/leeway/lp/BasisInverseSolveTransposedPinLaw", "column", "(IIIII[D[D[D[D)Z"⟩ : MethodName)) hown (mvT hZ (hw _ (List.mem_of_getElem? (i := 32) rfl))) (mvT hZ (hw _ (List.mem_of_getElem? (i := 33) rfl))) (mvT hZ (hw _ (List.mem_of_getElem? (i := 2) rfl))) (mvT hZ (hw _ (List.mem_of_getElem? (i := 34) rfl))) (by decide) (backOf (W := 0) (cC0 l Z a0 hw [] (1 : Int32) ra rb rc b86 b3 b44 b60 k86 k3 k44 k60 (FP.i2d p0) (FP.i2d p1) (FP.i2d p2) v0 v1 v2 (FP.i2d p0) (FP.i2d p1) (FP.i2d p2) d2 (FP.i2d u3) (FP.i2d p1) yj1 yb yc T123.heap n0 Zs123 f156 f151 f155 f154 hjj_283 hcj_283 hyj_283 hd91_283) hZ (hw _ (List.mem_of_getElem? (i := 34) rfl)) (hw _ (List.mem_of_getElem? (i := 2) rfl)) (by decide) (by decide)) (g := (mkF m 283 #[.val (.int p0), .val (.int p1), .val (.int p2), .val (.int p3), .val (.int p4), .val (.int ra), .val (.int rb), .val (.int rc), .val (.int (0 : Int32)), .val (.double d1), .second, .val (.double d2), .second, .val (.ref b3), .val (.ref b17), .val (.ref b31), .val (.ref b44), .val (.ref b60), .val (.ref b86), .val (.ref b116)] [(.ref b60), (.ref b44), (.ref b3), (.ref b86), (.int rc), (.int rb), (.int ra), (.int (0 : Int32)), (.int (1 : Int32))])) rfl (by rw [hml]; rfl) (argsL := [(.int (1 : Int32)), (.int (0 : Int32)), (.int ra), (.int rb), (.int rc), (.ref b86), (.ref b3), (.ref b44), (.ref b60)]) (rest := []) (lenOf pd_5 rfl) rfl (by show 2 * 0 + _ ≤ _; exact Nat.le_of_eq rfl) (hb hby at_283) (fun _ _ => ⟨rfl, e159, (by decide : 12 + 0 ≤ _), (by decide : 199 + 0 ≤ _)⟩)
  dsimp only [Pt.U, Pt.locs, Pt.cells, Pt.slots] at X160 lq160 yq160 zq160 st160 hQ160
  rw [lq160, yq160, zq160] at X160
  obtain ⟨rfl, N160q, eh160⟩ := hQ160
  have N160 := Fr.app N159 N160q
  have e160 : T160.heap = T123.heap := eh160
  obtain ⟨_, _, ⟨T161, L161, k161, n161⟩, -, X161, ⟨Lc161, hQ161, lq161, yq161, zq161⟩, st161⟩ := Jvm.LawKit.callS X160 hx (y := (⟨"com/example/leeway/leeway/lp/BasisInverseSolveTransposedPinLaw", "column", "(IIIII[D[D[D[D)Z"⟩ : MethodName)) hown (mvT hZ (hw _ (List.mem_of_getElem? (i := 32) rfl))) (mvT hZ (hw _ (List.mem_of_getElem? (i := 33) rfl))) (mvT hZ (hw _ (List.mem_of_getElem? (i := 2) rfl))) (mvT hZ (hw _ (List.mem_of_getElem? (i := 34) rfl))) (by decide) (backOf (W := 0) (cC0 l Z a0 hw [] (2 : Int32) ra rb rc b86 b3 b44 b60 k86 k3 k44 k60 (FP.i2d p0) (FP.i2d p1) (FP.i2d p2) v0 v1 v2 (FP.i2d p0) (FP.i2d p1) (FP.i2d p2) d2 (FP.i2d u3) (FP.i2d p2) yj2 yb yc T123.heap n0 Zs123 f156 f151 f155 f154 hjj_306 hcj_306 hyj_306 hd91_306) hZ (hw _ (List.mem_of_getElem? (i := 34) rfl)) (hw _ (List.mem_of_getElem? (i := 2) rfl)) (by decide) (by decide)) (g := (mkF m 306 #[.val (.int p0), .val (.int p1), .val (.int p2), .val (.int p3), .val (.int p4), .val (.int ra), .val (.int rb), .val (.int rc), .val (.int (0 : Int32)), .val (.double d1), .second, .val (.double d2), .second, .val (.ref b3), .val (.ref b17), .val (.ref b31), .val (.ref b44), .val (.ref b60), .val (.ref b86), .val (.ref b116)] [(.ref b60), (.ref b44), (.ref b3), (.ref b86), (.int rc), (.int rb), (.int ra), (.int (0 : Int32)), (.int (2 : Int32))])) rfl (by rw [hml]; rfl) (argsL := [(.int (2 : Int32)), (.int (0 : Int32)), (.int ra), (.int rb), (.int rc), (.ref b86), (.ref b3), (.ref b44), (.ref b60)]) (rest := []) (lenOf pd_5 rfl) rfl (by show 2 * 0 + _ ≤ _; exact Nat.le_of_eq rfl) (hb hby at_306) (fun _ _ => ⟨rfl, e160, (by decide : 12 + 0 ≤ _), (by decide : 199 + 0 ≤ _)⟩)
  dsimp only [Pt.U, Pt.locs, Pt.cells, Pt.slots] at X161 lq161 yq161 zq161 st161 hQ161
  rw [lq161, yq161, zq161] at X161
  obtain ⟨rfl, N161q, eh161⟩ := hQ161
  have N161 := Fr.app N160 N161q
  have e161 : T161.heap = T123.heap := eh161
  obtain ⟨fs, hr, hrun, hended, hW, hsame⟩ := X161.leave (v := some (.int (1 : Int32))) (fun h => by rw [Bd.returns] at h; cases h)
  refine ⟨_, _, pre0 _ ?_, hrun, hended, _, _, rfl, ?_, ⟨_, rfl⟩, hW, hsame.mono (by decide) (by decide)⟩
  · show Steps p.tables e below (s₁.setTop (mkF m 0 #[.val (.int p0), .val (.int p1), .val (.int p2), .val (.int p3), .val (.int p4), .unset, .unset, .unset, .unset, .unset, .unset, .unset, .unset, .unset, .unset, .unset, .unset, .unset, .unset, .unset] [])) _
    refine XS.iload X0.here hx rfl (hb hby at_0) rfl ?_
    refine XS.bipush X0.here hx rfl (hb hby at_2) ?_
    refine XS.iushr X0.here hx rfl (hb hby at_4) rfl ?_
    refine XS.iconst X0.here hx rfl (hb hby at_5) ?_
    refine iremM (g := (mkF m 6 #[.val (.int p0), .val (.int p1), .val (.int p2), .val (.int p3), .val (.int p4), .unset, .unset, .unset, .unset, .unset, .unset, .unset, .unset, .unset, .unset, .unset, .unset, .unset, .unset, .unset] [(.int (3 : Int32)), (.int ((p4.toUInt32 >>> ((24 : Int32) &&& 31).toUInt32).toInt32))])) X0 hx rfl (hb hby at_6) rfl (by decide) ?_
    show Steps p.tables e below (s₁.setTop (mkF m 7 #[.val (.int p0), .val (.int p1), .val (.int p2), .val (.int p3), .val (.int p4), .unset, .unset, .unset, .unset, .unset, .unset, .unset, .unset, .unset, .unset, .unset, .unset, .unset, .unset, .unset] [(.int (((p4.toUInt32 >>> ((24 : Int32) &&& 31).toUInt32).toInt32) % (3 : Int32)))])) _
    rw [hv6]
    show Steps p.tables e below (s₁.setTop (mkF m 7 #[.val (.int p0), .val (.int p1), .val (.int p2), .val (.int p3), .val (.int p4), .unset, .unset, .unset, .unset, .unset, .unset, .unset, .unset, .unset, .unset, .unset, .unset, .unset, .unset, .unset] [(.int ra)])) _
    refine XS.istore X0.here hx rfl (hb hby at_7) rfl (l' := #[.val (.int p0), .val (.int p1), .val (.int p2), .val (.int p3), .val (.int p4), .val (.int ra), .unset, .unset, .unset, .unset, .unset, .unset, .unset, .unset, .unset, .unset, .unset, .unset, .unset, .unset]) rfl ?_
    show Steps p.tables e below (s₁.setTop (mkF m 9 #[.val (.int p0), .val (.int p1), .val (.int p2), .val (.int p3), .val (.int p4), .val (.int ra), .unset, .unset, .unset, .unset, .unset, .unset, .unset, .unset, .unset, .unset, .unset, .unset, .unset, .unset] [])) _
    refine XS.iload X0.here hx rfl (hb hby at_9) rfl ?_
    refine XS.iconst X0.here hx rfl (hb hby at_11) ?_
    refine XS.iadd X0.here hx rfl (hb hby at_12) rfl ?_
    refine XS.iload X0.here hx rfl (hb hby at_13) rfl ?_
    refine XS.iconst X0.here hx rfl (hb hby at_15) ?_
    refine XS.iushr X0.here hx rfl (hb hby at_16) rfl ?_
    refine XS.iconst X0.here hx rfl (hb hby at_17) ?_
    refine XS.iand X0.here hx rfl (hb hby at_18) rfl ?_
    show Steps p.tables e below (s₁.setTop (mkF m 19 #[.val (.int p0), .val (.int p1), .val (.int p2), .val (.int p3), .val (.int p4), .val (.int ra), .unset, .unset, .unset, .unset, .unset, .unset, .unset, .unset, .unset, .unset, .unset, .unset, .unset, .unset] [(.int (((p4.toUInt32 >>> ((2 : Int32) &&& 31).toUInt32).toInt32) &&& (1 : Int32))), (.int (ra + (1 : Int32)))])) _
    refine XS.iadd X0.here hx rfl (hb hby at_19) rfl ?_
    refine XS.iconst X0.here hx rfl (hb hby at_20) ?_
    refine iremM (g := (mkF m 21 #[.val (.int p0), .val (.int p1), .val (.int p2), .val (.int p3), .val (.int p4), .val (.int ra), .unset, .unset, .unset, .unset, .unset, .unset, .unset, .unset, .unset, .unset, .unset, .unset, .unset, .unset] [(.int (3 : Int32)), (.int ((ra + (1 : Int32)) + (((p4.toUInt32 >>> ((2 : Int32) &&& 31).toUInt32).toInt32) &&& (1 : Int32))))])) X0 hx rfl (hb hby at_21) rfl (by decide) ?_
    show Steps p.tables e below (s₁.setTop (mkF m 22 #[.val (.int p0), .val (.int p1), .val (.int p2), .val (.int p3), .val (.int p4), .val (.int ra), .unset, .unset, .unset, .unset, .unset, .unset, .unset, .unset, .unset, .unset, .unset, .unset, .unset, .unset] [(.int (((ra + (1 : Int32)) + (((p4.toUInt32 >>> ((2 : Int32) &&& 31).toUInt32).toInt32) &&& (1 : Int32))) % (3 : Int32)))])) _
    rw [hv21]
    show Steps p.tables e below (s₁.setTop (mkF m 22 #[.val (.int p0), .val (.int p1), .val (.int p2), .val (.int p3), .val (.int p4), .val (.int ra), .unset, .unset, .unset, .unset, .unset, .unset, .unset, .unset, .unset, .unset, .unset, .unset, .unset, .unset] [(.int rb)])) _
    refine XS.istore X0.here hx rfl (hb hby at_22) rfl (l' := #[.val (.int p0), .val (.int p1), .val (.int p2), .val (.int p3), .val (.int p4), .val (.int ra), .val (.int rb), .unset, .unset, .unset, .unset, .unset, .unset, .unset, .unset, .unset, .unset, .unset, .unset, .unset]) rfl ?_
    refine XS.iconst X0.here hx rfl (hb hby at_24) ?_
    refine XS.iload X0.here hx rfl (hb hby at_25) rfl ?_
    refine XS.isub X0.here hx rfl (hb hby at_27) rfl ?_
    show Steps p.tables e below (s₁.setTop (mkF m 28 #[.val (.int p0), .val (.int p1), .val (.int p2), .val (.int p3), .val (.int p4), .val (.int ra), .val (.int rb), .unset, .unset, .unset, .unset, .unset, .unset, .unset, .unset, .unset, .unset, .unset, .unset, .unset] [(.int ((3 : Int32) - ra))])) _
    refine XS.iload X0.here hx rfl (hb hby at_28) rfl ?_
    refine XS.isub X0.here hx rfl (hb hby at_30) rfl ?_
    show Steps p.tables e below (s₁.setTop (mkF m 31 #[.val (.int p0), .val (.int p1), .val (.int p2), .val (.int p3), .val (.int p4), .val (.int ra), .val (.int rb), .unset, .unset, .unset, .unset, .unset, .unset, .unset, .unset, .unset, .unset, .unset, .unset, .unset] [(.int (((3 : Int32) - ra) - rb))])) _
    rw [hv30]
    show Steps p.tables e below (s₁.setTop (mkF m 31 #[.val (.int p0), .val (.int p1), .val (.int p2), .val (.int p3), .val (.int p4), .val (.int ra), .val (.int rb), .unset, .unset, .unset, .unset, .unset, .unset, .unset, .unset, .unset, .unset, .unset, .unset, .unset] [(.int rc)])) _
    refine XS.istore X0.here hx rfl (hb hby at_31) rfl (l' := #[.val (.int p0), .val (.int p1), .val (.int p2), .val (.int p3), .val (.int p4), .val (.int ra), .val (.int rb), .val (.int rc), .unset, .unset, .unset, .unset, .unset, .unset, .unset, .unset, .unset, .unset, .unset, .unset]) rfl ?_
    refine XS.iload X0.here hx rfl (hb hby at_33) rfl ?_
    refine XS.iconst X0.here hx rfl (hb hby at_35) ?_
    refine XS.iushr X0.here hx rfl (hb hby at_36) rfl ?_
    refine XS.iconst X0.here hx rfl (hb hby at_37) ?_
    show Steps p.tables e below (s₁.setTop (mkF m 38 #[.val (.int p0), .val (.int p1), .val (.int p2), .val (.int p3), .val (.int p4), .val (.int ra), .val (.int rb), .val (.int rc), .unset, .unset, .unset, .unset, .unset, .unset, .unset, .unset, .unset, .unset, .unset, .unset] [(.int (3 : Int32)), (.int ((p4.toUInt32 >>> ((3 : Int32) &&& 31).toUInt32).toInt32))])) _
    refine XS.iand X0.here hx rfl (hb hby at_38) rfl ?_
    refine XS.iconst X0.here hx rfl (hb hby at_39) ?_
    refine iremM (g := (mkF m 40 #[.val (.int p0), .val (.int p1), .val (.int p2), .val (.int p3), .val (.int p4), .val (.int ra), .val (.int rb), .val (.int rc), .unset, .unset, .unset, .unset, .unset, .unset, .unset, .unset, .unset, .unset, .unset, .unset] [(.int (3 : Int32)), (.int (((p4.toUInt32 >>> ((3 : Int32) &&& 31).toUInt32).toInt32) &&& (3 : Int32)))])) X0 hx rfl (hb hby at_40) rfl (by decide) ?_
    show Steps p.tables e below (s₁.setTop (mkF m 41 #[.val (.int p0), .val (.int p1), .val (.int p2), .val (.int p3), .val (.int p4), .val (.int ra), .val (.int rb), .val (.int rc), .unset, .unset, .unset, .unset, .unset, .unset, .unset, .unset, .unset, .unset, .unset, .unset] [(.int ((((p4.toUInt32 >>> ((3 : Int32) &&& 31).toUInt32).toInt32) &&& (3 : Int32)) % (3 : Int32)))])) _
    rw [hv40]
    show Steps p.tables e below (s₁.setTop (mkF m 41 #[.val (.int p0), .val (.int p1), .val (.int p2), .val (.int p3), .val (.int p4), .val (.int ra), .val (.int rb), .val (.int rc), .unset, .unset, .unset, .unset, .unset, .unset, .unset, .unset, .unset, .unset, .unset, .unset] [(.int (0 : Int32))])) _
    refine XS.istore X0.here hx rfl (hb hby at_41) rfl (l' := #[.val (.int p0), .val (.int p1), .val (.int p2), .val (.int p3), .val (.int p4), .val (.int ra), .val (.int rb), .val (.int rc), .val (.int (0 : Int32)), .unset, .unset, .unset, .unset, .unset, .unset, .unset, .unset, .unset, .unset, .unset]) rfl ?_
    refine XS.iload X0.here hx rfl (hb hby at_43) rfl ?_
    refine XS.iconst X0.here hx rfl (hb hby at_45) ?_
    refine XS.iushr X0.here hx rfl (hb hby at_46) rfl ?_
    show Steps p.tables e below (s₁.setTop (mkF m 47 #[.val (.int p0), .val (.int p1), .val (.int p2), .val (.int p3), .val (.int p4), .val (.int ra), .val (.int rb), .val (.int rc), .val (.int (0 : Int32)), .unset, .unset, .unset, .unset, .unset, .unset, .unset, .unset, .unset, .unset, .unset] [(.int ((p4.toUInt32 >>> ((5 : Int32) &&& 31).toUInt32).toInt32))])) _
    refine XS.iconst X0.here hx rfl (hb hby at_47) ?_
    refine XS.iand X0.here hx rfl (hb hby at_48) rfl ?_
    show Steps p.tables e below (s₁.setTop (mkF m 49 #[.val (.int p0), .val (.int p1), .val (.int p2), .val (.int p3), .val (.int p4), .val (.int ra), .val (.int rb), .val (.int rc), .val (.int (0 : Int32)), .unset, .unset, .unset, .unset, .unset, .unset, .unset, .unset, .unset, .unset, .unset] [(.int (((p4.toUInt32 >>> ((5 : Int32) &&& 31).toUInt32).toInt32) &&& (3 : Int32)))])) _
    rw [hv48]
    show Steps p.tables e below (s₁.setTop (mkF m 49 #[.val (.int p0), .val (.int p1), .val (.int p2), .val (.int p3), .val (.int p4), .val (.int ra), .val (.int rb), .val (.int rc), .val (.int (0 : Int32)), .unset, .unset, .unset, .unset, .unset, .unset, .unset, .unset, .unset, .unset, .unset] [(.int pa)])) _
    refine st1 _ ?_
    show Steps p.tables e below (T1.setTop (mkF m 52 #[.val (.int p0), .val (.int p1), .val (.int p2), .val (.int p3), .val (.int p4), .val (.int ra), .val (.int rb), .val (.int rc), .val (.int (0 : Int32)), .unset, .unset, .unset, .unset, .unset, .unset, .unset, .unset, .unset, .unset, .unset] [(.double d1)])) _
    refine XS.dstore X1.here hx rfl (hb hby at_52) rfl (l' := #[.val (.int p0), .val (.int p1), .val (.int p2), .val (.int p3), .val (.int p4), .val (.int ra), .val (.int rb), .val (.int rc), .val (.int (0 : Int32)), .val (.double d1), .second, .unset, .unset, .unset, .unset, .unset, .unset, .unset, .unset, .unset]) rfl ?_
    refine XS.iload X1.here hx rfl (hb hby at_54) rfl ?_
    refine XS.bipush X1.here hx rfl (hb hby at_56) ?_
    refine XS.iushr X1.here hx rfl (hb hby at_58) rfl ?_
    show Steps p.tables e below (T1.setTop (mkF m 59 #[.val (.int p0), .val (.int p1), .val (.int p2), .val (.int p3), .val (.int p4), .val (.int ra), .val (.int rb), .val (.int rc), .val (.int (0 : Int32)), .val (.double d1), .second, .unset, .unset, .unset, .unset, .unset, .unset, .unset, .unset, .unset] [(.int ((p4.toUInt32 >>> ((7 : Int32) &&& 31).toUInt32).toInt32))])) _
    refine XS.iconst X1.here hx rfl (hb hby at_59) ?_
    refine XS.iand X1.here hx rfl (hb hby at_60) rfl ?_
    show Steps p.tables e below (T1.setTop (mkF m 61 #[.val (.int p0), .val (.int p1), .val (.int p2), .val (.int p3), .val (.int p4), .val (.int ra), .val (.int rb), .val (.int rc), .val (.int (0 : Int32)), .val (.double d1), .second, .unset, .unset, .unset, .unset, .unset, .unset, .unset, .unset, .unset] [(.int (((p4.toUInt32 >>> ((7 : Int32) &&& 31).toUInt32).toInt32) &&& (3 : Int32)))])) _
    rw [hv60]
    show Steps p.tables e below (T1.setTop (mkF m 61 #[.val (.int p0), .val (.int p1), .val (.int p2), .val (.int p3), .val (.int p4), .val (.int ra), .val (.int rb), .val (.int rc), .val (.int (0 : Int32)), .val (.double d1), .second, .unset, .unset, .unset, .unset, .unset, .unset, .unset, .unset, .unset] [(.int pb)])) _
    refine st2 _ ?_
    show Steps p.tables e below (T2.setTop (mkF m 64 #[.val (.int p0), .val (.int p1), .val (.int p2), .val (.int p3), .val (.int p4), .val (.int ra), .val (.int rb), .val (.int rc), .val (.int (0 : Int32)), .val (.double d1), .second, .unset, .unset, .unset, .unset, .unset, .unset, .unset, .unset, .unset] [(.double d2)])) _
    refine XS.dstore X2.here hx rfl (hb hby at_64) rfl (l' := #[.val (.int p0), .val (.int p1), .val (.int p2), .val (.int p3), .val (.int p4), .val (.int ra), .val (.int rb), .val (.int rc), .val (.int (0 : Int32)), .val (.double d1), .second, .val (.double d2), .second, .unset, .unset, .unset, .unset, .unset, .unset, .unset]) rfl ?_
    refine XS.iconst X2.here hx rfl (hb hby at_66) ?_
    refine st3 _ ?_
    show Steps p.tables e below (T3.setTop (mkF m 69 #[.val (.int p0), .val (.int p1), .val (.int p2), .val (.int p3), .val (.int p4), .val (.int ra), .val (.int rb), .val (.int rc), .val (.int (0 : Int32)), .val (.double d1), .second, .val (.double d2), .second, .unset, .unset, .unset, .unset, .unset, .unset, .unset] [(.ref b3)])) _
    refine XS.dup X3.here hx rfl (hb hby at_69) rfl rfl ?_
    show Steps p.tables e below (T3.setTop (mkF m 70 #[.val (.int p0), .val (.int p1), .val (.int p2), .val (.int p3), .val (.int p4), .val (.int ra), .val (.int rb), .val (.int rc), .val (.int (0 : Int32)), .val (.double d1), .second, .val (.double d2), .second, .unset, .unset, .unset, .unset, .unset, .unset, .unset] [(.ref b3), (.ref b3)])) _
    refine XS.iconst X3.here hx rfl (hb hby at_70) ?_
    refine XS.iloadN X3.here hx rfl (hb hby at_71) rfl ?_
    refine XS.i2b X3.here hx rfl (hb hby at_72) rfl ?_
    show Steps p.tables e below (T3.setTop (mkF m 73 #[.val (.int p0), .val (.int p1), .val (.int p2), .val (.int p3), .val (.int p4), .val (.int ra), .val (.int rb), .val (.int rc), .val (.int (0 : Int32)), .val (.double d1), .second, .val (.double d2), .second, .unset, .unset, .unset, .unset, .unset, .unset, .unset] [(.int (p3.toInt8.toInt32)), (.int (0 : Int32)), (.ref b3), (.ref b3)])) _
    rw [hv72]
    show Steps p.tables e below (T3.setTop (mkF m 73 #[.val (.int p0), .val (.int p1), .val (.int p2), .val (.int p3), .val (.int p4), .val (.int ra), .val (.int rb), .val (.int rc), .val (.int (0 : Int32)), .val (.double d1), .second, .val (.double d2), .second, .unset, .unset, .unset, .unset, .unset, .unset, .unset] [(.int u0), (.int (0 : Int32)), (.ref b3), (.ref b3)])) _
    refine XS.i2dS X3.here hx rfl (hb hby at_73) rfl (v := (FP.i2d u0)) rfl ?_
    refine st5 _ ?_
    show Steps p.tables e below (T5.setTop (mkF m 75 #[.val (.int p0), .val (.int p1), .val (.int p2), .val (.int p3), .val (.int p4), .val (.int ra), .val (.int rb), .val (.int rc), .val (.int (0 : Int32)), .val (.double d1), .second, .val (.double d2), .second, .unset, .unset, .unset, .unset, .unset, .unset, .unset] [(.ref b3)])) _
    refine XS.dup X5.here hx rfl (hb hby at_75) rfl rfl ?_
    refine XS.iconst X5.here hx rfl (hb hby at_76) ?_
    show Steps p.tables e below (T5.setTop (mkF m 77 #[.val (.int p0), .val (.int p1), .val (.int p2), .val (.int p3), .val (.int p4), .val (.int ra), .val (.int rb), .val (.int rc), .val (.int (0 : Int32)), .val (.double d1), .second, .val (.double d2), .second, .unset, .unset, .unset, .unset, .unset, .unset, .unset] [(.int (1 : Int32)), (.ref b3), (.ref b3)])) _
    refine XS.iloadN X5.here hx rfl (hb hby at_77) rfl ?_
    refine XS.bipush X5.here hx rfl (hb hby at_78) ?_
    refine XS.ishr X5.here hx rfl (hb hby at_80) rfl ?_
    refine XS.i2b X5.here hx rfl (hb hby at_81) rfl ?_
    show Steps p.tables e below (T5.setTop (mkF m 82 #[.val (.int p0), .val (.int p1), .val (.int p2), .val (.int p3), .val (.int p4), .val (.int ra), .val (.int rb), .val (.int rc), .val (.int (0 : Int32)), .val (.double d1), .second, .val (.double d2), .second, .unset, .unset, .unset, .unset, .unset, .unset, .unset] [(.int ((p3 >>> ((8 : Int32) &&& 31)).toInt8.toInt32)), (.int (1 : Int32)), (.ref b3), (.ref b3)])) _
    rw [hv81]
    show Steps p.tables e below (T5.setTop (mkF m 82 #[.val (.int p0), .val (.int p1), .val (.int p2), .val (.int p3), .val (.int p4), .val (.int ra), .val (.int rb), .val (.int rc), .val (.int (0 : Int32)), .val (.double d1), .second, .val (.double d2), .second, .unset, .unset, .unset, .unset, .unset, .unset, .unset] [(.int u1), (.int (1 : Int32)), (.ref b3), (.ref b3)])) _
    refine XS.i2dS X5.here hx rfl (hb hby at_82) rfl (v := (FP.i2d u1)) rfl ?_
    refine st8 _ ?_
    show Steps p.tables e below (T8.setTop (mkF m 84 #[.val (.int p0), .val (.int p1), .val (.int p2), .val (.int p3), .val (.int p4), .val (.int ra), .val (.int rb), .val (.int rc), .val (.int (0 : Int32)), .val (.double d1), .second, .val (.double d2), .second, .unset, .unset, .unset, .unset, .unset, .unset, .unset] [(.ref b3)])) _
    refine XS.dup X8.here hx rfl (hb hby at_84) rfl rfl ?_
    show Steps p.tables e below (T8.setTop (mkF m 85 #[.val (.int p0), .val (.int p1), .val (.int p2), .val (.int p3), .val (.int p4), .val (.int ra), .val (.int rb), .val (.int rc), .val (.int (0 : Int32)), .val (.double d1), .second, .val (.double d2), .second, .unset, .unset, .unset, .unset, .unset, .unset, .unset] [(.ref b3), (.ref b3)])) _
    refine XS.iconst X8.here hx rfl (hb hby at_85) ?_
    refine XS.iloadN X8.here hx rfl (hb hby at_86) rfl ?_
    refine XS.bipush X8.here hx rfl (hb hby at_87) ?_
    refine XS.ishr X8.here hx rfl (hb hby at_89) rfl ?_
    refine XS.i2b X8.here hx rfl (hb hby at_90) rfl ?_
    show Steps p.tables e below (T8.setTop (mkF m 91 #[.val (.int p0), .val (.int p1), .val (.int p2), .val (.int p3), .val (.int p4), .val (.int ra), .val (.int rb), .val (.int rc), .val (.int (0 : Int32)), .val (.double d1), .second, .val (.double d2), .second, .unset, .unset, .unset, .unset, .unset, .unset, .unset] [(.int ((p3 >>> ((16 : Int32) &&& 31)).toInt8.toInt32)), (.int (2 : Int32)), (.ref b3), (.ref b3)])) _
    rw [hv90]
    show Steps p.tables e below (T8.setTop (mkF m 91 #[.val (.int p0), .val (.int p1), .val (.int p2), .val (.int p3), .val (.int p4), .val (.int ra), .val (.int rb), .val (.int rc), .val (.int (0 : Int32)), .val (.double d1), .second, .val (.double d2), .second, .unset, .unset, .unset, .unset, .unset, .unset, .unset] [(.int u2), (.int (2 : Int32)), (.ref b3), (.ref b3)])) _
    refine XS.i2dS X8.here hx rfl (hb hby at_91) rfl (v := (FP.i2d u2)) rfl ?_
    refine st11 _ ?_
    show Steps p.tables e below (T11.setTop (mkF m 93 #[.val (.int p0), .val (.int p1), .val (.int p2), .val (.int p3), .val (.int p4), .val (.int ra), .val (.int rb), .val (.int rc), .val (.int (0 : Int32)), .val (.double d1), .second, .val (.double d2), .second, .unset, .unset, .unset, .unset, .unset, .unset, .unset] [(.ref b3)])) _
    refine XS.astore X11.here hx rfl (hb hby at_93) rfl rfl (l' := #[.val (.int p0), .val (.int p1), .val (.int p2), .val (.int p3), .val (.int p4), .val (.int ra), .val (.int rb), .val (.int rc), .val (.int (0 : Int32)), .val (.double d1), .second, .val (.double d2), .second, .val (.ref b3), .unset, .unset, .unset, .unset, .unset, .unset]) rfl ?_
    refine XS.aload X11.here hx rfl (hb hby at_95) rfl rfl ?_
    refine XS.iload X11.here hx rfl (hb hby at_97) rfl ?_
    refine XS.dload X11.here hx rfl (hb hby at_99) rfl ?_
    refine st14 _ ?_
    show Steps p.tables e below (T14.setTop (mkF m 102 #[.val (.int p0), .val (.int p1), .val (.int p2), .val (.int p3), .val (.int p4), .val (.int ra), .val (.int rb), .val (.int rc), .val (.int (0 : Int32)), .val (.double d1), .second, .val (.double d2), .second, .val (.ref b3), .unset, .unset, .unset, .unset, .unset, .unset] [])) _
    refine XS.iconst X14.here hx rfl (hb hby at_102) ?_
    refine st17 _ ?_
    show Steps p.tables e below (T17.setTop (mkF m 105 #[.val (.int p0), .val (.int p1), .val (.int p2), .val (.int p3), .val (.int p4), .val (.int ra), .val (.int rb), .val (.int rc), .val (.int (0 : Int32)), .val (.double d1), .second, .val (.double d2), .second, .val (.ref b3), .unset, .unset, .unset, .unset, .unset, .unset] [(.ref b17)])) _
    refine XS.dup X17.here hx rfl (hb hby at_105) rfl rfl ?_
    show Steps p.tables e below (T17.setTop (mkF m 106 #[.val (.int p0), .val (.int p1), .val (.int p2), .val (.int p3), .val (.int p4), .val (.int ra), .val (.int rb), .val (.int rc), .val (.int (0 : Int32)), .val (.double d1), .second, .val (.double d2), .second, .val (.ref b3), .unset, .unset, .unset, .unset, .unset, .unset] [(.ref b17), (.ref b17)])) _
    refine XS.iconst X17.here hx rfl (hb hby at_106) ?_
    refine XS.iconst X17.here hx rfl (hb hby at_107) ?_
    refine st20 _ ?_
    show Steps p.tables e below (T20.setTop (mkF m 109 #[.val (.int p0), .val (.int p1), .val (.int p2), .val (.int p3), .val (.int p4), .val (.int ra), .val (.int rb), .val (.int rc), .val (.int (0 : Int32)), .val (.double d1), .second, .val (.double d2), .second, .val (.ref b3), .unset, .unset, .unset, .unset, .unset, .unset] [(.ref b17)])) _
    refine XS.dup X20.here hx rfl (hb hby at_109) rfl rfl ?_
    refine XS.iconst X20.here hx rfl (hb hby at_110) ?_
    refine XS.iconst X20.here hx rfl (hb hby at_111) ?_
    refine st24 _ ?_
    show Steps p.tables e below (T24.setTop (mkF m 113 #[.val (.int p0), .val (.int p1), .val (.int p2), .val (.int p3), .val (.int p4), .val (.int ra), .val (.int rb), .val (.int rc), .val (.int (0 : Int32)), .val (.double d1), .second, .val (.double d2), .second, .val (.ref b3), .unset, .unset, .unset, .unset, .unset, .unset] [(.ref b17)])) _
    refine XS.dup X24.here hx rfl (hb hby at_113) rfl rfl ?_
    show Steps p.tables e below (T24.setTop (mkF m 114 #[.val (.int p0), .val (.int p1), .val (.int p2), .val (.int p3), .val (.int p4), .val (.int ra), .val (.int rb), .val (.int rc), .val (.int (0 : Int32)), .val (.double d1), .second, .val (.double d2), .second, .val (.ref b3), .unset, .unset, .unset, .unset, .unset, .unset] [(.ref b17), (.ref b17)])) _
    refine XS.iconst X24.here hx rfl (hb hby at_114) ?_
    refine XS.iconst X24.here hx rfl (hb hby at_115) ?_
    refine st28 _ ?_
    show Steps p.tables e below (T28.setTop (mkF m 117 #[.val (.int p0), .val (.int p1), .val (.int p2), .val (.int p3), .val (.int p4), .val (.int ra), .val (.int rb), .val (.int rc), .val (.int (0 : Int32)), .val (.double d1), .second, .val (.double d2), .second, .val (.ref b3), .unset, .unset, .unset, .unset, .unset, .unset] [(.ref b17)])) _
    refine XS.astore X28.here hx rfl (hb hby at_117) rfl rfl (l' := #[.val (.int p0), .val (.int p1), .val (.int p2), .val (.int p3), .val (.int p4), .val (.int ra), .val (.int rb), .val (.int rc), .val (.int (0 : Int32)), .val (.double d1), .second, .val (.double d2), .second, .val (.ref b3), .val (.ref b17), .unset, .unset, .unset, .unset, .unset]) rfl ?_
    refine XS.iconst X28.here hx rfl (hb hby at_119) ?_
    refine st31 _ ?_
    show Steps p.tables e below (T31.setTop (mkF m 122 #[.val (.int p0), .val (.int p1), .val (.int p2), .val (.int p3), .val (.int p4), .val (.int ra), .val (.int rb), .val (.int rc), .val (.int (0 : Int32)), .val (.double d1), .second, .val (.double d2), .second, .val (.ref b3), .val (.ref b17), .unset, .unset, .unset, .unset, .unset] [(.ref b31)])) _
    refine XS.dup X31.here hx rfl (hb hby at_122) rfl rfl ?_
    refine XS.iconst X31.here hx rfl (hb hby at_123) ?_
    show Steps p.tables e below (T31.setTop (mkF m 124 #[.val (.int p0), .val (.int p1), .val (.int p2), .val (.int p3), .val (.int p4), .val (.int ra), .val (.int rb), .val (.int rc), .val (.int (0 : Int32)), .val (.double d1), .second, .val (.double d2), .second, .val (.ref b3), .val (.ref b17), .unset, .unset, .unset, .unset, .unset] [(.int (0 : Int32)), (.ref b31), (.ref b31)])) _
    refine XS.iload X31.here hx rfl (hb hby at_124) rfl ?_
    refine st35 _ ?_
    show Steps p.tables e below (T35.setTop (mkF m 127 #[.val (.int p0), .val (.int p1), .val (.int p2), .val (.int p3), .val (.int p4), .val (.int ra), .val (.int rb), .val (.int rc), .val (.int (0 : Int32)), .val (.double d1), .second, .val (.double d2), .second, .val (.ref b3), .val (.ref b17), .unset, .unset, .unset, .unset, .unset] [(.ref b31)])) _
    refine XS.dup X35.here hx rfl (hb hby at_127) rfl rfl ?_
    refine XS.iconst X35.here hx rfl (hb hby at_128) ?_
    refine XS.iload X35.here hx rfl (hb hby at_129) rfl ?_
    refine st40 _ ?_
    show Steps p.tables e below (T40.setTop (mkF m 132 #[.val (.int p0), .val (.int p1), .val (.int p2), .val (.int p3), .val (.int p4), .val (.int ra), .val (.int rb), .val (.int rc), .val (.int (0 : Int32)), .val (.double d1), .second, .val (.double d2), .second, .val (.ref b3), .val (.ref b17), .unset, .unset, .unset, .unset, .unset] [(.ref b31)])) _
    refine XS.astore X40.here hx rfl (hb hby at_132) rfl rfl (l' := #[.val (.int p0), .val (.int p1), .val (.int p2), .val (.int p3), .val (.int p4), .val (.int ra), .val (.int rb), .val (.int rc), .val (.int (0 : Int32)), .val (.double d1), .second, .val (.double d2), .second, .val (.ref b3), .val (.ref b17), .val (.ref b31), .unset, .unset, .unset, .unset]) rfl ?_
    refine XS.iconst X40.here hx rfl (hb hby at_134) ?_
    show Steps p.tables e below (T40.setTop (mkF m 135 #[.val (.int p0), .val (.int p1), .val (.int p2), .val (.int p3), .val (.int p4), .val (.int ra), .val (.int rb), .val (.int rc), .val (.int (0 : Int32)), .val (.double d1), .second, .val (.double d2), .second, .val (.ref b3), .val (.ref b17), .val (.ref b31), .unset, .unset, .unset, .unset] [(.int (2 : Int32))])) _
    refine st44 _ ?_
    show Steps p.tables e below (T44.setTop (mkF m 137 #[.val (.int p0), .val (.int p1), .val (.int p2), .val (.int p3), .val (.int p4), .val (.int ra), .val (.int rb), .val (.int rc), .val (.int (0 : Int32)), .val (.double d1), .second, .val (.double d2), .second, .val (.ref b3), .val (.ref b17), .val (.ref b31), .unset, .unset, .unset, .unset] [(.ref b44)])) _
    refine XS.dup X44.here hx rfl (hb hby at_137) rfl rfl ?_
    refine XS.iconst X44.here hx rfl (hb hby at_138) ?_
    refine XS.dload X44.here hx rfl (hb hby at_139) rfl ?_
    refine st49 _ ?_
    show Steps p.tables e below (T49.setTop (mkF m 142 #[.val (.int p0), .val (.int p1), .val (.int p2), .val (.int p3), .val (.int p4), .val (.int ra), .val (.int rb), .val (.int rc), .val (.int (0 : Int32)), .val (.double d1), .second, .val (.double d2), .second, .val (.ref b3), .val (.ref b17), .val (.ref b31), .unset, .unset, .unset, .unset] [(.ref b44)])) _
    refine XS.dup X49.here hx rfl (hb hby at_142) rfl rfl ?_
    refine XS.iconst X49.here hx rfl (hb hby at_143) ?_
    refine XS.iloadN X49.here hx rfl (hb hby at_144) rfl ?_
    show Steps p.tables e below (T49.setTop (mkF m 145 #[.val (.int p0), .val (.int p1), .val (.int p2), .val (.int p3), .val (.int p4), .val (.int ra), .val (.int rb), .val (.int rc), .val (.int (0 : Int32)), .val (.double d1), .second, .val (.double d2), .second, .val (.ref b3), .val (.ref b17), .val (.ref b31), .unset, .unset, .unset, .unset] [(.int p3), (.int (1 : Int32)), (.ref b44), (.ref b44)])) _
    refine XS.bipush X49.here hx rfl (hb hby at_145) ?_
    refine XS.ishr X49.here hx rfl (hb hby at_147) rfl ?_
    refine XS.i2b X49.here hx rfl (hb hby at_148) rfl ?_
    show Steps p.tables e below (T49.setTop (mkF m 149 #[.val (.int p0), .val (.int p1), .val (.int p2), .val (.int p3), .val (.int p4), .val (.int ra), .val (.int rb), .val (.int rc), .val (.int (0 : Int32)), .val (.double d1), .second, .val (.double d2), .second, .val (.ref b3), .val (.ref b17), .val (.ref b31), .unset, .unset, .unset, .unset] [(.int ((p3 >>> ((24 : Int32) &&& 31)).toInt8.toInt32)), (.int (1 : Int32)), (.ref b44), (.ref b44)])) _
    rw [hv148]
    show Steps p.tables e below (T49.setTop (mkF m 149 #[.val (.int p0), .val (.int p1), .val (.int p2), .val (.int p3), .val (.int p4), .val (.int ra), .val (.int rb), .val (.int rc), .val (.int (0 : Int32)), .val (.double d1), .second, .val (.double d2), .second, .val (.ref b3), .val (.ref b17), .val (.ref b31), .unset, .unset, .unset, .unset] [(.int u3), (.int (1 : Int32)), (.ref b44), (.ref b44)])) _
    refine XS.i2dS X49.here hx rfl (hb hby at_149) rfl (v := (FP.i2d u3)) rfl ?_
    refine st55 _ ?_
    show Steps p.tables e below (T55.setTop (mkF m 151 #[.val (.int p0), .val (.int p1), .val (.int p2), .val (.int p3), .val (.int p4), .val (.int ra), .val (.int rb), .val (.int rc), .val (.int (0 : Int32)), .val (.double d1), .second, .val (.double d2), .second, .val (.ref b3), .val (.ref b17), .val (.ref b31), .unset, .unset, .unset, .unset] [(.ref b44)])) _
    refine XS.astore X55.here hx rfl (hb hby at_151) rfl rfl (l' := #[.val (.int p0), .val (.int p1), .val (.int p2), .val (.int p3), .val (.int p4), .val (.int ra), .val (.int rb), .val (.int rc), .val (.int (0 : Int32)), .val (.double d1), .second, .val (.double d2), .second, .val (.ref b3), .val (.ref b17), .val (.ref b31), .val (.ref b44), .unset, .unset, .unset]) rfl ?_
    refine XS.iconst X55.here hx rfl (hb hby at_153) ?_
    show Steps p.tables e below (T55.setTop (mkF m 154 #[.val (.int p0), .val (.int p1), .val (.int p2), .val (.int p3), .val (.int p4), .val (.int ra), .val (.int rb), .val (.int rc), .val (.int (0 : Int32)), .val (.double d1), .second, .val (.double d2), .second, .val (.ref b3), .val (.ref b17), .val (.ref b31), .val (.ref b44), .unset, .unset, .unset] [(.int (3 : Int32))])) _
    refine st60 _ ?_
    show Steps p.tables e below (T60.setTop (mkF m 156 #[.val (.int p0), .val (.int p1), .val (.int p2), .val (.int p3), .val (.int p4), .val (.int ra), .val (.int rb), .val (.int rc), .val (.int (0 : Int32)), .val (.double d1), .second, .val (.double d2), .second, .val (.ref b3), .val (.ref b17), .val (.ref b31), .val (.ref b44), .unset, .unset, .unset] [(.ref b60)])) _
    refine XS.dup X60.here hx rfl (hb hby at_156) rfl rfl ?_
    refine XS.iconst X60.here hx rfl (hb hby at_157) ?_
    refine XS.iloadN X60.here hx rfl (hb hby at_158) rfl ?_
    refine XS.i2dS X60.here hx rfl (hb hby at_159) rfl (v := (FP.i2d p0)) rfl ?_
    refine st66 _ ?_
    show Steps p.tables e below (T66.setTop (mkF m 161 #[.val (.int p0), .val (.int p1), .val (.int p2), .val (.int p3), .val (.int p4), .val (.int ra), .val (.int rb), .val (.int rc), .val (.int (0 : Int32)), .val (.double d1), .second, .val (.double d2), .second, .val (.ref b3), .val (.ref b17), .val (.ref b31), .val (.ref b44), .unset, .unset, .unset] [(.ref b60)])) _
    refine XS.dup X66.here hx rfl (hb hby at_161) rfl rfl ?_
    refine XS.iconst X66.here hx rfl (hb hby at_162) ?_
    show Steps p.tables e below (T66.setTop (mkF m 163 #[.val (.int p0), .val (.int p1), .val (.int p2), .val (.int p3), .val (.int p4), .val (.int ra), .val (.int rb), .val (.int rc), .val (.int (0 : Int32)), .val (.double d1), .second, .val (.double d2), .second, .val (.ref b3), .val (.ref b17), .val (.ref b31), .val (.ref b44), .unset, .unset, .unset] [(.int (1 : Int32)), (.ref b60), (.ref b60)])) _
    refine XS.iloadN X66.here hx rfl (hb hby at_163) rfl ?_
    refine XS.i2dS X66.here hx rfl (hb hby at_164) rfl (v := (FP.i2d p1)) rfl ?_
    refine st73 _ ?_
    show Steps p.tables e below (T73.setTop (mkF m 166 #[.val (.int p0), .val (.int p1), .val (.int p2), .val (.int p3), .val (.int p4), .val (.int ra), .val (.int rb), .val (.int rc), .val (.int (0 : Int32)), .val (.double d1), .second, .val (.double d2), .second, .val (.ref b3), .val (.ref b17), .val (.ref b31), .val (.ref b44), .unset, .unset, .unset] [(.ref b60)])) _
    refine XS.dup X73.here hx rfl (hb hby at_166) rfl rfl ?_
    refine XS.iconst X73.here hx rfl (hb hby at_167) ?_
    refine XS.iloadN X73.here hx rfl (hb hby at_168) rfl ?_
    refine XS.i2dS X73.here hx rfl (hb hby at_169) rfl (v := (FP.i2d p2)) rfl ?_
    refine st80 _ ?_
    show Steps p.tables e below (T80.setTop (mkF m 171 #[.val (.int p0), .val (.int p1), .val (.int p2), .val (.int p3), .val (.int p4), .val (.int ra), .val (.int rb), .val (.int rc), .val (.int (0 : Int32)), .val (.double d1), .second, .val (.double d2), .second, .val (.ref b3), .val (.ref b17), .val (.ref b31), .val (.ref b44), .unset, .unset, .unset] [(.ref b60)])) _
    refine XS.astore X80.here hx rfl (hb hby at_171) rfl rfl (l' := #[.val (.int p0), .val (.int p1), .val (.int p2), .val (.int p3), .val (.int p4), .val (.int ra), .val (.int rb), .val (.int rc), .val (.int (0 : Int32)), .val (.double d1), .second, .val (.double d2), .second, .val (.ref b3), .val (.ref b17), .val (.ref b31), .val (.ref b44), .val (.ref b60), .unset, .unset]) rfl ?_
    refine XS.iconst X80.here hx rfl (hb hby at_173) ?_
    refine st86 _ ?_
    show Steps p.tables e below (T86.setTop (mkF m 176 #[.val (.int p0), .val (.int p1), .val (.int p2), .val (.int p3), .val (.int p4), .val (.int ra), .val (.int rb), .val (.int rc), .val (.int (0 : Int32)), .val (.double d1), .second, .val (.double d2), .second, .val (.ref b3), .val (.ref b17), .val (.ref b31), .val (.ref b44), .val (.ref b60), .unset, .unset] [(.ref b86)])) _
    refine XS.dup X86.here hx rfl (hb hby at_176) rfl rfl ?_
    refine XS.iconst X86.here hx rfl (hb hby at_177) ?_
    refine XS.iloadN X86.here hx rfl (hb hby at_178) rfl ?_
    refine XS.i2dS X86.here hx rfl (hb hby at_179) rfl (v := (FP.i2d p0)) rfl ?_
    refine st93 _ ?_
    show Steps p.tables e below (T93.setTop (mkF m 181 #[.val (.int p0), .val (.int p1), .val (.int p2), .val (.int p3), .val (.int p4), .val (.int ra), .val (.int rb), .val (.int rc), .val (.int (0 : Int32)), .val (.double d1), .second, .val (.double d2), .second, .val (.ref b3), .val (.ref b17), .val (.ref b31), .val (.ref b44), .val (.ref b60), .unset, .unset] [(.ref b86)])) _
    refine XS.dup X93.here hx rfl (hb hby at_181) rfl rfl ?_
    refine XS.iconst X93.here hx rfl (hb hby at_182) ?_
    refine XS.iloadN X93.here hx rfl (hb hby at_183) rfl ?_
    refine XS.i2dS X93.here hx rfl (hb hby at_184) rfl (v := (FP.i2d p1)) rfl ?_
    refine st101 _ ?_
    show Steps p.tables e below (T101.setTop (mkF m 186 #[.val (.int p0), .val (.int p1), .val (.int p2), .val (.int p3), .val (.int p4), .val (.int ra), .val (.int rb), .val (.int rc), .val (.int (0 : Int32)), .val (.double d1), .second, .val (.double d2), .second, .val (.ref b3), .val (.ref b17), .val (.ref b31), .val (.ref b44), .val (.ref b60), .unset, .unset] [(.ref b86)])) _
    refine XS.dup X101.here hx rfl (hb hby at_186) rfl rfl ?_
    refine XS.iconst X101.here hx rfl (hb hby at_187) ?_
    refine XS.iloadN X101.here hx rfl (hb hby at_188) rfl ?_
    show Steps p.tables e below (T101.setTop (mkF m 189 #[.val (.int p0), .val (.int p1), .val (.int p2), .val (.int p3), .val (.int p4), .val (.int ra), .val (.int rb), .val (.int rc), .val (.int (0 : Int32)), .val (.double d1), .second, .val (.double d2), .second, .val (.ref b3), .val (.ref b17), .val (.ref b31), .val (.ref b44), .val (.ref b60), .unset, .unset] [(.int p2), (.int (2 : Int32)), (.ref b86), (.ref b86)])) _
    refine XS.i2dS X101.here hx rfl (hb hby at_189) rfl (v := (FP.i2d p2)) rfl ?_
    refine st109 _ ?_
    show Steps p.tables e below (T109.setTop (mkF m 191 #[.val (.int p0), .val (.int p1), .val (.int p2), .val (.int p3), .val (.int p4), .val (.int ra), .val (.int rb), .val (.int rc), .val (.int (0 : Int32)), .val (.double d1), .second, .val (.double d2), .second, .val (.ref b3), .val (.ref b17), .val (.ref b31), .val (.ref b44), .val (.ref b60), .unset, .unset] [(.ref b86)])) _
    refine XS.astore X109.here hx rfl (hb hby at_191) rfl rfl (l' := #[.val (.int p0), .val (.int p1), .val (.int p2), .val (.int p3), .val (.int p4), .val (.int ra), .val (.int rb), .val (.int rc), .val (.int (0 : Int32)), .val (.double d1), .second, .val (.double d2), .second, .val (.ref b3), .val (.ref b17), .val (.ref b31), .val (.ref b44), .val (.ref b60), .val (.ref b86), .unset]) rfl ?_
    refine st116 _ ?_
    show Steps p.tables e below (T116.setTop (mkF m 196 #[.val (.int p0), .val (.int p1), .val (.int p2), .val (.int p3), .val (.int p4), .val (.int ra), .val (.int rb), .val (.int rc), .val (.int (0 : Int32)), .val (.double d1), .second, .val (.double d2), .second, .val (.ref b3), .val (.ref b17), .val (.ref b31), .val (.ref b44), .val (.ref b60), .val (.ref b86), .unset] [(.ref b116)])) _
    refine XS.dup X116.here hx rfl (hb hby at_196) rfl rfl ?_
    refine st123.trans ?_
    show Steps p.tables e below (T123.setTop (mkF m 200 #[.val (.int p0), .val (.int p1), .val (.int p2), .val (.int p3), .val (.int p4), .val (.int ra), .val (.int rb), .val (.int rc), .val (.int (0 : Int32)), .val (.double d1), .second, .val (.double d2), .second, .val (.ref b3), .val (.ref b17), .val (.ref b31), .val (.ref b44), .val (.ref b60), .val (.ref b86), .unset] [(.ref b116)])) _
    refine XS.astore X123.here hx rfl (hb hby at_200) rfl rfl (l' := #[.val (.int p0), .val (.int p1), .val (.int p2), .val (.int p3), .val (.int p4), .val (.int ra), .val (.int rb), .val (.int rc), .val (.int (0 : Int32)), .val (.double d1), .second, .val (.double d2), .second, .val (.ref b3), .val (.ref b17), .val (.ref b31), .val (.ref b44), .val (.ref b60), .val (.ref b86), .val (.ref b116)]) rfl ?_
    refine XS.iload X123.here hx rfl (hb hby at_202) rfl ?_
    show Steps p.tables e below (T123.setTop (mkF m 204 #[.val (.int p0), .val (.int p1), .val (.int p2), .val (.int p3), .val (.int p4), .val (.int ra), .val (.int rb), .val (.int rc), .val (.int (0 : Int32)), .val (.double d1), .second, .val (.double d2), .second, .val (.ref b3), .val (.ref b17), .val (.ref b31), .val (.ref b44), .val (.ref b60), .val (.ref b86), .val (.ref b116)] [(.int (0 : Int32))])) _
    refine XS.iconst X123.here hx rfl (hb hby at_204) ?_
    refine XS.icmpYes X123.here hx rfl (pc0 := 205) (pc' := 219) rfl (hb hby at_205) rfl (tlt (by decide : (0 : Int32) < (1 : Int32))).1 (by decide) (by decide) ?_
    refine XS.iload X123.here hx rfl (hb hby at_219) rfl ?_
    refine XS.iconst X123.here hx rfl (hb hby at_221) ?_
    refine XS.icmpYes X123.here hx rfl (pc0 := 222) (pc' := 236) rfl (hb hby at_222) rfl (tlt (by decide : (0 : Int32) < (2 : Int32))).1 (by decide) (by decide) ?_
    refine XS.aload X123.here hx rfl (hb hby at_236) rfl rfl ?_
    refine XS.aload X123.here hx rfl (hb hby at_238) rfl rfl ?_
    refine st158.trans ?_
    show Steps p.tables e below (T158.setTop (mkF m 243 #[.val (.int p0), .val (.int p1), .val (.int p2), .val (.int p3), .val (.int p4), .val (.int ra), .val (.int rb), .val (.int rc), .val (.int (0 : Int32)), .val (.double d1), .second, .val (.double d2), .second, .val (.ref b3), .val (.ref b17), .val (.ref b31), .val (.ref b44), .val (.ref b60), .val (.ref b86), .val (.ref b116)] [])) _
    refine XS.iconst X158.here hx rfl (hb hby at_243) ?_
    refine XS.iload X158.here hx rfl (hb hby at_244) rfl ?_
    refine XS.iload X158.here hx rfl (hb hby at_246) rfl ?_
    refine XS.iload X158.here hx rfl (hb hby at_248) rfl ?_
    refine XS.iload X158.here hx rfl (hb hby at_250) rfl ?_
    refine XS.aload X158.here hx rfl (hb hby at_252) rfl rfl ?_
    refine XS.aload X158.here hx rfl (hb hby at_254) rfl rfl ?_
    refine XS.aload X158.here hx rfl (hb hby at_256) rfl rfl ?_
    show Steps p.tables e below (T158.setTop (mkF m 258 #[.val (.int p0), .val (.int p1), .val (.int p2), .val (.int p3), .val (.int p4), .val (.int ra), .val (.int rb), .val (.int rc), .val (.int (0 : Int32)), .val (.double d1), .second, .val (.double d2), .second, .val (.ref b3), .val (.ref b17), .val (.ref b31), .val (.ref b44), .val (.ref b60), .val (.ref b86), .val (.ref b116)] [(.ref b44), (.ref b3), (.ref b86), (.int rc), (.int rb), (.int ra), (.int (0 : Int32)), (.int (0 : Int32))])) _
    refine XS.aload X158.here hx rfl (hb hby at_258) rfl rfl ?_
    refine st159 _ ?_
    show Steps p.tables e below (T159.setTop (mkF m 263 #[.val (.int p0), .val (.int p1), .val (.int p2), .val (.int p3), .val (.int p4), .val (.int ra), .val (.int rb), .val (.int rc), .val (.int (0 : Int32)), .val (.double d1), .second, .val (.double d2), .second, .val (.ref b3), .val (.ref b17), .val (.ref b31), .val (.ref b44), .val (.ref b60), .val (.ref b86), .val (.ref b116)] [(.int (1 : Int32))])) _
    refine XS.ifNo X159.here hx rfl (hb hby at_263) rfl ((if0 _ _).trans (feq (by decide : ¬ ((1 : Int32) = (0 : Int32)))).1) ?_
    refine XS.iconst X159.here hx rfl (hb hby at_266) ?_
    refine XS.iload X159.here hx rfl (hb hby at_267) rfl ?_
    refine XS.iload X159.here hx rfl (hb hby at_269) rfl ?_
    refine XS.iload X159.here hx rfl (hb hby at_271) rfl ?_
    refine XS.iload X159.here hx rfl (hb hby at_273) rfl ?_
    show Steps p.tables e below (T159.setTop (mkF m 275 #[.val (.int p0), .val (.int p1), .val (.int p2), .val (.int p3), .val (.int p4), .val (.int ra), .val (.int rb), .val (.int rc), .val (.int (0 : Int32)), .val (.double d1), .second, .val (.double d2), .second, .val (.ref b3), .val (.ref b17), .val (.ref b31), .val (.ref b44), .val (.ref b60), .val (.ref b86), .val (.ref b116)] [(.int rc), (.int rb), (.int ra), (.int (0 : Int32)), (.int (1 : Int32))])) _
    refine XS.aload X159.here hx rfl (hb hby at_275) rfl rfl ?_
    refine XS.aload X159.here hx rfl (hb hby at_277) rfl rfl ?_
    refine XS.aload X159.here hx rfl (hb hby at_279) rfl rfl ?_
    refine XS.aload X159.here hx rfl (hb hby at_281) rfl rfl ?_
    refine st160 _ ?_
    show Steps p.tables e below (T160.setTop (mkF m 286 #[.val (.int p0), .val (.int p1), .val (.int p2), .val (.int p3), .val (.int p4), .val (.int ra), .val (.int rb), .val (.int rc), .val (.int (0 : Int32)), .val (.double d1), .second, .val (.double d2), .second, .val (.ref b3), .val (.ref b17), .val (.ref b31), .val (.ref b44), .val (.ref b60), .val (.ref b86), .val (.ref b116)] [(.int (1 : Int32))])) _
    refine XS.ifNo X160.here hx rfl (hb hby at_286) rfl ((if0 _ _).trans (feq (by decide : ¬ ((1 : Int32) = (0 : Int32)))).1) ?_
    refine XS.iconst X160.here hx rfl (hb hby at_289) ?_
    refine XS.iload X160.here hx rfl (hb hby at_290) rfl ?_
    show Steps p.tables e below (T160.setTop (mkF m 292 #[.val (.int p0), .val (.int p1), .val (.int p2), .val (.int p3), .val (.int p4), .val (.int ra), .val (.int rb), .val (.int rc), .val (.int (0 : Int32)), .val (.double d1), .second, .val (.double d2), .second, .val (.ref b3), .val (.ref b17), .val (.ref b31), .val (.ref b44), .val (.ref b60), .val (.ref b86), .val (.ref b116)] [(.int (0 : Int32)), (.int (2 : Int32))])) _
    refine XS.iload X160.here hx rfl (hb hby at_292) rfl ?_
    refine XS.iload X160.here hx rfl (hb hby at_294) rfl ?_
    refine XS.iload X160.here hx rfl (hb hby at_296) rfl ?_
    refine XS.aload X160.here hx rfl (hb hby at_298) rfl rfl ?_
    refine XS.aload X160.here hx rfl (hb hby at_300) rfl rfl ?_
    refine XS.aload X160.here hx rfl (hb hby at_302) rfl rfl ?_
    refine XS.aload X160.here hx rfl (hb hby at_304) rfl rfl ?_
    refine st161 _ ?_
    show Steps p.tables e below (T161.setTop (mkF m 309 #[.val (.int p0), .val (.int p1), .val (.int p2), .val (.int p3), .val (.int p4), .val (.int ra), .val (.int rb), .val (.int rc), .val (.int (0 : Int32)), .val (.double d1), .second, .val (.double d2), .second, .val (.ref b3), .val (.ref b17), .val (.ref b31), .val (.ref b44), .val (.ref b60), .val (.ref b86), .val (.ref b116)] [(.int (1 : Int32))])) _
    refine XS.ifNo X161.here hx rfl (hb hby at_309) rfl ((if0 _ _).trans (feq (by decide : ¬ ((1 : Int32) = (0 : Int32)))).1) ?_
    refine XS.iconst X161.here hx rfl (hb hby at_312) ?_
    refine XS.goto X161.here hx rfl (pc0 := 313) (pc' := 317) rfl (hb hby at_313) (by decide) (by decide) ?_
    exact retN X161 hx (t := .boolean) Bd.returns (by simp) (hb hby at_317) hr
  · show Q0 n0 _ T161.heap _
    rw [e161]
    exact ⟨rfl, N161⟩
theorem pd_6 : parseMethodDescriptor "(I[I[D)V" = some ⟨[.int, (.array .int), (.array .double)], none⟩ := by decide +kernel
set_option maxRecDepth 65536 in
set_option maxHeartbeats 40000000 in
theorem rm1 (l : Launch) (Z : State) (a0 : Array Value) (hw : ∀ d ∈ tables_1, d.before a0 Z = true) (ws : List Jvm.Cond) (p0 : Int32) (p1 : Int32) (p2 : Int32) (p3 : Int32) (p4 : Int32) (d1 : UInt64) (d2 : UInt64) (v0 : UInt64) (v1 : UInt64) (v2 : UInt64) (yj0 : UInt64) (yj1 : UInt64) (yj2 : UInt64) (yb : UInt64) (yc : UInt64) (pe1 : UInt64) (va : UInt64) (vb : UInt64) (qa : UInt64) (ca : UInt64) (cx : UInt64) (cy : UInt64) (y0 : UInt64) (y1 : UInt64) (y2 : UInt64) (ra : Int32) (tx : Int32) (ty : Int32) (u0 : Int32) (u1 : Int32) (u2 : Int32) (rb : Int32) (rc : Int32) (pa : Int32) (pb : Int32) (u3 : Int32) (h0 : Heap) (n0 : Nat) (Z0 : n0 ≤ h0.size) (hl_ra : ra.toNatClampNeg < 3) (hn_ra : ¬ ra < 0 ∧ ra < (3 : Int32)) (hvv : (([(.double (FP.i2d u0)), (.double (FP.i2d u1)), (.double (FP.i2d u2))] : List Value).set ra.toNatClampNeg (.double d1)) = [(.double v0), (.double v1), (.double v2)]) (hv6 : (((p4.toUInt32 >>> ((24 : Int32) &&& 31).toUInt32).toInt32) % (3 : Int32)) = ra) (hv21 : (((ra + (1 : Int32)) + (((p4.toUInt32 >>> ((2 : Int32) &&& 31).toUInt32).toInt32) &&& (1 : Int32))) % (3 : Int32)) = rb) (hv30 : (((3 : Int32) - ra) - rb) = rc) (hv40 : ((((p4.toUInt32 >>> ((3 : Int32) &&& 31).toUInt32).toInt32) &&& (3 : Int32)) % (3 : Int32)) = (1 : Int32)) (hv48 : (((p4.toUInt32 >>> ((5 : Int32) &&& 31).toUInt32).toInt32) &&& (3 : Int32)) = pa) (hpw_49 : own_pv pa = d1) (hv60 : (((p4.toUInt32 >>> ((7 : Int32) &&& 31).toUInt32).toInt32) &&& (3 : Int32)) = pb) (hpw_61 : own_pv pb = d2) (hv72 : (p3.toInt8.toInt32) = u0) (hv81 : ((p3 >>> ((8 : Int32) &&& 31)).toInt8.toInt32) = u1) (hv90 : ((p3 >>> ((16 : Int32) &&& 31)).toInt8.toInt32) = u2) (hv148 : ((p3 >>> ((24 : Int32) &&& 31)).toInt8.toInt32) = u3) (hcase_216 : ((v0 = pe1) ∧ ((1 : Int32) = tx) ∧ ((2 : Int32) = ty) ∧ (v1 = va) ∧ (v2 = vb) ∧ ((0 : Int32) = ra) ∧ (¬ ((1 : Int32) = ra)) ∧ (¬ ((2 : Int32) = ra))) ∨ ((v1 = pe1) ∧ ((0 : Int32) = tx) ∧ ((2 : Int32) = ty) ∧ (v0 = va) ∧ (v2 = vb) ∧ (¬ ((0 : Int32) = ra)) ∧ ((1 : Int32) = ra) ∧ (¬ ((2 : Int32) = ra))) ∨ ((v2 = pe1) ∧ ((0 : Int32) = tx) ∧ ((1 : Int32) = ty) ∧ (v0 = va) ∧ (v1 = vb) ∧ (¬ ((0 : Int32) = ra)) ∧ (¬ ((1 : Int32) = ra)) ∧ ((2 : Int32) = ra))) (hn_ra_240 : ¬ ra < 0 ∧ ra < (3 : Int32)) (hca_240 : ([(.double (FP.i2d p0)), (.double (FP.i2d p1)), (.double (FP.i2d p2))] : List Value).getD ra.toNatClampNeg (.double (0 : UInt64)) = .double ca) (hn_tx_240 : ¬ tx < 0 ∧ tx < (3 : Int32)) (hcx_240 : ([(.double (FP.i2d p0)), (.double (FP.i2d p1)), (.double (FP.i2d p2))] : List Value).getD tx.toNatClampNeg (.double (0 : UInt64)) = .double cx) (hn_ty_240 : ¬ ty < 0 ∧ ty < (3 : Int32)) (hcy_240 : ([(.double (FP.i2d p0)), (.double (FP.i2d p1)), (.double (FP.i2d p2))] : List Value).getD ty.toNatClampNeg (.double (0 : UInt64)) = .double cy) (hl_ra_240 : ra.toNatClampNeg < 3) (hy_240 : (([(.double (FP.i2d p0)), (.double (FP.i2d p1)), (.double (FP.i2d p2))] : List Value).set ra.toNatClampNeg (.double qa)) = [(.double y0), (.double y1), (.double y2)]) (nn62_240 : Jvm.Free.Fl.NoNaN64 (FP.dmul va cx)) (nn63_240 : Jvm.Free.Fl.NoNaN64 (FP.dsub ca (FP.dmul va cx))) (nn62_1_240 : Jvm.Free.Fl.NoNaN64 (FP.dmul vb cy)) (nn63_1_240 : Jvm.Free.Fl.NoNaN64 (FP.dsub (FP.dsub ca (FP.dmul va cx)) (FP.dmul vb cy))) (nn82_240 : Jvm.Free.Fl.NoNaN64 (FP.ddiv (FP.dsub (FP.dsub ca (FP.dmul va cx)) (FP.dmul vb cy)) pe1)) (hq82_240 : (FP.ddiv (FP.dsub (FP.dsub ca (FP.dmul va cx)) (FP.dmul vb cy)) pe1) = qa) (hjj_260 : ¬ (0 : Int32) < 0 ∧ (0 : Int32) < (3 : Int32)) (hcj_260 : ([(.double (FP.i2d p0)), (.double (FP.i2d p1)), (.double (FP.i2d p2))] : List Value).getD (0 : Int32).toNatClampNeg (.double (0 : UInt64)) = .double (FP.i2d p0)) (hcase_260 : (((0 : Int32) = ra) ∧ (Jvm.Free.Fl.NoNaN64 (FP.dmul y0 v0)) ∧ (Jvm.Free.Fl.NoNaN64 (FP.dmul y1 v1)) ∧ (Jvm.Free.Fl.NoNaN64 (FP.dadd (FP.dmul y0 v0) (FP.dmul y1 v1))) ∧ (Jvm.Free.Fl.NoNaN64 (FP.dmul y2 v2)) ∧ (Jvm.Free.Fl.NoNaN64 (FP.dadd (FP.dadd (FP.dmul y0 v0) (FP.dmul y1 v1)) (FP.dmul y2 v2))) ∧ ((cmpValue (FP.dcmp (FP.dadd (FP.dadd (FP.dmul y0 v0) (FP.dmul y1 v1)) (FP.dmul y2 v2)) (FP.i2d p0)) .l) = (0 : Int32))) ∨ ((([(.double y0), (.double y1), (.double y2)] : List Value).getD (0 : Int32).toNatClampNeg (.double (0 : UInt64)) = .double yj0) ∧ (¬ ((0 : Int32) = ra)) ∧ ((cmpValue (FP.dcmp yj0 (FP.i2d p0)) .l) = (0 : Int32)))) (hjj_283 : ¬ (1 : Int32) < 0 ∧ (1 : Int32) < (3 : Int32)) (hcj_283 : ([(.double (FP.i2d p0)), (.double (FP.i2d p1)), (.double (FP.i2d p2))] : List Value).getD (1 : Int32).toNatClampNeg (.double (0 : UInt64)) = .double (FP.i2d p1)) (hcase_283 : (((1 : Int32) = ra) ∧ (Jvm.Free.Fl.NoNaN64 (FP.dmul y0 v0)) ∧ (Jvm.Free.Fl.NoNaN64 (FP.dmul y1 v1)) ∧ (Jvm.Free.Fl.NoNaN64 (FP.dadd (FP.dmul y0 v0) (FP.dmul y1 v1))) ∧ (Jvm.Free.Fl.NoNaN64 (FP.dmul y2 v2)) ∧ (Jvm.Free.Fl.NoNaN64 (FP.dadd (FP.dadd (FP.dmul y0 v0) (FP.dmul y1 v1)) (FP.dmul y2 v2))) ∧ ((cmpValue (FP.dcmp (FP.dadd (FP.dadd (FP.dmul y0 v0) (FP.dmul y1 v1)) (FP.dmul y2 v2)) (FP.i2d p1)) .l) = (0 : Int32))) ∨ ((([(.double y0), (.double y1), (.double y2)] : List Value).getD (1 : Int32).toNatClampNeg (.double (0 : UInt64)) = .double yj1) ∧ (¬ ((1 : Int32) = ra)) ∧ ((cmpValue (FP.dcmp yj1 (FP.i2d p1)) .l) = (0 : Int32)))) (hjj_306 : ¬ (2 : Int32) < 0 ∧ (2 : Int32) < (3 : Int32)) (hcj_306 : ([(.double (FP.i2d p0)), (.double (FP.i2d p1)), (.double (FP.i2d p2))] : List Value).getD (2 : Int32).toNatClampNeg (.double (0 : UInt64)) = .double (FP.i2d p2)) (hcase_306 : (((2 : Int32) = ra) ∧ (Jvm.Free.Fl.NoNaN64 (FP.dmul y0 v0)) ∧ (Jvm.Free.Fl.NoNaN64 (FP.dmul y1 v1)) ∧ (Jvm.Free.Fl.NoNaN64 (FP.dadd (FP.dmul y0 v0) (FP.dmul y1 v1))) ∧ (Jvm.Free.Fl.NoNaN64 (FP.dmul y2 v2)) ∧ (Jvm.Free.Fl.NoNaN64 (FP.dadd (FP.dadd (FP.dmul y0 v0) (FP.dmul y1 v1)) (FP.dmul y2 v2))) ∧ ((cmpValue (FP.dcmp (FP.dadd (FP.dadd (FP.dmul y0 v0) (FP.dmul y1 v1)) (FP.dmul y2 v2)) (FP.i2d p2)) .l) = (0 : Int32))) ∨ ((([(.double y0), (.double y1), (.double y2)] : List Value).getD (2 : Int32).toNatClampNeg (.double (0 : UInt64)) = .double yj2) ∧ (¬ ((2 : Int32) = ra)) ∧ ((cmpValue (FP.dcmp yj2 (FP.i2d p2)) .l) = (0 : Int32)))) :
    MetFree l x (head1 (Jvm.Cond.code x code maxLocals ret :: ws) room_1) (fun a U => a = #[(.int p0), (.int p1), (.int p2), (.int p3), (.int p4)] ∧ Z.Warmed39 U.vm ∧ U.heap = h0) (fun _ _ _ _ _ => True) (fun _ U o U' => ∃ v L, o = .returned v ∧ Q0 n0 v U'.heap L ∧ FrameEnd U o U' L room_1.cells room_1.slots) := by
  refine MetFree.of_bodySF (plainFor_of_name pn_com_example_leeway_leeway_lp_BasisInverseSolveTransposedPinLaw) hisR ?_
  intro p e s m args below meth c s₁ Bd hml0 hP hK
  obtain ⟨rfl, hZ, hh⟩ := hP
  have hx := Bd.exec
  have hby := Bd.bytes
  have hml : c.maxLocals = 20 := hml0
  have hown : s.vm.findClass "com/example/leeway/leeway/lp/BasisInverseSolveTransposedPinLaw" = some m.cls := findClass_of_methodNamed Bd.named
  have hnm := (name_of_methodNamed Bd.named Bd.method).1
  have X0 : Stand p l e room_1 s m #[(.int p0), (.int p1), (.int p2), (.int p3), (.int p4)] below meth c s₁ [] 0 0 := Stand.of_body Bd
  have e0 : s₁.heap = h0 := by rw [← hh, Bd.state]; rfl
  have N0 := Fr.nil n0
  have pre0 : ∀ t, Steps p.tables e below (s₁.setTop (mkF m 0 #[.val (.int p0), .val (.int p1), .val (.int p2), .val (.int p3), .val (.int p4), .unset, .unset, .unset, .unset, .unset, .unset, .unset, .unset, .unset, .unset, .unset, .unset, .unset, .unset, .unset] [])) t → Steps p.tables e below (s₁.setTop (entryFrame m #[(.int p0), (.int p1), (.int p2), (.int p3), (.int p4)] maxLocals)) t := fun t k => castTop (ef_0_IIIII m p0 p1 p2 p3 p4) k
  obtain ⟨_, _, ⟨T1, L1, k1, n1⟩, -, X1, ⟨Lc1, hQ1, lq1, yq1, zq1⟩, st1⟩ := Jvm.LawKit.callS X0 hx (y := (⟨"com/example/leeway/leeway/lp/BasisInverseSolveTransposedPinLaw", "pivot", "(I)D"⟩ : MethodName)) hown (mvT hZ (hw _ (List.mem_of_getElem? (i := 0) rfl))) (mvT hZ (hw _ (List.mem_of_getElem? (i := 1) rfl))) (mvT hZ (hw _ (List.mem_of_getElem? (i := 2) rfl))) (mvT hZ (hw _ (List.mem_of_getElem? (i := 3) rfl))) (by decide) (backOf (W := 0) (piv l Z a0 hw [] pa d1 h0 n0 Z0 hpw_49) hZ (hw _ (List.mem_of_getElem? (i := 3) rfl)) (hw _ (List.mem_of_getElem? (i := 2) rfl)) (by decide) (by decide)) (g := (mkF m 49 #[.val (.int p0), .val (.int p1), .val (.int p2), .val (.int p3), .val (.int p4), .val (.int ra), .val (.int rb), .val (.int rc), .val (.int (1 : Int32)), .unset, .unset, .unset, .unset, .unset, .unset, .unset, .unset, .unset, .unset, .unset] [(.int pa)])) rfl (by rw [hml]; rfl) (argsL := [(.int pa)]) (rest := []) (lenOf pd_2 rfl) rfl (by show 2 * 0 + _ ≤ _; exact Nat.le_of_eq rfl) (hb hby at_49) (fun _ _ => ⟨rfl, e0, (by decide : 0 + 0 ≤ _), (by decide : 0 + 0 ≤ _)⟩)
  dsimp only [Pt.U, Pt.locs, Pt.cells, Pt.slots] at X1 lq1 yq1 zq1 st1 hQ1
  rw [lq1, yq1, zq1] at X1
  obtain ⟨rfl, N1q, eh1⟩ := hQ1
  have N1 := Fr.app N0 N1q
  have e1 : T1.heap = h0 := eh1
  obtain ⟨_, _, ⟨T2, L2, k2, n2⟩, -, X2, ⟨Lc2, hQ2, lq2, yq2, zq2⟩, st2⟩ := Jvm.LawKit.callS X1 hx (y := (⟨"com/example/leeway/leeway/lp/BasisInverseSolveTransposedPinLaw", "pivot", "(I)D"⟩ : MethodName)) hown (mvT hZ (hw _ (List.mem_of_getElem? (i := 0) rfl))) (mvT hZ (hw _ (List.mem_of_getElem? (i := 1) rfl))) (mvT hZ (hw _ (List.mem_of_getElem? (i := 2) rfl))) (mvT hZ (hw _ (List.mem_of_getElem? (i := 3) rfl))) (by decide) (backOf (W := 0) (piv l Z a0 hw [] pb d2 h0 n0 Z0 hpw_61) hZ (hw _ (List.mem_of_getElem? (i := 3) rfl)) (hw _ (List.mem_of_getElem? (i := 2) rfl)) (by decide) (by decide)) (g := (mkF m 61 #[.val (.int p0), .val (.int p1), .val (.int p2), .val (.int p3), .val (.int p4), .val (.int ra), .val (.int rb), .val (.int rc), .val (.int (1 : Int32)), .val (.double d1), .second, .unset, .unset, .unset, .unset, .unset, .unset, .unset, .unset, .unset] [(.int pb)])) rfl (by rw [hml]; rfl) (argsL := [(.int pb)]) (rest := []) (lenOf pd_2 rfl) rfl (by show 2 * 0 + _ ≤ _; exact Nat.le_of_eq rfl) (hb hby at_61) (fun _ _ => ⟨rfl, e1, (by decide : 0 + 0 ≤ _), (by decide : 0 + 0 ≤ _)⟩)
  dsimp only [Pt.U, Pt.locs, Pt.cells, Pt.slots] at X2 lq2 yq2 zq2 st2 hQ2
  rw [lq2, yq2, zq2] at X2
  obtain ⟨rfl, N2q, eh2⟩ := hQ2
  have N2 := Fr.app N1 N2q
  have e2 : T2.heap = h0 := eh2
  obtain ⟨T3, h3, k3, X3, e3, E3, A3, st3⟩ := newP X2 hx hZ (hw _ (List.mem_of_getElem? (i := 4) rfl)) e2 (g := (mkF m 67 #[.val (.int p0), .val (.int p1), .val (.int p2), .val (.int p3), .val (.int p4), .val (.int ra), .val (.int rb), .val (.int rc), .val (.int (1 : Int32)), .val (.double d1), .second, .val (.double d2), .second, .unset, .unset, .unset, .unset, .unset, .unset, .unset] [(.int (3 : Int32))])) rfl (hb hby at_67) rfl (by decide) (cap := 3) (by decide) (by decide) (by decide) (by decide)
  obtain ⟨b3, g3⟩ : ∃ z, z = h0.size := ⟨_, rfl⟩
  rw [← g3] at A3 st3
  have g_b3 : n0 ≤ b3 := Nat.le_trans Z0 (Nat.le_of_eq g3.symm)
  have sz_b3 : h0.size ≤ b3 := Nat.le_trans (Keep.refl h0 []).1 (Nat.le_of_eq g3.symm)
  have K3 : Keep h0 h3 [] := (Keep.refl h0 []).ext E3
  have Zs3 := Nat.le_trans Z0 E3.1
  have V3 : Arv Z h3 b3 k3 .double (3 : Int32) [(.double (0 : UInt64)), (.double (0 : UInt64)), (.double (0 : UInt64))] (.double (0 : UInt64)) := (Arv.new A3 (by decide)).pad (pad_rep [] (.double (0 : UInt64)) 3)
  obtain ⟨cq4, Arq4, qq4, Sq4, Nq4, Hq4, Gq4⟩ := id V3
  obtain ⟨T5, h5, X5, e5, W5, st5⟩ := stD X3 hx hZ e3 Arq4 (j := (0 : Int32)) (inb_of Sq4 ⟨by decide, by decide⟩) (g := (mkF m 74 #[.val (.int p0), .val (.int p1), .val (.int p2), .val (.int p3), .val (.int p4), .val (.int ra), .val (.int rb), .val (.int rc), .val (.int (1 : Int32)), .val (.double d1), .second, .val (.double d2), .second, .unset, .unset, .unset, .unset, .unset, .unset, .unset] [(.double (FP.i2d u0)), (.int (0 : Int32)), (.ref b3), (.ref b3)])) rfl rfl (hb hby at_74)
  have K5 : Keep h0 h5 [] := K3.wr W5 (Or.inr sz_b3)
  have Zs5 := Nat.le_trans Zs3 (Keep.of_wr W5).1
  have N5 := Fr.snoc X5 N2 g_b3
  have f6 : Arv Z h5 b3 k3 .double (3 : Int32) [(.double (FP.i2d u0)), (.double (0 : UInt64)), (.double (0 : UInt64))] (.double (0 : UInt64)) := Arv.set Arq4 qq4 Sq4 Nq4 Hq4 Gq4 rfl W5 0 rfl (Nat.le_of_ble_eq_true rfl)
  obtain ⟨cq7, Arq7, qq7, Sq7, Nq7, Hq7, Gq7⟩ := id f6
  obtain ⟨T8, h8, X8, e8, W8, st8⟩ := stD X5 hx hZ e5 Arq7 (j := (1 : Int32)) (inb_of Sq7 ⟨by decide, by decide⟩) (g := (mkF m 83 #[.val (.int p0), .val (.int p1), .val (.int p2), .val (.int p3), .val (.int p4), .val (.int ra), .val (.int rb), .val (.int rc), .val (.int (1 : Int32)), .val (.double d1), .second, .val (.double d2), .second, .unset, .unset, .unset, .unset, .unset, .unset, .unset] [(.double (FP.i2d u1)), (.int (1 : Int32)), (.ref b3), (.ref b3)])) rfl rfl (hb hby at_83)
  have K8 : Keep h0 h8 [] := K5.wr W8 (Or.inr sz_b3)
  have Zs8 := Nat.le_trans Zs5 (Keep.of_wr W8).1
  have N8 := Fr.snoc X8 N5 g_b3
  have f9 : Arv Z h8 b3 k3 .double (3 : Int32) [(.double (FP.i2d u0)), (.double (FP.i2d u1)), (.double (0 : UInt64))] (.double (0 : UInt64)) := Arv.set Arq7 qq7 Sq7 Nq7 Hq7 Gq7 rfl W8 1 rfl (Nat.le_of_ble_eq_true rfl)
  obtain ⟨cq10, Arq10, qq10, Sq10, Nq10, Hq10, Gq10⟩ := id f9
  obtain ⟨T11, h11, X11, e11, W11, st11⟩ := stD X8 hx hZ e8 Arq10 (j := (2 : Int32)) (inb_of Sq10 ⟨by decide, by decide⟩) (g := (mkF m 92 #[.val (.int p0), .val (.int p1), .val (.int p2), .val (.int p3), .val (.int p4), .val (.int ra), .val (.int rb), .val (.int rc), .val (.int (1 : Int32)), .val (.double d1), .second, .val (.double d2), .second, .unset, .unset, .unset, .unset, .unset, .unset, .unset] [(.double (FP.i2d u2)), (.int (2 : Int32)), (.ref b3), (.ref b3)])) rfl rfl (hb hby at_92)
  have K11 : Keep h0 h11 [] := K8.wr W11 (Or.inr sz_b3)
  have Zs11 := Nat.le_trans Zs8 (Keep.of_wr W11).1
  have N11 := Fr.snoc X11 N8 g_b3
  have f12 : Arv Z h11 b3 k3 .double (3 : Int32) [(.double (FP.i2d u0)), (.double (FP.i2d u1)), (.double (FP.i2d u2))] (.double (0 : UInt64)) := Arv.set Arq10 qq10 Sq10 Nq10 Hq10 Gq10 rfl W11 2 rfl (Nat.le_of_ble_eq_true rfl)
  obtain ⟨cq13, Arq13, qq13, Sq13, Nq13, Hq13, Gq13⟩ := id f12
  obtain ⟨T14, h14, X14, e14, W14, st14⟩ := stD X11 hx hZ e11 Arq13 (j := ra) (inb_of Sq13 hn_ra) (g := (mkF m 101 #[.val (.int p0), .val (.int p1), .val (.int p2), .val (.int p3), .val (.int p4), .val (.int ra), .val (.int rb), .val (.int rc), .val (.int (1 : Int32)), .val (.double d1), .second, .val (.double d2), .second, .val (.ref b3), .unset, .unset, .unset, .unset, .unset, .unset] [(.double d1), (.int ra), (.ref b3)])) rfl rfl (hb hby at_101)
  have K14 : Keep h0 h14 [] := K11.wr W14 (Or.inr sz_b3)
  have Zs14 := Nat.le_trans Zs11 (Keep.of_wr W14).1
  have N14 := Fr.snoc X14 N11 g_b3
  have f15 : Arv Z h14 b3 k3 .double (3 : Int32) ([(.double (FP.i2d u0)), (.double (FP.i2d u1)), (.double (FP.i2d u2))].set ra.toNatClampNeg (.double d1)) (.double (0 : UInt64)) := Arv.set Arq13 qq13 Sq13 Nq13 Hq13 Gq13 rfl W14 ra.toNatClampNeg rfl hl_ra
  have f16 := own_arvL (vs1 := [(.double v0), (.double v1), (.double v2)]) (hvv : (([(.double (FP.i2d u0)), (.double (FP.i2d u1)), (.double (FP.i2d u2))].set ra.toNatClampNeg (.double d1)) : List Value) = [(.double v0), (.double v1), (.double v2)]) f15
  obtain ⟨T17, h17, k17, X17, e17, E17, A17, st17⟩ := newP X14 hx hZ (hw _ (List.mem_of_getElem? (i := 5) rfl)) e14 (g := (mkF m 103 #[.val (.int p0), .val (.int p1), .val (.int p2), .val (.int p3), .val (.int p4), .val (.int ra), .val (.int rb), .val (.int rc), .val (.int (1 : Int32)), .val (.double d1), .second, .val (.double d2), .second, .val (.ref b3), .unset, .unset, .unset, .unset, .unset, .unset] [(.int (3 : Int32))])) rfl (hb hby at_103) rfl (by decide) (cap := 3) (by decide) (by decide) (by decide) (by decide)
  obtain ⟨b17, g17⟩ : ∃ z, z = h14.size := ⟨_, rfl⟩
  rw [← g17] at A17 st17
  have ne_b3_b17 : b3 ≠ b17 := Nat.ne_of_lt (Nat.lt_of_lt_of_le f16.lt (Nat.le_of_eq g17.symm))
  have g_b17 : n0 ≤ b17 := Nat.le_trans Zs14 (Nat.le_of_eq g17.symm)
  have sz_b17 : h0.size ≤ b17 := Nat.le_trans K14.1 (Nat.le_of_eq g17.symm)
  have f18 := f16.ext E17
  have K17 : Keep h0 h17 [] := K14.ext E17
  have Zs17 := Nat.le_trans Zs14 E17.1
  have V17 : Arv Z h17 b17 k17 .int (3 : Int32) [(.int (0 : Int32)), (.int (0 : Int32)), (.int (0 : Int32))] (.int (0 : Int32)) := (Arv.new A17 (by decide)).pad (pad_rep [] (.int (0 : Int32)) 3)
  obtain ⟨cq19, Arq19, qq19, Sq19, Nq19, Hq19, Gq19⟩ := id V17
  obtain ⟨T20, h20, X20, e20, W20, st20⟩ := stI X17 hx hZ e17 Arq19 (j := (0 : Int32)) (inb_of Sq19 ⟨by decide, by decide⟩) (g := (mkF m 108 #[.val (.int p0), .val (.int p1), .val (.int p2), .val (.int p3), .val (.int p4), .val (.int ra), .val (.int rb), .val (.int rc), .val (.int (1 : Int32)), .val (.double d1), .second, .val (.double d2), .second, .val (.ref b3), .unset, .unset, .unset, .unset, .unset, .unset] [(.int (0 : Int32)), (.int (0 : Int32)), (.ref b17), (.ref b17)])) rfl rfl (hb hby at_108)
  have f21 := f18.other W20 ne_b3_b17
  have K20 : Keep h0 h20 [] := K17.wr W20 (Or.inr sz_b17)
  have Zs20 := Nat.le_trans Zs17 (Keep.of_wr W20).1
  have N20 := Fr.snoc X20 N14 g_b17
  have f22 : Arv Z h20 b17 k17 .int (3 : Int32) [(.int (0 : Int32)), (.int (0 : Int32)), (.int (0 : Int32))] (.int (0 : Int32)) := Arv.set Arq19 qq19 Sq19 Nq19 Hq19 Gq19 rfl W20 0 rfl (Nat.le_of_ble_eq_true rfl)
  obtain ⟨cq23, Arq23, qq23, Sq23, Nq23, Hq23, Gq23⟩ := id f22
  obtain ⟨T24, h24, X24, e24, W24, st24⟩ := stI X20 hx hZ e20 Arq23 (j := (1 : Int32)) (inb_of Sq23 ⟨by decide, by decide⟩) (g := (mkF m 112 #[.val (.int p0), .val (.int p1), .val (.int p2), .val (.int p3), .val (.int p4), .val (.int ra), .val (.int rb), .val (.int rc), .val (.int (1 : Int32)), .val (.double d1), .second, .val (.double d2), .second, .val (.ref b3), .unset, .unset, .unset, .unset, .unset, .unset] [(.int (1 : Int32)), (.int (1 : Int32)), (.ref b17), (.ref b17)])) rfl rfl (hb hby at_112)
  have f25 := f21.other W24 ne_b3_b17
  have K24 : Keep h0 h24 [] := K20.wr W24 (Or.inr sz_b17)
  have Zs24 := Nat.le_trans Zs20 (Keep.of_wr W24).1
  have N24 := Fr.snoc X24 N20 g_b17
  have f26 : Arv Z h24 b17 k17 .int (3 : Int32) [(.int (0 : Int32)), (.int (1 : Int32)), (.int (0 : Int32))] (.int (0 : Int32)) := Arv.set Arq23 qq23 Sq23 Nq23 Hq23 Gq23 rfl W24 1 rfl (Nat.le_of_ble_eq_true rfl)
  obtain ⟨cq27, Arq27, qq27, Sq27, Nq27, Hq27, Gq27⟩ := id f26
  obtain ⟨T28, h28, X28, e28, W28, st28⟩ := stI X24 hx hZ e24 Arq27 (j := (2 : Int32)) (inb_of Sq27 ⟨by decide, by decide⟩) (g := (mkF m 116 #[.val (.int p0), .val (.int p1), .val (.int p2), .val (.int p3), .val (.int p4), .val (.int ra), .val (.int rb), .val (.int rc), .val (.int (1 : Int32)), .val (.double d1), .second, .val (.double d2), .second, .val (.ref b3), .unset, .unset, .unset, .unset, .unset, .unset] [(.int (2 : Int32)), (.int (2 : Int32)), (.ref b17), (.ref b17)])) rfl rfl (hb hby at_116)
  have f29 := f25.other W28 ne_b3_b17
  have K28 : Keep h0 h28 [] := K24.wr W28 (Or.inr sz_b17)
  have Zs28 := Nat.le_trans Zs24 (Keep.of_wr W28).1
  have N28 := Fr.snoc X28 N24 g_b17
  have f30 : Arv Z h28 b17 k17 .int (3 : Int32) [(.int (0 : Int32)), (.int (1 : Int32)), (.int (2 : Int32))] (.int (0 : Int32)) := Arv.set Arq27 qq27 Sq27 Nq27 Hq27 Gq27 rfl W28 2 rfl (Nat.le_of_ble_eq_true rfl)
  obtain ⟨T31, h31, k31, X31, e31, E31, A31, st31⟩ := newP X28 hx hZ (hw _ (List.mem_of_getElem? (i := 5) rfl)) e28 (g := (mkF m 120 #[.val (.int p0), .val (.int p1), .val (.int p2), .val (.int p3), .val (.int p4), .val (.int ra), .val (.int rb), .val (.int rc), .val (.int (1 : Int32)), .val (.double d1), .second, .val (.double d2), .second, .val (.ref b3), .val (.ref b17), .unset, .unset, .unset, .unset, .unset] [(.int (2 : Int32))])) rfl (hb hby at_120) rfl (by decide) (cap := 2) (by decide) (by decide) (by decide) (by decide)
  obtain ⟨b31, g31⟩ : ∃ z, z = h28.size := ⟨_, rfl⟩
  rw [← g31] at A31 st31
  have ne_b3_b31 : b3 ≠ b31 := Nat.ne_of_lt (Nat.lt_of_lt_of_le f29.lt (Nat.le_of_eq g31.symm))
  have ne_b17_b31 : b17 ≠ b31 := Nat.ne_of_lt (Nat.lt_of_lt_of_le f30.lt (Nat.le_of_eq g31.symm))
  have g_b31 : n0 ≤ b31 := Nat.le_trans Zs28 (Nat.le_of_eq g31.symm)
  have sz_b31 : h0.size ≤ b31 := Nat.le_trans K28.1 (Nat.le_of_eq g31.symm)
  have f32 := f29.ext E31
  have f33 := f30.ext E31
  have K31 : Keep h0 h31 [] := K28.ext E31
  have Zs31 := Nat.le_trans Zs28 E31.1
  have V31 : Arv Z h31 b31 k31 .int (2 : Int32) [(.int (0 : Int32)), (.int (0 : Int32))] (.int (0 : Int32)) := (Arv.new A31 (by decide)).pad (pad_rep [] (.int (0 : Int32)) 2)
  obtain ⟨cq34, Arq34, qq34, Sq34, Nq34, Hq34, Gq34⟩ := id V31
  obtain ⟨T35, h35, X35, e35, W35, st35⟩ := stI X31 hx hZ e31 Arq34 (j := (0 : Int32)) (inb_of Sq34 ⟨by decide, by decide⟩) (g := (mkF m 126 #[.val (.int p0), .val (.int p1), .val (.int p2), .val (.int p3), .val (.int p4), .val (.int ra), .val (.int rb), .val (.int rc), .val (.int (1 : Int32)), .val (.double d1), .second, .val (.double d2), .second, .val (.ref b3), .val (.ref b17), .unset, .unset, .unset, .unset, .unset] [(.int rb), (.int (0 : Int32)), (.ref b31), (.ref b31)])) rfl rfl (hb hby at_126)
  have f36 := f32.other W35 ne_b3_b31
  have f37 := f33.other W35 ne_b17_b31
  have K35 : Keep h0 h35 [] := K31.wr W35 (Or.inr sz_b31)
  have Zs35 := Nat.le_trans Zs31 (Keep.of_wr W35).1
  have N35 := Fr.snoc X35 N28 g_b31
  have f38 : Arv Z h35 b31 k31 .int (2 : Int32) [(.int rb), (.int (0 : Int32))] (.int (0 : Int32)) := Arv.set Arq34 qq34 Sq34 Nq34 Hq34 Gq34 rfl W35 0 rfl (Nat.le_of_ble_eq_true rfl)
  obtain ⟨cq39, Arq39, qq39, Sq39, Nq39, Hq39, Gq39⟩ := id f38
  obtain ⟨T40, h40, X40, e40, W40, st40⟩ := stI X35 hx hZ e35 Arq39 (j := (1 : Int32)) (inb_of Sq39 ⟨by decide, by decide⟩) (g := (mkF m 131 #[.val (.int p0), .val (.int p1), .val (.int p2), .val (.int p3), .val (.int p4), .val (.int ra), .val (.int rb), .val (.int rc), .val (.int (1 : Int32)), .val (.double d1), .second, .val (.double d2), .second, .val (.ref b3), .val (.ref b17), .unset, .unset, .unset, .unset, .unset] [(.int rc), (.int (1 : Int32)), (.ref b31), (.ref b31)])) rfl rfl (hb hby at_131)
  have f41 := f36.other W40 ne_b3_b31
  have f42 := f37.other W40 ne_b17_b31
  have K40 : Keep h0 h40 [] := K35.wr W40 (Or.inr sz_b31)
  have Zs40 := Nat.le_trans Zs35 (Keep.of_wr W40).1
  have N40 := Fr.snoc X40 N35 g_b31
  have f43 : Arv Z h40 b31 k31 .int (2 : Int32) [(.int rb), (.int rc)] (.int (0 : Int32)) := Arv.set Arq39 qq39 Sq39 Nq39 Hq39 Gq39 rfl W40 1 rfl (Nat.le_of_ble_eq_true rfl)
  obtain ⟨T44, h44, k44, X44, e44, E44, A44, st44⟩ := newP X40 hx hZ (hw _ (List.mem_of_getElem? (i := 4) rfl)) e40 (g := (mkF m 135 #[.val (.int p0), .val (.int p1), .val (.int p2), .val (.int p3), .val (.int p4), .val (.int ra), .val (.int rb), .val (.int rc), .val (.int (1 : Int32)), .val (.double d1), .second, .val (.double d2), .second, .val (.ref b3), .val (.ref b17), .val (.ref b31), .unset, .unset, .unset, .unset] [(.int (2 : Int32))])) rfl (hb hby at_135) rfl (by decide) (cap := 2) (by decide) (by decide) (by decide) (by decide)
  obtain ⟨b44, g44⟩ : ∃ z, z = h40.size := ⟨_, rfl⟩
  rw [← g44] at A44 st44
  have ne_b3_b44 : b3 ≠ b44 := Nat.ne_of_lt (Nat.lt_of_lt_of_le f41.lt (Nat.le_of_eq g44.symm))
  have ne_b17_b44 : b17 ≠ b44 := Nat.ne_of_lt (Nat.lt_of_lt_of_le f42.lt (Nat.le_of_eq g44.symm))
  have ne_b31_b44 : b31 ≠ b44 := Nat.ne_of_lt (Nat.lt_of_lt_of_le f43.lt (Nat.le_of_eq g44.symm))
  have g_b44 : n0 ≤ b44 := Nat.le_trans Zs40 (Nat.le_of_eq g44.symm)
  have sz_b44 : h0.size ≤ b44 := Nat.le_trans K40.1 (Nat.le_of_eq g44.symm)
  have f45 := f41.ext E44
  have f46 := f42.ext E44
  have f47 := f43.ext E44
  have K44 : Keep h0 h44 [] := K40.ext E44
  have Zs44 := Nat.le_trans Zs40 E44.1
  have V44 : Arv Z h44 b44 k44 .double (2 : Int32) [(.double (0 : UInt64)), (.double (0 : UInt64))] (.double (0 : UInt64)) := (Arv.new A44 (by decide)).pad (pad_rep [] (.double (0 : UInt64)) 2)
  obtain ⟨cq48, Arq48, qq48, Sq48, Nq48, Hq48, Gq48⟩ := id V44
  obtain ⟨T49, h49, X49, e49, W49, st49⟩ := stD X44 hx hZ e44 Arq48 (j := (0 : Int32)) (inb_of Sq48 ⟨by decide, by decide⟩) (g := (mkF m 141 #[.val (.int p0), .val (.int p1), .val (.int p2), .val (.int p3), .val (.int p4), .val (.int ra), .val (.int rb), .val (.int rc), .val (.int (1 : Int32)), .val (.double d1), .second, .val (.double d2), .second, .val (.ref b3), .val (.ref b17), .val (.ref b31), .unset, .unset, .unset, .unset] [(.double d2), (.int (0 : Int32)), (.ref b44), (.ref b44)])) rfl rfl (hb hby at_141)
  have f50 := f45.other W49 ne_b3_b44
  have f51 := f46.other W49 ne_b17_b44
  have f52 := f47.other W49 ne_b31_b44
  have K49 : Keep h0 h49 [] := K44.wr W49 (Or.inr sz_b44)
  have Zs49 := Nat.le_trans Zs44 (Keep.of_wr W49).1
  have N49 := Fr.snoc X49 N40 g_b44
  have f53 : Arv Z h49 b44 k44 .double (2 : Int32) [(.double d2), (.double (0 : UInt64))] (.double (0 : UInt64)) := Arv.set Arq48 qq48 Sq48 Nq48 Hq48 Gq48 rfl W49 0 rfl (Nat.le_of_ble_eq_true rfl)
  obtain ⟨cq54, Arq54, qq54, Sq54, Nq54, Hq54, Gq54⟩ := id f53
  obtain ⟨T55, h55, X55, e55, W55, st55⟩ := stD X49 hx hZ e49 Arq54 (j := (1 : Int32)) (inb_of Sq54 ⟨by decide, by decide⟩) (g := (mkF m 150 #[.val (.int p0), .val (.int p1), .val (.int p2), .val (.int p3), .val (.int p4), .val (.int ra), .val (.int rb), .val (.int rc), .val (.int (1 : Int32)), .val (.double d1), .second, .val (.double d2), .second, .val (.ref b3), .val (.ref b17), .val (.ref b31), .unset, .unset, .unset, .unset] [(.double (FP.i2d u3)), (.int (1 : Int32)), (.ref b44), (.ref b44)])) rfl rfl (hb hby at_150)
  have f56 := f50.other W55 ne_b3_b44
  have f57 := f51.other W55 ne_b17_b44
  have f58 := f52.other W55 ne_b31_b44
  have K55 : Keep h0 h55 [] := K49.wr W55 (Or.inr sz_b44)
  have Zs55 := Nat.le_trans Zs49 (Keep.of_wr W55).1
  have N55 := Fr.snoc X55 N49 g_b44
  have f59 : Arv Z h55 b44 k44 .double (2 : Int32) [(.double d2), (.double (FP.i2d u3))] (.double (0 : UInt64)) := Arv.set Arq54 qq54 Sq54 Nq54 Hq54 Gq54 rfl W55 1 rfl (Nat.le_of_ble_eq_true rfl)
  obtain ⟨T60, h60, k60, X60, e60, E60, A60, st60⟩ := newP X55 hx hZ (hw _ (List.mem_of_getElem? (i := 4) rfl)) e55 (g := (mkF m 154 #[.val (.int p0), .val (.int p1), .val (.int p2), .val (.int p3), .val (.int p4), .val (.int ra), .val (.int rb), .val (.int rc), .val (.int (1 : Int32)), .val (.double d1), .second, .val (.double d2), .second, .val (.ref b3), .val (.ref b17), .val (.ref b31), .val (.ref b44), .unset, .unset, .unset] [(.int (3 : Int32))])) rfl (hb hby at_154) rfl (by decide) (cap := 3) (by decide) (by decide) (by decide) (by decide)
  obtain ⟨b60, g60⟩ : ∃ z, z = h55.size := ⟨_, rfl⟩
  rw [← g60] at A60 st60
  have ne_b3_b60 : b3 ≠ b60 := Nat.ne_of_lt (Nat.lt_of_lt_of_le f56.lt (Nat.le_of_eq g60.symm))
  have ne_b17_b60 : b17 ≠ b60 := Nat.ne_of_lt (Nat.lt_of_lt_of_le f57.lt (Nat.le_of_eq g60.symm))
  have ne_b31_b60 : b31 ≠ b60 := Nat.ne_of_lt (Nat.lt_of_lt_of_le f58.lt (Nat.le_of_eq g60.symm))
  have ne_b44_b60 : b44 ≠ b60 := Nat.ne_of_lt (Nat.lt_of_lt_of_le f59.lt (Nat.le_of_eq g60.symm))
  have g_b60 : n0 ≤ b60 := Nat.le_trans Zs55 (Nat.le_of_eq g60.symm)
  have sz_b60 : h0.size ≤ b60 := Nat.le_trans K55.1 (Nat.le_of_eq g60.symm)
  have f61 := f56.ext E60
  have f62 := f57.ext E60
  have f63 := f58.ext E60
  have f64 := f59.ext E60
  have K60 : Keep h0 h60 [] := K55.ext E60
  have Zs60 := Nat.le_trans Zs55 E60.1
  have V60 : Arv Z h60 b60 k60 .double (3 : Int32) [(.double (0 : UInt64)), (.double (0 : UInt64)), (.double (0 : UInt64))] (.double (0 : UInt64)) := (Arv.new A60 (by decide)).pad (pad_rep [] (.double (0 : UInt64)) 3)
  obtain ⟨cq65, Arq65, qq65, Sq65, Nq65, Hq65, Gq65⟩ := id V60
  obtain ⟨T66, h66, X66, e66, W66, st66⟩ := stD X60 hx hZ e60 Arq65 (j := (0 : Int32)) (inb_of Sq65 ⟨by decide, by decide⟩) (g := (mkF m 160 #[.val (.int p0), .val (.int p1), .val (.int p2), .val (.int p3), .val (.int p4), .val (.int ra), .val (.int rb), .val (.int rc), .val (.int (1 : Int32)), .val (.double d1), .second, .val (.double d2), .second, .val (.ref b3), .val (.ref b17), .val (.ref b31), .val (.ref b44), .unset, .unset, .unset] [(.double (FP.i2d p0)), (.int (0 : Int32)), (.ref b60), (.ref b60)])) rfl rfl (hb hby at_160)
  have f67 := f61.other W66 ne_b3_b60
  have f68 := f62.other W66 ne_b17_b60
  have f69 := f63.other W66 ne_b31_b60
  have f70 := f64.other W66 ne_b44_b60
  have K66 : Keep h0 h66 [] := K60.wr W66 (Or.inr sz_b60)
  have Zs66 := Nat.le_trans Zs60 (Keep.of_wr W66).1
  have N66 := Fr.snoc X66 N55 g_b60
  have f71 : Arv Z h66 b60 k60 .double (3 : Int32) [(.double (FP.i2d p0)), (.double (0 : UInt64)), (.double (0 : UInt64))] (.double (0 : UInt64)) := Arv.set Arq65 qq65 Sq65 Nq65 Hq65 Gq65 rfl W66 0 rfl (Nat.le_of_ble_eq_true rfl)
  obtain ⟨cq72, Arq72, qq72, Sq72, Nq72, Hq72, Gq72⟩ := id f71
  obtain ⟨T73, h73, X73, e73, W73, st73⟩ := stD X66 hx hZ e66 Arq72 (j := (1 : Int32)) (inb_of Sq72 ⟨by decide, by decide⟩) (g := (mkF m 165 #[.val (.int p0), .val (.int p1), .val (.int p2), .val (.int p3), .val (.int p4), .val (.int ra), .val (.int rb), .val (.int rc), .val (.int (1 : Int32)), .val (.double d1), .second, .val (.double d2), .second, .val (.ref b3), .val (.ref b17), .val (.ref b31), .val (.ref b44), .unset, .unset, .unset] [(.double (FP.i2d p1)), (.int (1 : Int32)), (.ref b60), (.ref b60)])) rfl rfl (hb hby at_165)
  have f74 := f67.other W73 ne_b3_b60
  have f75 := f68.other W73 ne_b17_b60
  have f76 := f69.other W73 ne_b31_b60
  have f77 := f70.other W73 ne_b44_b60
  have K73 : Keep h0 h73 [] := K66.wr W73 (Or.inr sz_b60)
  have Zs73 := Nat.le_trans Zs66 (Keep.of_wr W73).1
  have N73 := Fr.snoc X73 N66 g_b60
  have f78 : Arv Z h73 b60 k60 .double (3 : Int32) [(.double (FP.i2d p0)), (.double (FP.i2d p1)), (.double (0 : UInt64))] (.double (0 : UInt64)) := Arv.set Arq72 qq72 Sq72 Nq72 Hq72 Gq72 rfl W73 1 rfl (Nat.le_of_ble_eq_true rfl)
  obtain ⟨cq79, Arq79, qq79, Sq79, Nq79, Hq79, Gq79⟩ := id f78
  obtain ⟨T80, h80, X80, e80, W80, st80⟩ := stD X73 hx hZ e73 Arq79 (j := (2 : Int32)) (inb_of Sq79 ⟨by decide, by decide⟩) (g := (mkF m 170 #[.val (.int p0), .val (.int p1), .val (.int p2), .val (.int p3), .val (.int p4), .val (.int ra), .val (.int rb), .val (.int rc), .val (.int (1 : Int32)), .val (.double d1), .second, .val (.double d2), .second, .val (.ref b3), .val (.ref b17), .val (.ref b31), .val (.ref b44), .unset, .unset, .unset] [(.double (FP.i2d p2)), (.int (2 : Int32)), (.ref b60), (.ref b60)])) rfl rfl (hb hby at_170)
  have f81 := f74.other W80 ne_b3_b60
  have f82 := f75.other W80 ne_b17_b60
  have f83 := f76.other W80 ne_b31_b60
  have f84 := f77.other W80 ne_b44_b60
  have K80 : Keep h0 h80 [] := K73.wr W80 (Or.inr sz_b60)
  have Zs80 := Nat.le_trans Zs73 (Keep.of_wr W80).1
  have N80 := Fr.snoc X80 N73 g_b60
  have f85 : Arv Z h80 b60 k60 .double (3 : Int32) [(.double (FP.i2d p0)), (.double (FP.i2d p1)), (.double (FP.i2d p2))] (.double (0 : UInt64)) := Arv.set Arq79 qq79 Sq79 Nq79 Hq79 Gq79 rfl W80 2 rfl (Nat.le_of_ble_eq_true rfl)
  obtain ⟨T86, h86, k86, X86, e86, E86, A86, st86⟩ := newP X80 hx hZ (hw _ (List.mem_of_getElem? (i := 4) rfl)) e80 (g := (mkF m 174 #[.val (.int p0), .val (.int p1), .val (.int p2), .val (.int p3), .val (.int p4), .val (.int ra), .val (.int rb), .val (.int rc), .val (.int (1 : Int32)), .val (.double d1), .second, .val (.double d2), .second, .val (.ref b3), .val (.ref b17), .val (.ref b31), .val (.ref b44), .val (.ref b60), .unset, .unset] [(.int (3 : Int32))])) rfl (hb hby at_174) rfl (by decide) (cap := 3) (by decide) (by decide) (by decide) (by decide)
  obtain ⟨b86, g86⟩ : ∃ z, z = h80.size := ⟨_, rfl⟩
  rw [← g86] at A86 st86
  have ne_b3_b86 : b3 ≠ b86 := Nat.ne_of_lt (Nat.lt_of_lt_of_le f81.lt (Nat.le_of_eq g86.symm))
  have ne_b17_b86 : b17 ≠ b86 := Nat.ne_of_lt (Nat.lt_of_lt_of_le f82.lt (Nat.le_of_eq g86.symm))
  have ne_b31_b86 : b31 ≠ b86 := Nat.ne_of_lt (Nat.lt_of_lt_of_le f83.lt (Nat.le_of_eq g86.symm))
  have ne_b44_b86 : b44 ≠ b86 := Nat.ne_of_lt (Nat.lt_of_lt_of_le f84.lt (Nat.le_of_eq g86.symm))
  have ne_b60_b86 : b60 ≠ b86 := Nat.ne_of_lt (Nat.lt_of_lt_of_le f85.lt (Nat.le_of_eq g86.symm))
  have g_b86 : n0 ≤ b86 := Nat.le_trans Zs80 (Nat.le_of_eq g86.symm)
  have sz_b86 : h0.size ≤ b86 := Nat.le_trans K80.1 (Nat.le_of_eq g86.symm)
  have f87 := f81.ext E86
  have f88 := f82.ext E86
  have f89 := f83.ext E86
  have f90 := f84.ext E86
  have f91 := f85.ext E86
  have K86 : Keep h0 h86 [] := K80.ext E86
  have Zs86 := Nat.le_trans Zs80 E86.1
  have V86 : Arv Z h86 b86 k86 .double (3 : Int32) [(.double (0 : UInt64)), (.double (0 : UInt64)), (.double (0 : UInt64))] (.double (0 : UInt64)) := (Arv.new A86 (by decide)).pad (pad_rep [] (.double (0 : UInt64)) 3)
  obtain ⟨cq92, Arq92, qq92, Sq92, Nq92, Hq92, Gq92⟩ := id V86
  obtain ⟨T93, h93, X93, e93, W93, st93⟩ := stD X86 hx hZ e86 Arq92 (j := (0 : Int32)) (inb_of Sq92 ⟨by decide, by decide⟩) (g := (mkF m 180 #[.val (.int p0), .val (.int p1), .val (.int p2), .val (.int p3), .val (.int p4), .val (.int ra), .val (.int rb), .val (.int rc), .val (.int (1 : Int32)), .val (.double d1), .second, .val (.double d2), .second, .val (.ref b3), .val (.ref b17), .val (.ref b31), .val (.ref b44), .val (.ref b60), .unset, .unset] [(.double (FP.i2d p0)), (.int (0 : Int32)), (.ref b86), (.ref b86)])) rfl rfl (hb hby at_180)
  have f94 := f87.other W93 ne_b3_b86
  have f95 := f88.other W93 ne_b17_b86
  have f96 := f89.other W93 ne_b31_b86
  have f97 := f90.other W93 ne_b44_b86
  have f98 := f91.other W93 ne_b60_b86
  have K93 : Keep h0 h93 [] := K86.wr W93 (Or.inr sz_b86)
  have Zs93 := Nat.le_trans Zs86 (Keep.of_wr W93).1
  have N93 := Fr.snoc X93 N80 g_b86
  have f99 : Arv Z h93 b86 k86 .double (3 : Int32) [(.double (FP.i2d p0)), (.double (0 : UInt64)), (.double (0 : UInt64))] (.double (0 : UInt64)) := Arv.set Arq92 qq92 Sq92 Nq92 Hq92 Gq92 rfl W93 0 rfl (Nat.le_of_ble_eq_true rfl)
  obtain ⟨cq100, Arq100, qq100, Sq100, Nq100, Hq100, Gq100⟩ := id f99
  obtain ⟨T101, h101, X101, e101, W101, st101⟩ := stD X93 hx hZ e93 Arq100 (j := (1 : Int32)) (inb_of Sq100 ⟨by decide, by decide⟩) (g := (mkF m 185 #[.val (.int p0), .val (.int p1), .val (.int p2), .val (.int p3), .val (.int p4), .val (.int ra), .val (.int rb), .val (.int rc), .val (.int (1 : Int32)), .val (.double d1), .second, .val (.double d2), .second, .val (.ref b3), .val (.ref b17), .val (.ref b31), .val (.ref b44), .val (.ref b60), .unset, .unset] [(.double (FP.i2d p1)), (.int (1 : Int32)), (.ref b86), (.ref b86)])) rfl rfl (hb hby at_185)
  have f102 := f94.other W101 ne_b3_b86
  have f103 := f95.other W101 ne_b17_b86
  have f104 := f96.other W101 ne_b31_b86
  have f105 := f97.other W101 ne_b44_b86
  have f106 := f98.other W101 ne_b60_b86
  have K101 : Keep h0 h101 [] := K93.wr W101 (Or.inr sz_b86)
  have Zs101 := Nat.le_trans Zs93 (Keep.of_wr W101).1
  have N101 := Fr.snoc X101 N93 g_b86
  have f107 : Arv Z h101 b86 k86 .double (3 : Int32) [(.double (FP.i2d p0)), (.double (FP.i2d p1)), (.double (0 : UInt64))] (.double (0 : UInt64)) := Arv.set Arq100 qq100 Sq100 Nq100 Hq100 Gq100 rfl W101 1 rfl (Nat.le_of_ble_eq_true rfl)
  obtain ⟨cq108, Arq108, qq108, Sq108, Nq108, Hq108, Gq108⟩ := id f107
  obtain ⟨T109, h109, X109, e109, W109, st109⟩ := stD X101 hx hZ e101 Arq108 (j := (2 : Int32)) (inb_of Sq108 ⟨by decide, by decide⟩) (g := (mkF m 190 #[.val (.int p0), .val (.int p1), .val (.int p2), .val (.int p3), .val (.int p4), .val (.int ra), .val (.int rb), .val (.int rc), .val (.int (1 : Int32)), .val (.double d1), .second, .val (.double d2), .second, .val (.ref b3), .val (.ref b17), .val (.ref b31), .val (.ref b44), .val (.ref b60), .unset, .unset] [(.double (FP.i2d p2)), (.int (2 : Int32)), (.ref b86), (.ref b86)])) rfl rfl (hb hby at_190)
  have f110 := f102.other W109 ne_b3_b86
  have f111 := f103.other W109 ne_b17_b86
  have f112 := f104.other W109 ne_b31_b86
  have f113 := f105.other W109 ne_b44_b86
  have f114 := f106.other W109 ne_b60_b86
  have K109 : Keep h0 h109 [] := K101.wr W109 (Or.inr sz_b86)
  have Zs109 := Nat.le_trans Zs101 (Keep.of_wr W109).1
  have N109 := Fr.snoc X109 N101 g_b86
  have f115 : Arv Z h109 b86 k86 .double (3 : Int32) [(.double (FP.i2d p0)), (.double (FP.i2d p1)), (.double (FP.i2d p2))] (.double (0 : UInt64)) := Arv.set Arq108 qq108 Sq108 Nq108 Hq108 Gq108 rfl W109 2 rfl (Nat.le_of_ble_eq_true rfl)
  obtain ⟨T116, h116, X116, e116, E116, A116, D116, -, st116⟩ := newO X109 hx hZ hown (hw _ (List.mem_of_getElem? (i := 6) rfl)) (hw _ (List.mem_of_getElem? (i := 7) rfl)) (hw _ (List.mem_of_getElem? (i := 8) rfl)) e109 (g := (mkF m 193 #[.val (.int p0), .val (.int p1), .val (.int p2), .val (.int p3), .val (.int p4), .val (.int ra), .val (.int rb), .val (.int rc), .val (.int (1 : Int32)), .val (.double d1), .second, .val (.double d2), .second, .val (.ref b3), .val (.ref b17), .val (.ref b31), .val (.ref b44), .val (.ref b60), .val (.ref b86), .unset] [])) rfl (hb hby at_193) (by decide) (by decide)
  obtain ⟨b116, g116⟩ : ∃ z, z = h109.size := ⟨_, rfl⟩
  rw [← g116] at A116 D116 st116
  have ne_b3_b116 : b3 ≠ b116 := Nat.ne_of_lt (Nat.lt_of_lt_of_le f110.lt (Nat.le_of_eq g116.symm))
  have ne_b17_b116 : b17 ≠ b116 := Nat.ne_of_lt (Nat.lt_of_lt_of_le f111.lt (Nat.le_of_eq g116.symm))
  have ne_b31_b116 : b31 ≠ b116 := Nat.ne_of_lt (Nat.lt_of_lt_of_le f112.lt (Nat.le_of_eq g116.symm))
  have ne_b44_b116 : b44 ≠ b116 := Nat.ne_of_lt (Nat.lt_of_lt_of_le f113.lt (Nat.le_of_eq g116.symm))
  have ne_b60_b116 : b60 ≠ b116 := Nat.ne_of_lt (Nat.lt_of_lt_of_le f114.lt (Nat.le_of_eq g116.symm))
  have ne_b86_b116 : b86 ≠ b116 := Nat.ne_of_lt (Nat.lt_of_lt_of_le f115.lt (Nat.le_of_eq g116.symm))
  have g_b116 : n0 ≤ b116 := Nat.le_trans Zs109 (Nat.le_of_eq g116.symm)
  have sz_b116 : h0.size ≤ b116 := Nat.le_trans K109.1 (Nat.le_of_eq g116.symm)
  have f117 := f110.ext E116
  have f118 := f111.ext E116
  have f119 := f112.ext E116
  have f120 := f113.ext E116
  have f121 := f114.ext E116
  have f122 := f115.ext E116
  have K116 : Keep h0 h116 [] := K109.ext E116
  have Zs116 := Nat.le_trans Zs109 E116.1
  have F116_pivotRows : Fld Z h116 b116 "com/example/leeway/leeway/lp/BasisInverse" "pivotRows" "[I" .null := D116 (Or.inl (hw _ (List.mem_of_getElem? (i := 16) rfl))) (ty := (.array .int)) (by decide)
  have F116_pivots : Fld Z h116 b116 "com/example/leeway/leeway/lp/BasisInverse" "pivots" "[D" .null := D116 (Or.inl (hw _ (List.mem_of_getElem? (i := 18) rfl))) (ty := (.array .double)) (by decide)
  have F116_termStart : Fld Z h116 b116 "com/example/leeway/leeway/lp/BasisInverse" "termStart" "[I" .null := D116 (Or.inl (hw _ (List.mem_of_getElem? (i := 20) rfl))) (ty := (.array .int)) (by decide)
  have F116_termRows : Fld Z h116 b116 "com/example/leeway/leeway/lp/BasisInverse" "termRows" "[I" .null := D116 (Or.inl (hw _ (List.mem_of_getElem? (i := 22) rfl))) (ty := (.array .int)) (by decide)
  have F116_termValues : Fld Z h116 b116 "com/example/leeway/leeway/lp/BasisInverse" "termValues" "[D" .null := D116 (Or.inl (hw _ (List.mem_of_getElem? (i := 24) rfl))) (ty := (.array .double)) (by decide)
  have F116_count : Fld Z h116 b116 "com/example/leeway/leeway/lp/BasisInverse" "count" "I" (.int (0 : Int32)) := D116 (Or.inl (hw _ (List.mem_of_getElem? (i := 31) rfl))) (ty := .int) (by decide)
  obtain ⟨_, _, ⟨T123, L123, k123, n123⟩, -, X123, ⟨Lc123, hQ123, lq123, yq123, zq123⟩, st123⟩ := X116.specialBack hx (y := (⟨"com/example/leeway/leeway/lp/BasisInverse", "<init>", "()V"⟩ : MethodName)) rfl hown (mvT hZ (hw _ (List.mem_of_getElem? (i := 9) rfl))) (mvT hZ (hw _ (List.mem_of_getElem? (i := 10) rfl))) (mvT hZ (hw _ (List.mem_of_getElem? (i := 11) rfl))) (by decide) (backOf (W := 1) (ini l Z a0 hw [] b116 h116 n0 Zs116 g_b116 A116 F116_pivotRows F116_pivots F116_termStart F116_termRows F116_termValues F116_count) hZ (hw _ (List.mem_of_getElem? (i := 11) rfl)) (hw _ (List.mem_of_getElem? (i := 8) rfl)) (by decide) (by decide)) (g := (mkF m 197 #[.val (.int p0), .val (.int p1), .val (.int p2), .val (.int p3), .val (.int p4), .val (.int ra), .val (.int rb), .val (.int rc), .val (.int (1 : Int32)), .val (.double d1), .second, .val (.double d2), .second, .val (.ref b3), .val (.ref b17), .val (.ref b31), .val (.ref b44), .val (.ref b60), .val (.ref b86), .unset] [(.ref b116), (.ref b116)])) rfl (by rw [hml]; rfl) (Steps.refl _) (a := b116) (argsL := []) (rest := [(.ref b116)]) (lenOf pd_3 rfl) rfl (by show 2 * 0 + _ ≤ _; exact Nat.le_of_eq rfl) (hb hby at_197) (fun _ _ => ⟨rfl, e116, (by decide : 7 + 5 ≤ _), (by decide : 22 + 177 ≤ _)⟩)
  dsimp only [Pt.U, Pt.locs, Pt.cells, Pt.slots] at X123 lq123 yq123 zq123 st123 hQ123
  rw [lq123, yq123, zq123] at X123
  obtain ⟨b2_123, b19_123, b38_123, b59_123, b82_123, k2_123, k19_123, k38_123, k59_123, k82_123, rfl, N123q, K123q, r124, r125, r126, r127, r128, r129, r130, r131, r132, r133, r134, r135, r136, r137, r138, f139, f140, f141, f142, f143, f144, f145, f146, f147, f148, f149, f150⟩ := hQ123
  have N123 := Fr.app N109 N123q
  have ne_b3_b2_123 : b3 ≠ b2_123 := Nat.ne_of_lt (Nat.lt_of_lt_of_le f117.lt r124)
  have ne_b17_b2_123 : b17 ≠ b2_123 := Nat.ne_of_lt (Nat.lt_of_lt_of_le f118.lt r124)
  have ne_b31_b2_123 : b31 ≠ b2_123 := Nat.ne_of_lt (Nat.lt_of_lt_of_le f119.lt r124)
  have ne_b44_b2_123 : b44 ≠ b2_123 := Nat.ne_of_lt (Nat.lt_of_lt_of_le f120.lt r124)
  have ne_b60_b2_123 : b60 ≠ b2_123 := Nat.ne_of_lt (Nat.lt_of_lt_of_le f121.lt r124)
  have ne_b86_b2_123 : b86 ≠ b2_123 := Nat.ne_of_lt (Nat.lt_of_lt_of_le f122.lt r124)
  have ne_b116_b2_123 : b116 ≠ b2_123 := Nat.ne_of_lt (Nat.lt_of_lt_of_le A116.lt r124)
  have g_b2_123 : n0 ≤ b2_123 := Nat.le_trans Zs116 r124
  have sz_b2_123 : h0.size ≤ b2_123 := Nat.le_trans K116.1 r124
  have ne_b3_b19_123 : b3 ≠ b19_123 := Nat.ne_of_lt (Nat.lt_of_lt_of_le f117.lt r125)
  have ne_b17_b19_123 : b17 ≠ b19_123 := Nat.ne_of_lt (Nat.lt_of_lt_of_le f118.lt r125)
  have ne_b31_b19_123 : b31 ≠ b19_123 := Nat.ne_of_lt (Nat.lt_of_lt_of_le f119.lt r125)
  have ne_b44_b19_123 : b44 ≠ b19_123 := Nat.ne_of_lt (Nat.lt_of_lt_of_le f120.lt r125)
  have ne_b60_b19_123 : b60 ≠ b19_123 := Nat.ne_of_lt (Nat.lt_of_lt_of_le f121.lt r125)
  have ne_b86_b19_123 : b86 ≠ b19_123 := Nat.ne_of_lt (Nat.lt_of_lt_of_le f122.lt r125)
  have ne_b116_b19_123 : b116 ≠ b19_123 := Nat.ne_of_lt (Nat.lt_of_lt_of_le A116.lt r125)
  have g_b19_123 : n0 ≤ b19_123 := Nat.le_trans Zs116 r125
  have sz_b19_123 : h0.size ≤ b19_123 := Nat.le_trans K116.1 r125
  have ne_b3_b38_123 : b3 ≠ b38_123 := Nat.ne_of_lt (Nat.lt_of_lt_of_le f117.lt r126)
  have ne_b17_b38_123 : b17 ≠ b38_123 := Nat.ne_of_lt (Nat.lt_of_lt_of_le f118.lt r126)
  have ne_b31_b38_123 : b31 ≠ b38_123 := Nat.ne_of_lt (Nat.lt_of_lt_of_le f119.lt r126)
  have ne_b44_b38_123 : b44 ≠ b38_123 := Nat.ne_of_lt (Nat.lt_of_lt_of_le f120.lt r126)
  have ne_b60_b38_123 : b60 ≠ b38_123 := Nat.ne_of_lt (Nat.lt_of_lt_of_le f121.lt r126)
  have ne_b86_b38_123 : b86 ≠ b38_123 := Nat.ne_of_lt (Nat.lt_of_lt_of_le f122.lt r126)
  have ne_b116_b38_123 : b116 ≠ b38_123 := Nat.ne_of_lt (Nat.lt_of_lt_of_le A116.lt r126)
  have g_b38_123 : n0 ≤ b38_123 := Nat.le_trans Zs116 r126
  have sz_b38_123 : h0.size ≤ b38_123 := Nat.le_trans K116.1 r126
  have ne_b3_b59_123 : b3 ≠ b59_123 := Nat.ne_of_lt (Nat.lt_of_lt_of_le f117.lt r127)
  have ne_b17_b59_123 : b17 ≠ b59_123 := Nat.ne_of_lt (Nat.lt_of_lt_of_le f118.lt r127)
  have ne_b31_b59_123 : b31 ≠ b59_123 := Nat.ne_of_lt (Nat.lt_of_lt_of_le f119.lt r127)
  have ne_b44_b59_123 : b44 ≠ b59_123 := Nat.ne_of_lt (Nat.lt_of_lt_of_le f120.lt r127)
  have ne_b60_b59_123 : b60 ≠ b59_123 := Nat.ne_of_lt (Nat.lt_of_lt_of_le f121.lt r127)
  have ne_b86_b59_123 : b86 ≠ b59_123 := Nat.ne_of_lt (Nat.lt_of_lt_of_le f122.lt r127)
  have ne_b116_b59_123 : b116 ≠ b59_123 := Nat.ne_of_lt (Nat.lt_of_lt_of_le A116.lt r127)
  have g_b59_123 : n0 ≤ b59_123 := Nat.le_trans Zs116 r127
  have sz_b59_123 : h0.size ≤ b59_123 := Nat.le_trans K116.1 r127
  have ne_b3_b82_123 : b3 ≠ b82_123 := Nat.ne_of_lt (Nat.lt_of_lt_of_le f117.lt r128)
  have ne_b17_b82_123 : b17 ≠ b82_123 := Nat.ne_of_lt (Nat.lt_of_lt_of_le f118.lt r128)
  have ne_b31_b82_123 : b31 ≠ b82_123 := Nat.ne_of_lt (Nat.lt_of_lt_of_le f119.lt r128)
  have ne_b44_b82_123 : b44 ≠ b82_123 := Nat.ne_of_lt (Nat.lt_of_lt_of_le f120.lt r128)
  have ne_b60_b82_123 : b60 ≠ b82_123 := Nat.ne_of_lt (Nat.lt_of_lt_of_le f121.lt r128)
  have ne_b86_b82_123 : b86 ≠ b82_123 := Nat.ne_of_lt (Nat.lt_of_lt_of_le f122.lt r128)
  have ne_b116_b82_123 : b116 ≠ b82_123 := Nat.ne_of_lt (Nat.lt_of_lt_of_le A116.lt r128)
  have g_b82_123 : n0 ≤ b82_123 := Nat.le_trans Zs116 r128
  have sz_b82_123 : h0.size ≤ b82_123 := Nat.le_trans K116.1 r128
  have f151 := f117.keep K123q (own_niS ne_b3_b116 own_ni0)
  have f152 := f118.keep K123q (own_niS ne_b17_b116 own_ni0)
  have f153 := f119.keep K123q (own_niS ne_b31_b116 own_ni0)
  have f154 := f120.keep K123q (own_niS ne_b44_b116 own_ni0)
  have f155 := f121.keep K123q (own_niS ne_b60_b116 own_ni0)
  have f156 := f122.keep K123q (own_niS ne_b86_b116 own_ni0)
  have f157 := A116.keep K123q
  have K123 : Keep h0 T123.heap [] := K116.trans K123q (own_allS (Or.inr sz_b116) own_all0)
  have Zs123 := Nat.le_trans Zs116 K123q.1
  obtain ⟨cq158, kq158, q158a, q158b, q158c⟩ := isOf hZ rfl f139
  obtain ⟨_, _, ⟨T158, L158, k158, n158⟩, -, X158, ⟨Lc158, hQ158, lq158, yq158, zq158⟩, st158⟩ := X123.virtualBack hx (y := (⟨"com/example/leeway/leeway/lp/BasisInverse", "replace", "(I[I[D)V"⟩ : MethodName)) (z := (⟨"com/example/leeway/leeway/lp/BasisInverse", "replace", "(I[I[D)V"⟩ : MethodName)) hown (mvT hZ (hw _ (List.mem_of_getElem? (i := 36) rfl))) (mvT hZ (hw _ (List.mem_of_getElem? (i := 37) rfl))) (notFace_of_selects (args := #[]) (mvT hZ (hw _ (List.mem_of_getElem? (i := 39) rfl)))) (mvT hZ (hw _ (List.mem_of_getElem? (i := 39) rfl))) (mvT hZ (hw _ (List.mem_of_getElem? (i := 38) rfl))) (by decide) (backOf (W := 0) (rp1 l Z a0 hw [] b116 b2_123 b19_123 b38_123 b59_123 b82_123 k2_123 k19_123 k38_123 k59_123 k82_123 b17 b3 k17 k3 v0 v1 v2 ra pe1 tx ty va vb T123.heap n0 Zs123 f140 f141 f142 f143 f144 f145 f139 f146 f147 f148 f149 f150 g_b116 g_b2_123 g_b19_123 g_b38_123 g_b59_123 g_b82_123 ne_b116_b2_123 ne_b116_b19_123 ne_b116_b38_123 ne_b116_b59_123 ne_b116_b82_123 r129 r130 r131 r132 r133 r134 r135 r136 r137 r138 f152 f151 (Ne.symm ne_b17_b116) (Ne.symm ne_b3_b116) (Ne.symm ne_b17_b2_123) (Ne.symm ne_b3_b2_123) (Ne.symm ne_b17_b19_123) (Ne.symm ne_b3_b19_123) (Ne.symm ne_b17_b38_123) (Ne.symm ne_b3_b38_123) (Ne.symm ne_b17_b59_123) (Ne.symm ne_b3_b59_123) (Ne.symm ne_b17_b82_123) (Ne.symm ne_b3_b82_123) hcase_216) hZ (hw _ (List.mem_of_getElem? (i := 40) rfl)) (hw _ (List.mem_of_getElem? (i := 8) rfl)) (by decide) (by decide)) q158a q158c (g := (mkF m 216 #[.val (.int p0), .val (.int p1), .val (.int p2), .val (.int p3), .val (.int p4), .val (.int ra), .val (.int rb), .val (.int rc), .val (.int (1 : Int32)), .val (.double d1), .second, .val (.double d2), .second, .val (.ref b3), .val (.ref b17), .val (.ref b31), .val (.ref b44), .val (.ref b60), .val (.ref b86), .val (.ref b116)] [(.ref b3), (.ref b17), (.int ra), (.ref b116)])) rfl (by rw [hml]; rfl) (Steps.refl _) (argsL := [(.int ra), (.ref b17), (.ref b3)]) (rest := []) (lenOf pd_6 rfl) rfl (by show 2 * 0 + _ ≤ _; exact Nat.le_of_eq rfl) (hb hby at_216) (fun _ _ => ⟨rfl, rfl, (by decide : 12 + 0 ≤ _), (by decide : 199 + 0 ≤ _)⟩)
  dsimp only [Pt.U, Pt.locs, Pt.cells, Pt.slots] at X158 lq158 yq158 zq158 st158 hQ158
  rw [lq158, yq158, zq158] at X158
  obtain ⟨rfl, N158q, K158q, f159, f160, f161, f162, f163, f164, f165, f166, f167, f168, f169, f170⟩ := hQ158
  have N158 := Fr.app N123 N158q
  have f171 := f151.keep K158q (own_niS ne_b3_b82_123 (own_niS ne_b3_b59_123 (own_niS ne_b3_b38_123 (own_niS ne_b3_b116 (own_niS ne_b3_b19_123 (own_niS ne_b3_b2_123 own_ni0))))))
  have f172 := f152.keep K158q (own_niS ne_b17_b82_123 (own_niS ne_b17_b59_123 (own_niS ne_b17_b38_123 (own_niS ne_b17_b116 (own_niS ne_b17_b19_123 (own_niS ne_b17_b2_123 own_ni0))))))
  have f173 := f153.keep K158q (own_niS ne_b31_b82_123 (own_niS ne_b31_b59_123 (own_niS ne_b31_b38_123 (own_niS ne_b31_b116 (own_niS ne_b31_b19_123 (own_niS ne_b31_b2_123 own_ni0))))))
  have f174 := f154.keep K158q (own_niS ne_b44_b82_123 (own_niS ne_b44_b59_123 (own_niS ne_b44_b38_123 (own_niS ne_b44_b116 (own_niS ne_b44_b19_123 (own_niS ne_b44_b2_123 own_ni0))))))
  have f175 := f155.keep K158q (own_niS ne_b60_b82_123 (own_niS ne_b60_b59_123 (own_niS ne_b60_b38_123 (own_niS ne_b60_b116 (own_niS ne_b60_b19_123 (own_niS ne_b60_b2_123 own_ni0))))))
  have f176 := f156.keep K158q (own_niS ne_b86_b82_123 (own_niS ne_b86_b59_123 (own_niS ne_b86_b38_123 (own_niS ne_b86_b116 (own_niS ne_b86_b19_123 (own_niS ne_b86_b2_123 own_ni0))))))
  have f177 := f139.keep K158q
  have K158 : Keep h0 T158.heap [] := K123.trans K158q (own_allS (Or.inr sz_b82_123) (own_allS (Or.inr sz_b59_123) (own_allS (Or.inr sz_b38_123) (own_allS (Or.inr sz_b116) (own_allS (Or.inr sz_b19_123) (own_allS (Or.inr sz_b2_123) own_all0))))))
  have Zs158 := Nat.le_trans Zs123 K158q.1
  obtain ⟨cq178, kq178, q178a, q178b, q178c⟩ := isOf hZ rfl f159
  obtain ⟨_, _, ⟨T178, L178, k178, n178⟩, -, X178, ⟨Lc178, hQ178, lq178, yq178, zq178⟩, st178⟩ := X158.virtualBack hx (y := (⟨"com/example/leeway/leeway/lp/BasisInverse", "solveTransposed", "([D)V"⟩ : MethodName)) (z := (⟨"com/example/leeway/leeway/lp/BasisInverse", "solveTransposed", "([D)V"⟩ : MethodName)) hown (mvT hZ (hw _ (List.mem_of_getElem? (i := 25) rfl))) (mvT hZ (hw _ (List.mem_of_getElem? (i := 26) rfl))) (notFace_of_selects (args := #[]) (mvT hZ (hw _ (List.mem_of_getElem? (i := 28) rfl)))) (mvT hZ (hw _ (List.mem_of_getElem? (i := 28) rfl))) (mvT hZ (hw _ (List.mem_of_getElem? (i := 27) rfl))) (by decide) (backOf (W := 0) (so1 l Z a0 hw [] b116 b2_123 b19_123 b38_123 b59_123 b82_123 k2_123 k19_123 k38_123 k59_123 k82_123 ra pe1 tx ty va vb b86 k86 (FP.i2d p0) (FP.i2d p1) (FP.i2d p2) ca cx cy qa y0 y1 y2 T158.heap n0 Zs158 f160 f161 f162 f163 f164 f165 f159 f166 f167 f168 f169 f170 f176 g_b86 (Ne.symm ne_b86_b116) (Ne.symm ne_b86_b2_123) (Ne.symm ne_b86_b19_123) (Ne.symm ne_b86_b38_123) (Ne.symm ne_b86_b59_123) (Ne.symm ne_b86_b82_123) hn_ra_240 hca_240 hn_tx_240 hcx_240 hn_ty_240 hcy_240 hl_ra_240 hy_240 nn62_240 nn63_240 nn62_1_240 nn63_1_240 nn82_240 hq82_240) hZ (hw _ (List.mem_of_getElem? (i := 29) rfl)) (hw _ (List.mem_of_getElem? (i := 8) rfl)) (by decide) (by decide)) q178a q178c (g := (mkF m 240 #[.val (.int p0), .val (.int p1), .val (.int p2), .val (.int p3), .val (.int p4), .val (.int ra), .val (.int rb), .val (.int rc), .val (.int (1 : Int32)), .val (.double d1), .second, .val (.double d2), .second, .val (.ref b3), .val (.ref b17), .val (.ref b31), .val (.ref b44), .val (.ref b60), .val (.ref b86), .val (.ref b116)] [(.ref b86), (.ref b116)])) rfl (by rw [hml]; rfl) (Steps.refl _) (argsL := [(.ref b86)]) (rest := []) (lenOf pd_4 rfl) rfl (by show 2 * 0 + _ ≤ _; exact Nat.le_of_eq rfl) (hb hby at_240) (fun _ _ => ⟨rfl, rfl, (by decide : 12 + 0 ≤ _), (by decide : 199 + 0 ≤ _)⟩)
  dsimp only [Pt.U, Pt.locs, Pt.cells, Pt.slots] at X178 lq178 yq178 zq178 st178 hQ178
  rw [lq178, yq178, zq178] at X178
  obtain ⟨rfl, N178q, K178q, f179⟩ := hQ178
  have N178 := Fr.app N158 N178q
  have f180 := f171.keep K178q (own_niS ne_b3_b86 own_ni0)
  have f181 := f172.keep K178q (own_niS ne_b17_b86 own_ni0)
  have f182 := f173.keep K178q (own_niS ne_b31_b86 own_ni0)
  have f183 := f174.keep K178q (own_niS ne_b44_b86 own_ni0)
  have f184 := f175.keep K178q (own_niS ne_b60_b86 own_ni0)
  have f185 := f159.keep K178q
  have f186 := f160.keep K178q (own_niS (Ne.symm ne_b86_b116) own_ni0)
  have f187 := f161.keep K178q (own_niS (Ne.symm ne_b86_b116) own_ni0)
  have f188 := f162.keep K178q (own_niS (Ne.symm ne_b86_b116) own_ni0)
  have f189 := f163.keep K178q (own_niS (Ne.symm ne_b86_b116) own_ni0)
  have f190 := f164.keep K178q (own_niS (Ne.symm ne_b86_b116) own_ni0)
  have f191 := f165.keep K178q (own_niS (Ne.symm ne_b86_b116) own_ni0)
  have f192 := f166.keep K178q (own_niS (Ne.symm ne_b86_b2_123) own_ni0)
  have f193 := f167.keep K178q (own_niS (Ne.symm ne_b86_b19_123) own_ni0)
  have f194 := f168.keep K178q (own_niS (Ne.symm ne_b86_b38_123) own_ni0)
  have f195 := f169.keep K178q (own_niS (Ne.symm ne_b86_b59_123) own_ni0)
  have f196 := f170.keep K178q (own_niS (Ne.symm ne_b86_b82_123) own_ni0)
  have K178 : Keep h0 T178.heap [] := K158.trans K178q (own_allS (Or.inr sz_b86) own_all0)
  have Zs178 := Nat.le_trans Zs158 K178q.1
  obtain ⟨_, _, ⟨T197, L197, k197, n197⟩, -, X197, ⟨Lc197, hQ197, lq197, yq197, zq197⟩, st197⟩ := Jvm.LawKit.callS X178 hx (y := (⟨"com/example/leeway/leeway/lp/BasisInverseSolveTransposedPinLaw", "column", "(IIIII[D[D[D[D)Z"⟩ : MethodName)) hown (mvT hZ (hw _ (List.mem_of_getElem? (i := 32) rfl))) (mvT hZ (hw _ (List.mem_of_getElem? (i := 33) rfl))) (mvT hZ (hw _ (List.mem_of_getElem? (i := 2) rfl))) (mvT hZ (hw _ (List.mem_of_getElem? (i := 34) rfl))) (by decide) (backOf (W := 0) (col1 l Z a0 hw [] (0 : Int32) ra rb rc b86 b3 b44 b60 k86 k3 k44 k60 y0 y1 y2 v0 v1 v2 (FP.i2d p0) (FP.i2d p1) (FP.i2d p2) d2 (FP.i2d u3) (FP.i2d p0) yj0 yb yc T178.heap n0 Zs178 f179 f180 f184 f183 hjj_260 hcj_260 hcase_260) hZ (hw _ (List.mem_of_getElem? (i := 34) rfl)) (hw _ (List.mem_of_getElem? (i := 2) rfl)) (by decide) (by decide)) (g := (mkF m 260 #[.val (.int p0), .val (.int p1), .val (.int p2), .val (.int p3), .val (.int p4), .val (.int ra), .val (.int rb), .val (.int rc), .val (.int (1 : Int32)), .val (.double d1), .second, .val (.double d2), .second, .val (.ref b3), .val (.ref b17), .val (.ref b31), .val (.ref b44), .val (.ref b60), .val (.ref b86), .val (.ref b116)] [(.ref b60), (.ref b44), (.ref b3), (.ref b86), (.int rc), (.int rb), (.int ra), (.int (1 : Int32)), (.int (0 : Int32))])) rfl (by rw [hml]; rfl) (argsL := [(.int (0 : Int32)), (.int (1 : Int32)), (.int ra), (.int rb), (.int rc), (.ref b86), (.ref b3), (.ref b44), (.ref b60)]) (rest := []) (lenOf pd_5 rfl) rfl (by show 2 * 0 + _ ≤ _; exact Nat.le_of_eq rfl) (hb hby at_260) (fun _ _ => ⟨rfl, rfl, (by decide : 12 + 0 ≤ _), (by decide : 199 + 0 ≤ _)⟩)
  dsimp only [Pt.U, Pt.locs, Pt.cells, Pt.slots] at X197 lq197 yq197 zq197 st197 hQ197
  rw [lq197, yq197, zq197] at X197
  obtain ⟨rfl, N197q, eh197⟩ := hQ197
  have N197 := Fr.app N178 N197q
  have e197 : T197.heap = T178.heap := eh197
  obtain ⟨_, _, ⟨T198, L198, k198, n198⟩, -, X198, ⟨Lc198, hQ198, lq198, yq198, zq198⟩, st198⟩ := Jvm.LawKit.callS X197 hx (y := (⟨"com/example/leeway/leeway/lp/BasisInverseSolveTransposedPinLaw", "column", "(IIIII[D[D[D[D)Z"⟩ : MethodName)) hown (mvT hZ (hw _ (List.mem_of_getElem? (i := 32) rfl))) (mvT hZ (hw _ (List.mem_of_getElem? (i := 33) rfl))) (mvT hZ (hw _ (List.mem_of_getElem? (i := 2) rfl))) (mvT hZ (hw _ (List.mem_of_getElem? (i := 34) rfl))) (by decide) (backOf (W := 0) (col1 l Z a0 hw [] (1 : Int32) ra rb rc b86 b3 b44 b60 k86 k3 k44 k60 y0 y1 y2 v0 v1 v2 (FP.i2d p0) (FP.i2d p1) (FP.i2d p2) d2 (FP.i2d u3) (FP.i2d p1) yj1 yb yc T178.heap n0 Zs178 f179 f180 f184 f183 hjj_283 hcj_283 hcase_283) hZ (hw _ (List.mem_of_getElem? (i := 34) rfl)) (hw _ (List.mem_of_getElem? (i := 2) rfl)) (by decide) (by decide)) (g := (mkF m 283 #[.val (.int p0), .val (.int p1), .val (.int p2), .val (.int p3), .val (.int p4), .val (.int ra), .val (.int rb), .val (.int rc), .val (.int (1 : Int32)), .val (.double d1), .second, .val (.double d2), .second, .val (.ref b3), .val (.ref b17), .val (.ref b31), .val (.ref b44), .val (.ref b60), .val (.ref b86), .val (.ref b116)] [(.ref b60), (.ref b44), (.ref b3), (.ref b86), (.int rc), (.int rb), (.int ra), (.int (1 : Int32)), (.int (1 : Int32))])) rfl (by rw [hml]; rfl) (argsL := [(.int (1 : Int32)), (.int (1 : Int32)), (.int ra), (.int rb), (.int rc), (.ref b86), (.ref b3), (.ref b44), (.ref b60)]) (rest := []) (lenOf pd_5 rfl) rfl (by show 2 * 0 + _ ≤ _; exact Nat.le_of_eq rfl) (hb hby at_283) (fun _ _ => ⟨rfl, e197, (by decide : 12 + 0 ≤ _), (by decide : 199 + 0 ≤ _)⟩)
  dsimp only [Pt.U, Pt.locs, Pt.cells, Pt.slots] at X198 lq198 yq198 zq198 st198 hQ198
  rw [lq198, yq198, zq198] at X198
  obtain ⟨rfl, N198q, eh198⟩ := hQ198
  have N198 := Fr.app N197 N198q
  have e198 : T198.heap = T178.heap := eh198
  obtain ⟨_, _, ⟨T199, L199, k199, n199⟩, -, X199, ⟨Lc199, hQ199, lq199, yq199, zq199⟩, st199⟩ := Jvm.LawKit.callS X198 hx (y := (⟨"com/example/leeway/leeway/lp/BasisInverseSolveTransposedPinLaw", "column", "(IIIII[D[D[D[D)Z"⟩ : MethodName)) hown (mvT hZ (hw _ (List.mem_of_getElem? (i := 32) rfl))) (mvT hZ (hw _ (List.mem_of_getElem? (i := 33) rfl))) (mvT hZ (hw _ (List.mem_of_getElem? (i := 2) rfl))) (mvT hZ (hw _ (List.mem_of_getElem? (i := 34) rfl))) (by decide) (backOf (W := 0) (col1 l Z a0 hw [] (2 : Int32) ra rb rc b86 b3 b44 b60 k86 k3 k44 k60 y0 y1 y2 v0 v1 v2 (FP.i2d p0) (FP.i2d p1) (FP.i2d p2) d2 (FP.i2d u3) (FP.i2d p2) yj2 yb yc T178.heap n0 Zs178 f179 f180 f184 f183 hjj_306 hcj_306 hcase_306) hZ (hw _ (List.mem_of_getElem? (i := 34) rfl)) (hw _ (List.mem_of_getElem? (i := 2) rfl)) (by decide) (by decide)) (g := (mkF m 306 #[.val (.int p0), .val (.int p1), .val (.int p2), .val (.int p3), .val (.int p4), .val (.int ra), .val (.int rb), .val (.int rc), .val (.int (1 : Int32)), .val (.double d1), .second, .val (.double d2), .second, .val (.ref b3), .val (.ref b17), .val (.ref b31), .val (.ref b44), .val (.ref b60), .val (.ref b86), .val (.ref b116)] [(.ref b60), (.ref b44), (.ref b3), (.ref b86), (.int rc), (.int rb), (.int ra), (.int (1 : Int32)), (.int (2 : Int32))])) rfl (by rw [hml]; rfl) (argsL := [(.int (2 : Int32)), (.int (1 : Int32)), (.int ra), (.int rb), (.int rc), (.ref b86), (.ref b3), (.ref b44), (.ref b60)]) (rest := []) (lenOf pd_5 rfl) rfl (by show 2 * 0 + _ ≤ _; exact Nat.le_of_eq rfl) (hb hby at_306) (fun _ _ => ⟨rfl, e198, (by decide : 12 + 0 ≤ _), (by decide : 199 + 0 ≤ _)⟩)
  dsimp only [Pt.U, Pt.locs, Pt.cells, Pt.slots] at X199 lq199 yq199 zq199 st199 hQ199
  rw [lq199, yq199, zq199] at X199
  obtain ⟨rfl, N199q, eh199⟩ := hQ199
  have N199 := Fr.app N198 N199q
  have e199 : T199.heap = T178.heap := eh199
  obtain ⟨fs, hr, hrun, hended, hW, hsame⟩ := X199.leave (v := some (.int (1 : Int32))) (fun h => by rw [Bd.returns] at h; cases h)
  refine ⟨_, _, pre0 _ ?_, hrun, hended, _, _, rfl, ?_, ⟨_, rfl⟩, hW, hsame.mono (by decide) (by decide)⟩
  · show Steps p.tables e below (s₁.setTop (mkF m 0 #[.val (.int p0), .val (.int p1), .val (.int p2), .val (.int p3), .val (.int p4), .unset, .unset, .unset, .unset, .unset, .unset, .unset, .unset, .unset, .unset, .unset, .unset, .unset, .unset, .unset] [])) _
    refine XS.iload X0.here hx rfl (hb hby at_0) rfl ?_
    refine XS.bipush X0.here hx rfl (hb hby at_2) ?_
    refine XS.iushr X0.here hx rfl (hb hby at_4) rfl ?_
    refine XS.iconst X0.here hx rfl (hb hby at_5) ?_
    refine iremM (g := (mkF m 6 #[.val (.int p0), .val (.int p1), .val (.int p2), .val (.int p3), .val (.int p4), .unset, .unset, .unset, .unset, .unset, .unset, .unset, .unset, .unset, .unset, .unset, .unset, .unset, .unset, .unset] [(.int (3 : Int32)), (.int ((p4.toUInt32 >>> ((24 : Int32) &&& 31).toUInt32).toInt32))])) X0 hx rfl (hb hby at_6) rfl (by decide) ?_
    show Steps p.tables e below (s₁.setTop (mkF m 7 #[.val (.int p0), .val (.int p1), .val (.int p2), .val (.int p3), .val (.int p4), .unset, .unset, .unset, .unset, .unset, .unset, .unset, .unset, .unset, .unset, .unset, .unset, .unset, .unset, .unset] [(.int (((p4.toUInt32 >>> ((24 : Int32) &&& 31).toUInt32).toInt32) % (3 : Int32)))])) _
    rw [hv6]
    show Steps p.tables e below (s₁.setTop (mkF m 7 #[.val (.int p0), .val (.int p1), .val (.int p2), .val (.int p3), .val (.int p4), .unset, .unset, .unset, .unset, .unset, .unset, .unset, .unset, .unset, .unset, .unset, .unset, .unset, .unset, .unset] [(.int ra)])) _
    refine XS.istore X0.here hx rfl (hb hby at_7) rfl (l' := #[.val (.int p0), .val (.int p1), .val (.int p2), .val (.int p3), .val (.int p4), .val (.int ra), .unset, .unset, .unset, .unset, .unset, .unset, .unset, .unset, .unset, .unset, .unset, .unset, .unset, .unset]) rfl ?_
    show Steps p.tables e below (s₁.setTop (mkF m 9 #[.val (.int p0), .val (.int p1), .val (.int p2), .val (.int p3), .val (.int p4), .val (.int ra), .unset, .unset, .unset, .unset, .unset, .unset, .unset, .unset, .unset, .unset, .unset, .unset, .unset, .unset] [])) _
    refine XS.iload X0.here hx rfl (hb hby at_9) rfl ?_
    refine XS.iconst X0.here hx rfl (hb hby at_11) ?_
    refine XS.iadd X0.here hx rfl (hb hby at_12) rfl ?_
    refine XS.iload X0.here hx rfl (hb hby at_13) rfl ?_
    refine XS.iconst X0.here hx rfl (hb hby at_15) ?_
    refine XS.iushr X0.here hx rfl (hb hby at_16) rfl ?_
    refine XS.iconst X0.here hx rfl (hb hby at_17) ?_
    refine XS.iand X0.here hx rfl (hb hby at_18) rfl ?_
    show Steps p.tables e below (s₁.setTop (mkF m 19 #[.val (.int p0), .val (.int p1), .val (.int p2), .val (.int p3), .val (.int p4), .val (.int ra), .unset, .unset, .unset, .unset, .unset, .unset, .unset, .unset, .unset, .unset, .unset, .unset, .unset, .unset] [(.int (((p4.toUInt32 >>> ((2 : Int32) &&& 31).toUInt32).toInt32) &&& (1 : Int32))), (.int (ra + (1 : Int32)))])) _
    refine XS.iadd X0.here hx rfl (hb hby at_19) rfl ?_
    refine XS.iconst X0.here hx rfl (hb hby at_20) ?_
    refine iremM (g := (mkF m 21 #[.val (.int p0), .val (.int p1), .val (.int p2), .val (.int p3), .val (.int p4), .val (.int ra), .unset, .unset, .unset, .unset, .unset, .unset, .unset, .unset, .unset, .unset, .unset, .unset, .unset, .unset] [(.int (3 : Int32)), (.int ((ra + (1 : Int32)) + (((p4.toUInt32 >>> ((2 : Int32) &&& 31).toUInt32).toInt32) &&& (1 : Int32))))])) X0 hx rfl (hb hby at_21) rfl (by decide) ?_
    show Steps p.tables e below (s₁.setTop (mkF m 22 #[.val (.int p0), .val (.int p1), .val (.int p2), .val (.int p3), .val (.int p4), .val (.int ra), .unset, .unset, .unset, .unset, .unset, .unset, .unset, .unset, .unset, .unset, .unset, .unset, .unset, .unset] [(.int (((ra + (1 : Int32)) + (((p4.toUInt32 >>> ((2 : Int32) &&& 31).toUInt32).toInt32) &&& (1 : Int32))) % (3 : Int32)))])) _
    rw [hv21]
    show Steps p.tables e below (s₁.setTop (mkF m 22 #[.val (.int p0), .val (.int p1), .val (.int p2), .val (.int p3), .val (.int p4), .val (.int ra), .unset, .unset, .unset, .unset, .unset, .unset, .unset, .unset, .unset, .unset, .unset, .unset, .unset, .unset] [(.int rb)])) _
    refine XS.istore X0.here hx rfl (hb hby at_22) rfl (l' := #[.val (.int p0), .val (.int p1), .val (.int p2), .val (.int p3), .val (.int p4), .val (.int ra), .val (.int rb), .unset, .unset, .unset, .unset, .unset, .unset, .unset, .unset, .unset, .unset, .unset, .unset, .unset]) rfl ?_
    refine XS.iconst X0.here hx rfl (hb hby at_24) ?_
    refine XS.iload X0.here hx rfl (hb hby at_25) rfl ?_
    refine XS.isub X0.here hx rfl (hb hby at_27) rfl ?_
    show Steps p.tables e below (s₁.setTop (mkF m 28 #[.val (.int p0), .val (.int p1), .val (.int p2), .val (.int p3), .val (.int p4), .val (.int ra), .val (.int rb), .unset, .unset, .unset, .unset, .unset, .unset, .unset, .unset, .unset, .unset, .unset, .unset, .unset] [(.int ((3 : Int32) - ra))])) _
    refine XS.iload X0.here hx rfl (hb hby at_28) rfl ?_
    refine XS.isub X0.here hx rfl (hb hby at_30) rfl ?_
    show Steps p.tables e below (s₁.setTop (mkF m 31 #[.val (.int p0), .val (.int p1), .val (.int p2), .val (.int p3), .val (.int p4), .val (.int ra), .val (.int rb), .unset, .unset, .unset, .unset, .unset, .unset, .unset, .unset, .unset, .unset, .unset, .unset, .unset] [(.int (((3 : Int32) - ra) - rb))])) _
    rw [hv30]
    show Steps p.tables e below (s₁.setTop (mkF m 31 #[.val (.int p0), .val (.int p1), .val (.int p2), .val (.int p3), .val (.int p4), .val (.int ra), .val (.int rb), .unset, .unset, .unset, .unset, .unset, .unset, .unset, .unset, .unset, .unset, .unset, .unset, .unset] [(.int rc)])) _
    refine XS.istore X0.here hx rfl (hb hby at_31) rfl (l' := #[.val (.int p0), .val (.int p1), .val (.int p2), .val (.int p3), .val (.int p4), .val (.int ra), .val (.int rb), .val (.int rc), .unset, .unset, .unset, .unset, .unset, .unset, .unset, .unset, .unset, .unset, .unset, .unset]) rfl ?_
    refine XS.iload X0.here hx rfl (hb hby at_33) rfl ?_
    refine XS.iconst X0.here hx rfl (hb hby at_35) ?_
    refine XS.iushr X0.here hx rfl (hb hby at_36) rfl ?_
    refine XS.iconst X0.here hx rfl (hb hby at_37) ?_
    show Steps p.tables e below (s₁.setTop (mkF m 38 #[.val (.int p0), .val (.int p1), .val (.int p2), .val (.int p3), .val (.int p4), .val (.int ra), .val (.int rb), .val (.int rc), .unset, .unset, .unset, .unset, .unset, .unset, .unset, .unset, .unset, .unset, .unset, .unset] [(.int (3 : Int32)), (.int ((p4.toUInt32 >>> ((3 : Int32) &&& 31).toUInt32).toInt32))])) _
    refine XS.iand X0.here hx rfl (hb hby at_38) rfl ?_
    refine XS.iconst X0.here hx rfl (hb hby at_39) ?_
    refine iremM (g := (mkF m 40 #[.val (.int p0), .val (.int p1), .val (.int p2), .val (.int p3), .val (.int p4), .val (.int ra), .val (.int rb), .val (.int rc), .unset, .unset, .unset, .unset, .unset, .unset, .unset, .unset, .unset, .unset, .unset, .unset] [(.int (3 : Int32)), (.int (((p4.toUInt32 >>> ((3 : Int32) &&& 31).toUInt32).toInt32) &&& (3 : Int32)))])) X0 hx rfl (hb hby at_40) rfl (by decide) ?_
    show Steps p.tables e below (s₁.setTop (mkF m 41 #[.val (.int p0), .val (.int p1), .val (.int p2), .val (.int p3), .val (.int p4), .val (.int ra), .val (.int rb), .val (.int rc), .unset, .unset, .unset, .unset, .unset, .unset, .unset, .unset, .unset, .unset, .unset, .unset] [(.int ((((p4.toUInt32 >>> ((3 : Int32) &&& 31).toUInt32).toInt32) &&& (3 : Int32)) % (3 : Int32)))])) _
    rw [hv40]
    show Steps p.tables e below (s₁.setTop (mkF m 41 #[.val (.int p0), .val (.int p1), .val (.int p2), .val (.int p3), .val (.int p4), .val (.int ra), .val (.int rb), .val (.int rc), .unset, .unset, .unset, .unset, .unset, .unset, .unset, .unset, .unset, .unset, .unset, .unset] [(.int (1 : Int32))])) _
    refine XS.istore X0.here hx rfl (hb hby at_41) rfl (l' := #[.val (.int p0), .val (.int p1), .val (.int p2), .val (.int p3), .val (.int p4), .val (.int ra), .val (.int rb), .val (.int rc), .val (.int (1 : Int32)), .unset, .unset, .unset, .unset, .unset, .unset, .unset, .unset, .unset, .unset, .unset]) rfl ?_
    refine XS.iload X0.here hx rfl (hb hby at_43) rfl ?_
    refine XS.iconst X0.here hx rfl (hb hby at_45) ?_
    refine XS.iushr X0.here hx rfl (hb hby at_46) rfl ?_
    show Steps p.tables e below (s₁.setTop (mkF m 47 #[.val (.int p0), .val (.int p1), .val (.int p2), .val (.int p3), .val (.int p4), .val (.int ra), .val (.int rb), .val (.int rc), .val (.int (1 : Int32)), .unset, .unset, .unset, .unset, .unset, .unset, .unset, .unset, .unset, .unset, .unset] [(.int ((p4.toUInt32 >>> ((5 : Int32) &&& 31).toUInt32).toInt32))])) _
    refine XS.iconst X0.here hx rfl (hb hby at_47) ?_
    refine XS.iand X0.here hx rfl (hb hby at_48) rfl ?_
    show Steps p.tables e below (s₁.setTop (mkF m 49 #[.val (.int p0), .val (.int p1), .val (.int p2), .val (.int p3), .val (.int p4), .val (.int ra), .val (.int rb), .val (.int rc), .val (.int (1 : Int32)), .unset, .unset, .unset, .unset, .unset, .unset, .unset, .unset, .unset, .unset, .unset] [(.int (((p4.toUInt32 >>> ((5 : Int32) &&& 31).toUInt32).toInt32) &&& (3 : Int32)))])) _
    rw [hv48]
    show Steps p.tables e below (s₁.setTop (mkF m 49 #[.val (.int p0), .val (.int p1), .val (.int p2), .val (.int p3), .val (.int p4), .val (.int ra), .val (.int rb), .val (.int rc), .val (.int (1 : Int32)), .unset, .unset, .unset, .unset, .unset, .unset, .unset, .unset, .unset, .unset, .unset] [(.int pa)])) _
    refine st1 _ ?_
    show Steps p.tables e below (T1.setTop (mkF m 52 #[.val (.int p0), .val (.int p1), .val (.int p2), .val (.int p3), .val (.int p4), .val (.int ra), .val (.int rb), .val (.int rc), .val (.int (1 : Int32)), .unset, .unset, .unset, .unset, .unset, .unset, .unset, .unset, .unset, .unset, .unset] [(.double d1)])) _
    refine XS.dstore X1.here hx rfl (hb hby at_52) rfl (l' := #[.val (.int p0), .val (.int p1), .val (.int p2), .val (.int p3), .val (.int p4), .val (.int ra), .val (.int rb), .val (.int rc), .val (.int (1 : Int32)), .val (.double d1), .second, .unset, .unset, .unset, .unset, .unset, .unset, .unset, .unset, .unset]) rfl ?_
    refine XS.iload X1.here hx rfl (hb hby at_54) rfl ?_
    refine XS.bipush X1.here hx rfl (hb hby at_56) ?_
    refine XS.iushr X1.here hx rfl (hb hby at_58) rfl ?_
    show Steps p.tables e below (T1.setTop (mkF m 59 #[.val (.int p0), .val (.int p1), .val (.int p2), .val (.int p3), .val (.int p4), .val (.int ra), .val (.int rb), .val (.int rc), .val (.int (1 : Int32)), .val (.double d1), .second, .unset, .unset, .unset, .unset, .unset, .unset, .unset, .unset, .unset] [(.int ((p4.toUInt32 >>> ((7 : Int32) &&& 31).toUInt32).toInt32))])) _
    refine XS.iconst X1.here hx rfl (hb hby at_59) ?_
    refine XS.iand X1.here hx rfl (hb hby at_60) rfl ?_
    show Steps p.tables e below (T1.setTop (mkF m 61 #[.val (.int p0), .val (.int p1), .val (.int p2), .val (.int p3), .val (.int p4), .val (.int ra), .val (.int rb), .val (.int rc), .val (.int (1 : Int32)), .val (.double d1), .second, .unset, .unset, .unset, .unset, .unset, .unset, .unset, .unset, .unset] [(.int (((p4.toUInt32 >>> ((7 : Int32) &&& 31).toUInt32).toInt32) &&& (3 : Int32)))])) _
    rw [hv60]
    show Steps p.tables e below (T1.setTop (mkF m 61 #[.val (.int p0), .val (.int p1), .val (.int p2), .val (.int p3), .val (.int p4), .val (.int ra), .val (.int rb), .val (.int rc), .val (.int (1 : Int32)), .val (.double d1), .second, .unset, .unset, .unset, .unset, .unset, .unset, .unset, .unset, .unset] [(.int pb)])) _
    refine st2 _ ?_
    show Steps p.tables e below (T2.setTop (mkF m 64 #[.val (.int p0), .val (.int p1), .val (.int p2), .val (.int p3), .val (.int p4), .val (.int ra), .val (.int rb), .val (.int rc), .val (.int (1 : Int32)), .val (.double d1), .second, .unset, .unset, .unset, .unset, .unset, .unset, .unset, .unset, .unset] [(.double d2)])) _
    refine XS.dstore X2.here hx rfl (hb hby at_64) rfl (l' := #[.val (.int p0), .val (.int p1), .val (.int p2), .val (.int p3), .val (.int p4), .val (.int ra), .val (.int rb), .val (.int rc), .val (.int (1 : Int32)), .val (.double d1), .second, .val (.double d2), .second, .unset, .unset, .unset, .unset, .unset, .unset, .unset]) rfl ?_
    refine XS.iconst X2.here hx rfl (hb hby at_66) ?_
    refine st3 _ ?_
    show Steps p.tables e below (T3.setTop (mkF m 69 #[.val (.int p0), .val (.int p1), .val (.int p2), .val (.int p3), .val (.int p4), .val (.int ra), .val (.int rb), .val (.int rc), .val (.int (1 : Int32)), .val (.double d1), .second, .val (.double d2), .second, .unset, .unset, .unset, .unset, .unset, .unset, .unset] [(.ref b3)])) _
    refine XS.dup X3.here hx rfl (hb hby at_69) rfl rfl ?_
    show Steps p.tables e below (T3.setTop (mkF m 70 #[.val (.int p0), .val (.int p1), .val (.int p2), .val (.int p3), .val (.int p4), .val (.int ra), .val (.int rb), .val (.int rc), .val (.int (1 : Int32)), .val (.double d1), .second, .val (.double d2), .second, .unset, .unset, .unset, .unset, .unset, .unset, .unset] [(.ref b3), (.ref b3)])) _
    refine XS.iconst X3.here hx rfl (hb hby at_70) ?_
    refine XS.iloadN X3.here hx rfl (hb hby at_71) rfl ?_
    refine XS.i2b X3.here hx rfl (hb hby at_72) rfl ?_
    show Steps p.tables e below (T3.setTop (mkF m 73 #[.val (.int p0), .val (.int p1), .val (.int p2), .val (.int p3), .val (.int p4), .val (.int ra), .val (.int rb), .val (.int rc), .val (.int (1 : Int32)), .val (.double d1), .second, .val (.double d2), .second, .unset, .unset, .unset, .unset, .unset, .unset, .unset] [(.int (p3.toInt8.toInt32)), (.int (0 : Int32)), (.ref b3), (.ref b3)])) _
    rw [hv72]
    show Steps p.tables e below (T3.setTop (mkF m 73 #[.val (.int p0), .val (.int p1), .val (.int p2), .val (.int p3), .val (.int p4), .val (.int ra), .val (.int rb), .val (.int rc), .val (.int (1 : Int32)), .val (.double d1), .second, .val (.double d2), .second, .unset, .unset, .unset, .unset, .unset, .unset, .unset] [(.int u0), (.int (0 : Int32)), (.ref b3), (.ref b3)])) _
    refine XS.i2dS X3.here hx rfl (hb hby at_73) rfl (v := (FP.i2d u0)) rfl ?_
    refine st5 _ ?_
    show Steps p.tables e below (T5.setTop (mkF m 75 #[.val (.int p0), .val (.int p1), .val (.int p2), .val (.int p3), .val (.int p4), .val (.int ra), .val (.int rb), .val (.int rc), .val (.int (1 : Int32)), .val (.double d1), .second, .val (.double d2), .second, .unset, .unset, .unset, .unset, .unset, .unset, .unset] [(.ref b3)])) _
    refine XS.dup X5.here hx rfl (hb hby at_75) rfl rfl ?_
    refine XS.iconst X5.here hx rfl (hb hby at_76) ?_
    show Steps p.tables e below (T5.setTop (mkF m 77 #[.val (.int p0), .val (.int p1), .val (.int p2), .val (.int p3), .val (.int p4), .val (.int ra), .val (.int rb), .val (.int rc), .val (.int (1 : Int32)), .val (.double d1), .second, .val (.double d2), .second, .unset, .unset, .unset, .unset, .unset, .unset, .unset] [(.int (1 : Int32)), (.ref b3), (.ref b3)])) _
    refine XS.iloadN X5.here hx rfl (hb hby at_77) rfl ?_
    refine XS.bipush X5.here hx rfl (hb hby at_78) ?_
    refine XS.ishr X5.here hx rfl (hb hby at_80) rfl ?_
    refine XS.i2b X5.here hx rfl (hb hby at_81) rfl ?_
    show Steps p.tables e below (T5.setTop (mkF m 82 #[.val (.int p0), .val (.int p1), .val (.int p2), .val (.int p3), .val (.int p4), .val (.int ra), .val (.int rb), .val (.int rc), .val (.int (1 : Int32)), .val (.double d1), .second, .val (.double d2), .second, .unset, .unset, .unset, .unset, .unset, .unset, .unset] [(.int ((p3 >>> ((8 : Int32) &&& 31)).toInt8.toInt32)), (.int (1 : Int32)), (.ref b3), (.ref b3)])) _
    rw [hv81]
    show Steps p.tables e below (T5.setTop (mkF m 82 #[.val (.int p0), .val (.int p1), .val (.int p2), .val (.int p3), .val (.int p4), .val (.int ra), .val (.int rb), .val (.int rc), .val (.int (1 : Int32)), .val (.double d1), .second, .val (.double d2), .second, .unset, .unset, .unset, .unset, .unset, .unset, .unset] [(.int u1), (.int (1 : Int32)), (.ref b3), (.ref b3)])) _
    refine XS.i2dS X5.here hx rfl (hb hby at_82) rfl (v := (FP.i2d u1)) rfl ?_
    refine st8 _ ?_
    show Steps p.tables e below (T8.setTop (mkF m 84 #[.val (.int p0), .val (.int p1), .val (.int p2), .val (.int p3), .val (.int p4), .val (.int ra), .val (.int rb), .val (.int rc), .val (.int (1 : Int32)), .val (.double d1), .second, .val (.double d2), .second, .unset, .unset, .unset, .unset, .unset, .unset, .unset] [(.ref b3)])) _
    refine XS.dup X8.here hx rfl (hb hby at_84) rfl rfl ?_
    show Steps p.tables e below (T8.setTop (mkF m 85 #[.val (.int p0), .val (.int p1), .val (.int p2), .val (.int p3), .val (.int p4), .val (.int ra), .val (.int rb), .val (.int rc), .val (.int (1 : Int32)), .val (.double d1), .second, .val (.double d2), .second, .unset, .unset, .unset, .unset, .unset, .unset, .unset] [(.ref b3), (.ref b3)])) _
    refine XS.iconst X8.here hx rfl (hb hby at_85) ?_
    refine XS.iloadN X8.here hx rfl (hb hby at_86) rfl ?_
    refine XS.bipush X8.here hx rfl (hb hby at_87) ?_
    refine XS.ishr X8.here hx rfl (hb hby at_89) rfl ?_
    refine XS.i2b X8.here hx rfl (hb hby at_90) rfl ?_
    show Steps p.tables e below (T8.setTop (mkF m 91 #[.val (.int p0), .val (.int p1), .val (.int p2), .val (.int p3), .val (.int p4), .val (.int ra), .val (.int rb), .val (.int rc), .val (.int (1 : Int32)), .val (.double d1), .second, .val (.double d2), .second, .unset, .unset, .unset, .unset, .unset, .unset, .unset] [(.int ((p3 >>> ((16 : Int32) &&& 31)).toInt8.toInt32)), (.int (2 : Int32)), (.ref b3), (.ref b3)])) _
    rw [hv90]
    show Steps p.tables e below (T8.setTop (mkF m 91 #[.val (.int p0), .val (.int p1), .val (.int p2), .val (.int p3), .val (.int p4), .val (.int ra), .val (.int rb), .val (.int rc), .val (.int (1 : Int32)), .val (.double d1), .second, .val (.double d2), .second, .unset, .unset, .unset, .unset, .unset, .unset, .unset] [(.int u2), (.int (2 : Int32)), (.ref b3), (.ref b3)])) _
    refine XS.i2dS X8.here hx rfl (hb hby at_91) rfl (v := (FP.i2d u2)) rfl ?_
    refine st11 _ ?_
    show Steps p.tables e below (T11.setTop (mkF m 93 #[.val (.int p0), .val (.int p1), .val (.int p2), .val (.int p3), .val (.int p4), .val (.int ra), .val (.int rb), .val (.int rc), .val (.int (1 : Int32)), .val (.double d1), .second, .val (.double d2), .second, .unset, .unset, .unset, .unset, .unset, .unset, .unset] [(.ref b3)])) _
    refine XS.astore X11.here hx rfl (hb hby at_93) rfl rfl (l' := #[.val (.int p0), .val (.int p1), .val (.int p2), .val (.int p3), .val (.int p4), .val (.int ra), .val (.int rb), .val (.int rc), .val (.int (1 : Int32)), .val (.double d1), .second, .val (.double d2), .second, .val (.ref b3), .unset, .unset, .unset, .unset, .unset, .unset]) rfl ?_
    refine XS.aload X11.here hx rfl (hb hby at_95) rfl rfl ?_
    refine XS.iload X11.here hx rfl (hb hby at_97) rfl ?_
    refine XS.dload X11.here hx rfl (hb hby at_99) rfl ?_
    refine st14 _ ?_
    show Steps p.tables e below (T14.setTop (mkF m 102 #[.val (.int p0), .val (.int p1), .val (.int p2), .val (.int p3), .val (.int p4), .val (.int ra), .val (.int rb), .val (.int rc), .val (.int (1 : Int32)), .val (.double d1), .second, .val (.double d2), .second, .val (.ref b3), .unset, .unset, .unset, .unset, .unset, .unset] [])) _
    refine XS.iconst X14.here hx rfl (hb hby at_102) ?_
    refine st17 _ ?_
    show Steps p.tables e below (T17.setTop (mkF m 105 #[.val (.int p0), .val (.int p1), .val (.int p2), .val (.int p3), .val (.int p4), .val (.int ra), .val (.int rb), .val (.int rc), .val (.int (1 : Int32)), .val (.double d1), .second, .val (.double d2), .second, .val (.ref b3), .unset, .unset, .unset, .unset, .unset, .unset] [(.ref b17)])) _
    refine XS.dup X17.here hx rfl (hb hby at_105) rfl rfl ?_
    show Steps p.tables e below (T17.setTop (mkF m 106 #[.val (.int p0), .val (.int p1), .val (.int p2), .val (.int p3), .val (.int p4), .val (.int ra), .val (.int rb), .val (.int rc), .val (.int (1 : Int32)), .val (.double d1), .second, .val (.double d2), .second, .val (.ref b3), .unset, .unset, .unset, .unset, .unset, .unset] [(.ref b17), (.ref b17)])) _
    refine XS.iconst X17.here hx rfl (hb hby at_106) ?_
    refine XS.iconst X17.here hx rfl (hb hby at_107) ?_
    refine st20 _ ?_
    show Steps p.tables e below (T20.setTop (mkF m 109 #[.val (.int p0), .val (.int p1), .val (.int p2), .val (.int p3), .val (.int p4), .val (.int ra), .val (.int rb), .val (.int rc), .val (.int (1 : Int32)), .val (.double d1), .second, .val (.double d2), .second, .val (.ref b3), .unset, .unset, .unset, .unset, .unset, .unset] [(.ref b17)])) _
    refine XS.dup X20.here hx rfl (hb hby at_109) rfl rfl ?_
    refine XS.iconst X20.here hx rfl (hb hby at_110) ?_
    refine XS.iconst X20.here hx rfl (hb hby at_111) ?_
    refine st24 _ ?_
    show Steps p.tables e below (T24.setTop (mkF m 113 #[.val (.int p0), .val (.int p1), .val (.int p2), .val (.int p3), .val (.int p4), .val (.int ra), .val (.int rb), .val (.int rc), .val (.int (1 : Int32)), .val (.double d1), .second, .val (.double d2), .second, .val (.ref b3), .unset, .unset, .unset, .unset, .unset, .unset] [(.ref b17)])) _
    refine XS.dup X24.here hx rfl (hb hby at_113) rfl rfl ?_
    show Steps p.tables e below (T24.setTop (mkF m 114 #[.val (.int p0), .val (.int p1), .val (.int p2), .val (.int p3), .val (.int p4), .val (.int ra), .val (.int rb), .val (.int rc), .val (.int (1 : Int32)), .val (.double d1), .second, .val (.double d2), .second, .val (.ref b3), .unset, .unset, .unset, .unset, .unset, .unset] [(.ref b17), (.ref b17)])) _
    refine XS.iconst X24.here hx rfl (hb hby at_114) ?_
    refine XS.iconst X24.here hx rfl (hb hby at_115) ?_
    refine st28 _ ?_
    show Steps p.tables e below (T28.setTop (mkF m 117 #[.val (.int p0), .val (.int p1), .val (.int p2), .val (.int p3), .val (.int p4), .val (.int ra), .val (.int rb), .val (.int rc), .val (.int (1 : Int32)), .val (.double d1), .second, .val (.double d2), .second, .val (.ref b3), .unset, .unset, .unset, .unset, .unset, .unset] [(.ref b17)])) _
    refine XS.astore X28.here hx rfl (hb hby at_117) rfl rfl (l' := #[.val (.int p0), .val (.int p1), .val (.int p2), .val (.int p3), .val (.int p4), .val (.int ra), .val (.int rb), .val (.int rc), .val (.int (1 : Int32)), .val (.double d1), .second, .val (.double d2), .second, .val (.ref b3), .val (.ref b17), .unset, .unset, .unset, .unset, .unset]) rfl ?_
    refine XS.iconst X28.here hx rfl (hb hby at_119) ?_
    refine st31 _ ?_
    show Steps p.tables e below (T31.setTop (mkF m 122 #[.val (.int p0), .val (.int p1), .val (.int p2), .val (.int p3), .val (.int p4), .val (.int ra), .val (.int rb), .val (.int rc), .val (.int (1 : Int32)), .val (.double d1), .second, .val (.double d2), .second, .val (.ref b3), .val (.ref b17), .unset, .unset, .unset, .unset, .unset] [(.ref b31)])) _
    refine XS.dup X31.here hx rfl (hb hby at_122) rfl rfl ?_
    refine XS.iconst X31.here hx rfl (hb hby at_123) ?_
    show Steps p.tables e below (T31.setTop (mkF m 124 #[.val (.int p0), .val (.int p1), .val (.int p2), .val (.int p3), .val (.int p4), .val (.int ra), .val (.int rb), .val (.int rc), .val (.int (1 : Int32)), .val (.double d1), .second, .val (.double d2), .second, .val (.ref b3), .val (.ref b17), .unset, .unset, .unset, .unset, .unset] [(.int (0 : Int32)), (.ref b31), (.ref b31)])) _
    refine XS.iload X31.here hx rfl (hb hby at_124) rfl ?_
    refine st35 _ ?_
    show Steps p.tables e below (T35.setTop (mkF m 127 #[.val (.int p0), .val (.int p1), .val (.int p2), .val (.int p3), .val (.int p4), .val (.int ra), .val (.int rb), .val (.int rc), .val (.int (1 : Int32)), .val (.double d1), .second, .val (.double d2), .second, .val (.ref b3), .val (.ref b17), .unset, .unset, .unset, .unset, .unset] [(.ref b31)])) _
    refine XS.dup X35.here hx rfl (hb hby at_127) rfl rfl ?_
    refine XS.iconst X35.here hx rfl (hb hby at_128) ?_
    refine XS.iload X35.here hx rfl (hb hby at_129) rfl ?_
    refine st40 _ ?_
    show Steps p.tables e below (T40.setTop (mkF m 132 #[.val (.int p0), .val (.int p1), .val (.int p2), .val (.int p3), .val (.int p4), .val (.int ra), .val (.int rb), .val (.int rc), .val (.int (1 : Int32)), .val (.double d1), .second, .val (.double d2), .second, .val (.ref b3), .val (.ref b17), .unset, .unset, .unset, .unset, .unset] [(.ref b31)])) _
    refine XS.astore X40.here hx rfl (hb hby at_132) rfl rfl (l' := #[.val (.int p0), .val (.int p1), .val (.int p2), .val (.int p3), .val (.int p4), .val (.int ra), .val (.int rb), .val (.int rc), .val (.int (1 : Int32)), .val (.double d1), .second, .val (.double d2), .second, .val (.ref b3), .val (.ref b17), .val (.ref b31), .unset, .unset, .unset, .unset]) rfl ?_
    refine XS.iconst X40.here hx rfl (hb hby at_134) ?_
    show Steps p.tables e below (T40.setTop (mkF m 135 #[.val (.int p0), .val (.int p1), .val (.int p2), .val (.int p3), .val (.int p4), .val (.int ra), .val (.int rb), .val (.int rc), .val (.int (1 : Int32)), .val (.double d1), .second, .val (.double d2), .second, .val (.ref b3), .val (.ref b17), .val (.ref b31), .unset, .unset, .unset, .unset] [(.int (2 : Int32))])) _
    refine st44 _ ?_
    show Steps p.tables e below (T44.setTop (mkF m 137 #[.val (.int p0), .val (.int p1), .val (.int p2), .val (.int p3), .val (.int p4), .val (.int ra), .val (.int rb), .val (.int rc), .val (.int (1 : Int32)), .val (.double d1), .second, .val (.double d2), .second, .val (.ref b3), .val (.ref b17), .val (.ref b31), .unset, .unset, .unset, .unset] [(.ref b44)])) _
    refine XS.dup X44.here hx rfl (hb hby at_137) rfl rfl ?_
    refine XS.iconst X44.here hx rfl (hb hby at_138) ?_
    refine XS.dload X44.here hx rfl (hb hby at_139) rfl ?_
    refine st49 _ ?_
    show Steps p.tables e below (T49.setTop (mkF m 142 #[.val (.int p0), .val (.int p1), .val (.int p2), .val (.int p3), .val (.int p4), .val (.int ra), .val (.int rb), .val (.int rc), .val (.int (1 : Int32)), .val (.double d1), .second, .val (.double d2), .second, .val (.ref b3), .val (.ref b17), .val (.ref b31), .unset, .unset, .unset, .unset] [(.ref b44)])) _
    refine XS.dup X49.here hx rfl (hb hby at_142) rfl rfl ?_
    refine XS.iconst X49.here hx rfl (hb hby at_143) ?_
    refine XS.iloadN X49.here hx rfl (hb hby at_144) rfl ?_
    show Steps p.tables e below (T49.setTop (mkF m 145 #[.val (.int p0), .val (.int p1), .val (.int p2), .val (.int p3), .val (.int p4), .val (.int ra), .val (.int rb), .val (.int rc), .val (.int (1 : Int32)), .val (.double d1), .second, .val (.double d2), .second, .val (.ref b3), .val (.ref b17), .val (.ref b31), .unset, .unset, .unset, .unset] [(.int p3), (.int (1 : Int32)), (.ref b44), (.ref b44)])) _
    refine XS.bipush X49.here hx rfl (hb hby at_145) ?_
    refine XS.ishr X49.here hx rfl (hb hby at_147) rfl ?_
    refine XS.i2b X49.here hx rfl (hb hby at_148) rfl ?_
    show Steps p.tables e below (T49.setTop (mkF m 149 #[.val (.int p0), .val (.int p1), .val (.int p2), .val (.int p3), .val (.int p4), .val (.int ra), .val (.int rb), .val (.int rc), .val (.int (1 : Int32)), .val (.double d1), .second, .val (.double d2), .second, .val (.ref b3), .val (.ref b17), .val (.ref b31), .unset, .unset, .unset, .unset] [(.int ((p3 >>> ((24 : Int32) &&& 31)).toInt8.toInt32)), (.int (1 : Int32)), (.ref b44), (.ref b44)])) _
    rw [hv148]
    show Steps p.tables e below (T49.setTop (mkF m 149 #[.val (.int p0), .val (.int p1), .val (.int p2), .val (.int p3), .val (.int p4), .val (.int ra), .val (.int rb), .val (.int rc), .val (.int (1 : Int32)), .val (.double d1), .second, .val (.double d2), .second, .val (.ref b3), .val (.ref b17), .val (.ref b31), .unset, .unset, .unset, .unset] [(.int u3), (.int (1 : Int32)), (.ref b44), (.ref b44)])) _
    refine XS.i2dS X49.here hx rfl (hb hby at_149) rfl (v := (FP.i2d u3)) rfl ?_
    refine st55 _ ?_
    show Steps p.tables e below (T55.setTop (mkF m 151 #[.val (.int p0), .val (.int p1), .val (.int p2), .val (.int p3), .val (.int p4), .val (.int ra), .val (.int rb), .val (.int rc), .val (.int (1 : Int32)), .val (.double d1), .second, .val (.double d2), .second, .val (.ref b3), .val (.ref b17), .val (.ref b31), .unset, .unset, .unset, .unset] [(.ref b44)])) _
    refine XS.astore X55.here hx rfl (hb hby at_151) rfl rfl (l' := #[.val (.int p0), .val (.int p1), .val (.int p2), .val (.int p3), .val (.int p4), .val (.int ra), .val (.int rb), .val (.int rc), .val (.int (1 : Int32)), .val (.double d1), .second, .val (.double d2), .second, .val (.ref b3), .val (.ref b17), .val (.ref b31), .val (.ref b44), .unset, .unset, .unset]) rfl ?_
    refine XS.iconst X55.here hx rfl (hb hby at_153) ?_
    show Steps p.tables e below (T55.setTop (mkF m 154 #[.val (.int p0), .val (.int p1), .val (.int p2), .val (.int p3), .val (.int p4), .val (.int ra), .val (.int rb), .val (.int rc), .val (.int (1 : Int32)), .val (.double d1), .second, .val (.double d2), .second, .val (.ref b3), .val (.ref b17), .val (.ref b31), .val (.ref b44), .unset, .unset, .unset] [(.int (3 : Int32))])) _
    refine st60 _ ?_
    show Steps p.tables e below (T60.setTop (mkF m 156 #[.val (.int p0), .val (.int p1), .val (.int p2), .val (.int p3), .val (.int p4), .val (.int ra), .val (.int rb), .val (.int rc), .val (.int (1 : Int32)), .val (.double d1), .second, .val (.double d2), .second, .val (.ref b3), .val (.ref b17), .val (.ref b31), .val (.ref b44), .unset, .unset, .unset] [(.ref b60)])) _
    refine XS.dup X60.here hx rfl (hb hby at_156) rfl rfl ?_
    refine XS.iconst X60.here hx rfl (hb hby at_157) ?_
    refine XS.iloadN X60.here hx rfl (hb hby at_158) rfl ?_
    refine XS.i2dS X60.here hx rfl (hb hby at_159) rfl (v := (FP.i2d p0)) rfl ?_
    refine st66 _ ?_
    show Steps p.tables e below (T66.setTop (mkF m 161 #[.val (.int p0), .val (.int p1), .val (.int p2), .val (.int p3), .val (.int p4), .val (.int ra), .val (.int rb), .val (.int rc), .val (.int (1 : Int32)), .val (.double d1), .second, .val (.double d2), .second, .val (.ref b3), .val (.ref b17), .val (.ref b31), .val (.ref b44), .unset, .unset, .unset] [(.ref b60)])) _
    refine XS.dup X66.here hx rfl (hb hby at_161) rfl rfl ?_
    refine XS.iconst X66.here hx rfl (hb hby at_162) ?_
    show Steps p.tables e below (T66.setTop (mkF m 163 #[.val (.int p0), .val (.int p1), .val (.int p2), .val (.int p3), .val (.int p4), .val (.int ra), .val (.int rb), .val (.int rc), .val (.int (1 : Int32)), .val (.double d1), .second, .val (.double d2), .second, .val (.ref b3), .val (.ref b17), .val (.ref b31), .val (.ref b44), .unset, .unset, .unset] [(.int (1 : Int32)), (.ref b60), (.ref b60)])) _
    refine XS.iloadN X66.here hx rfl (hb hby at_163) rfl ?_
    refine XS.i2dS X66.here hx rfl (hb hby at_164) rfl (v := (FP.i2d p1)) rfl ?_
    refine st73 _ ?_
    show Steps p.tables e below (T73.setTop (mkF m 166 #[.val (.int p0), .val (.int p1), .val (.int p2), .val (.int p3), .val (.int p4), .val (.int ra), .val (.int rb), .val (.int rc), .val (.int (1 : Int32)), .val (.double d1), .second, .val (.double d2), .second, .val (.ref b3), .val (.ref b17), .val (.ref b31), .val (.ref b44), .unset, .unset, .unset] [(.ref b60)])) _
    refine XS.dup X73.here hx rfl (hb hby at_166) rfl rfl ?_
    refine XS.iconst X73.here hx rfl (hb hby at_167) ?_
    refine XS.iloadN X73.here hx rfl (hb hby at_168) rfl ?_
    refine XS.i2dS X73.here hx rfl (hb hby at_169) rfl (v := (FP.i2d p2)) rfl ?_
    refine st80 _ ?_
    show Steps p.tables e below (T80.setTop (mkF m 171 #[.val (.int p0), .val (.int p1), .val (.int p2), .val (.int p3), .val (.int p4), .val (.int ra), .val (.int rb), .val (.int rc), .val (.int (1 : Int32)), .val (.double d1), .second, .val (.double d2), .second, .val (.ref b3), .val (.ref b17), .val (.ref b31), .val (.ref b44), .unset, .unset, .unset] [(.ref b60)])) _
    refine XS.astore X80.here hx rfl (hb hby at_171) rfl rfl (l' := #[.val (.int p0), .val (.int p1), .val (.int p2), .val (.int p3), .val (.int p4), .val (.int ra), .val (.int rb), .val (.int rc), .val (.int (1 : Int32)), .val (.double d1), .second, .val (.double d2), .second, .val (.ref b3), .val (.ref b17), .val (.ref b31), .val (.ref b44), .val (.ref b60), .unset, .unset]) rfl ?_
    refine XS.iconst X80.here hx rfl (hb hby at_173) ?_
    refine st86 _ ?_
    show Steps p.tables e below (T86.setTop (mkF m 176 #[.val (.int p0), .val (.int p1), .val (.int p2), .val (.int p3), .val (.int p4), .val (.int ra), .val (.int rb), .val (.int rc), .val (.int (1 : Int32)), .val (.double d1), .second, .val (.double d2), .second, .val (.ref b3), .val (.ref b17), .val (.ref b31), .val (.ref b44), .val (.ref b60), .unset, .unset] [(.ref b86)])) _
    refine XS.dup X86.here hx rfl (hb hby at_176) rfl rfl ?_
    refine XS.iconst X86.here hx rfl (hb hby at_177) ?_
    refine XS.iloadN X86.here hx rfl (hb hby at_178) rfl ?_
    refine XS.i2dS X86.here hx rfl (hb hby at_179) rfl (v := (FP.i2d p0)) rfl ?_
    refine st93 _ ?_
    show Steps p.tables e below (T93.setTop (mkF m 181 #[.val (.int p0), .val (.int p1), .val (.int p2), .val (.int p3), .val (.int p4), .val (.int ra), .val (.int rb), .val (.int rc), .val (.int (1 : Int32)), .val (.double d1), .second, .val (.double d2), .second, .val (.ref b3), .val (.ref b17), .val (.ref b31), .val (.ref b44), .val (.ref b60), .unset, .unset] [(.ref b86)])) _
    refine XS.dup X93.here hx rfl (hb hby at_181) rfl rfl ?_
    refine XS.iconst X93.here hx rfl (hb hby at_182) ?_
    refine XS.iloadN X93.here hx rfl (hb hby at_183) rfl ?_
    refine XS.i2dS X93.here hx rfl (hb hby at_184) rfl (v := (FP.i2d p1)) rfl ?_
    refine st101 _ ?_
    show Steps p.tables e below (T101.setTop (mkF m 186 #[.val (.int p0), .val (.int p1), .val (.int p2), .val (.int p3), .val (.int p4), .val (.int ra), .val (.int rb), .val (.int rc), .val (.int (1 : Int32)), .val (.double d1), .second, .val (.double d2), .second, .val (.ref b3), .val (.ref b17), .val (.ref b31), .val (.ref b44), .val (.ref b60), .unset, .unset] [(.ref b86)])) _
    refine XS.dup X101.here hx rfl (hb hby at_186) rfl rfl ?_
    refine XS.iconst X101.here hx rfl (hb hby at_187) ?_
    refine XS.iloadN X101.here hx rfl (hb hby at_188) rfl ?_
    show Steps p.tables e below (T101.setTop (mkF m 189 #[.val (.int p0), .val (.int p1), .val (.int p2), .val (.int p3), .val (.int p4), .val (.int ra), .val (.int rb), .val (.int rc), .val (.int (1 : Int32)), .val (.double d1), .second, .val (.double d2), .second, .val (.ref b3), .val (.ref b17), .val (.ref b31), .val (.ref b44), .val (.ref b60), .unset, .unset] [(.int p2), (.int (2 : Int32)), (.ref b86), (.ref b86)])) _
    refine XS.i2dS X101.here hx rfl (hb hby at_189) rfl (v := (FP.i2d p2)) rfl ?_
    refine st109 _ ?_
    show Steps p.tables e below (T109.setTop (mkF m 191 #[.val (.int p0), .val (.int p1), .val (.int p2), .val (.int p3), .val (.int p4), .val (.int ra), .val (.int rb), .val (.int rc), .val (.int (1 : Int32)), .val (.double d1), .second, .val (.double d2), .second, .val (.ref b3), .val (.ref b17), .val (.ref b31), .val (.ref b44), .val (.ref b60), .unset, .unset] [(.ref b86)])) _
    refine XS.astore X109.here hx rfl (hb hby at_191) rfl rfl (l' := #[.val (.int p0), .val (.int p1), .val (.int p2), .val (.int p3), .val (.int p4), .val (.int ra), .val (.int rb), .val (.int rc), .val (.int (1 : Int32)), .val (.double d1), .second, .val (.double d2), .second, .val (.ref b3), .val (.ref b17), .val (.ref b31), .val (.ref b44), .val (.ref b60), .val (.ref b86), .unset]) rfl ?_
    refine st116 _ ?_
    show Steps p.tables e below (T116.setTop (mkF m 196 #[.val (.int p0), .val (.int p1), .val (.int p2), .val (.int p3), .val (.int p4), .val (.int ra), .val (.int rb), .val (.int rc), .val (.int (1 : Int32)), .val (.double d1), .second, .val (.double d2), .second, .val (.ref b3), .val (.ref b17), .val (.ref b31), .val (.ref b44), .val (.ref b60), .val (.ref b86), .unset] [(.ref b116)])) _
    refine XS.dup X116.here hx rfl (hb hby at_196) rfl rfl ?_
    refine st123.trans ?_
    show Steps p.tables e below (T123.setTop (mkF m 200 #[.val (.int p0), .val (.int p1), .val (.int p2), .val (.int p3), .val (.int p4), .val (.int ra), .val (.int rb), .val (.int rc), .val (.int (1 : Int32)), .val (.double d1), .second, .val (.double d2), .second, .val (.ref b3), .val (.ref b17), .val (.ref b31), .val (.ref b44), .val (.ref b60), .val (.ref b86), .unset] [(.ref b116)])) _
    refine XS.astore X123.here hx rfl (hb hby at_200) rfl rfl (l' := #[.val (.int p0), .val (.int p1), .val (.int p2), .val (.int p3), .val (.int p4), .val (.int ra), .val (.int rb), .val (.int rc), .val (.int (1 : Int32)), .val (.double d1), .second, .val (.double d2), .second, .val (.ref b3), .val (.ref b17), .val (.ref b31), .val (.ref b44), .val (.ref b60), .val (.ref b86), .val (.ref b116)]) rfl ?_
    refine XS.iload X123.here hx rfl (hb hby at_202) rfl ?_
    show Steps p.tables e below (T123.setTop (mkF m 204 #[.val (.int p0), .val (.int p1), .val (.int p2), .val (.int p3), .val (.int p4), .val (.int ra), .val (.int rb), .val (.int rc), .val (.int (1 : Int32)), .val (.double d1), .second, .val (.double d2), .second, .val (.ref b3), .val (.ref b17), .val (.ref b31), .val (.ref b44), .val (.ref b60), .val (.ref b86), .val (.ref b116)] [(.int (1 : Int32))])) _
    refine XS.iconst X123.here hx rfl (hb hby at_204) ?_
    refine XS.icmpNo X123.here hx rfl (hb hby at_205) rfl (flt (by decide : ¬ ((1 : Int32) < (1 : Int32)))).1 ?_
    refine XS.aload X123.here hx rfl (hb hby at_208) rfl rfl ?_
    refine XS.iload X123.here hx rfl (hb hby at_210) rfl ?_
    refine XS.aload X123.here hx rfl (hb hby at_212) rfl rfl ?_
    refine XS.aload X123.here hx rfl (hb hby at_214) rfl rfl ?_
    refine st158.trans ?_
    show Steps p.tables e below (T158.setTop (mkF m 219 #[.val (.int p0), .val (.int p1), .val (.int p2), .val (.int p3), .val (.int p4), .val (.int ra), .val (.int rb), .val (.int rc), .val (.int (1 : Int32)), .val (.double d1), .second, .val (.double d2), .second, .val (.ref b3), .val (.ref b17), .val (.ref b31), .val (.ref b44), .val (.ref b60), .val (.ref b86), .val (.ref b116)] [])) _
    refine XS.iload X158.here hx rfl (hb hby at_219) rfl ?_
    show Steps p.tables e below (T158.setTop (mkF m 221 #[.val (.int p0), .val (.int p1), .val (.int p2), .val (.int p3), .val (.int p4), .val (.int ra), .val (.int rb), .val (.int rc), .val (.int (1 : Int32)), .val (.double d1), .second, .val (.double d2), .second, .val (.ref b3), .val (.ref b17), .val (.ref b31), .val (.ref b44), .val (.ref b60), .val (.ref b86), .val (.ref b116)] [(.int (1 : Int32))])) _
    refine XS.iconst X158.here hx rfl (hb hby at_221) ?_
    refine XS.icmpYes X158.here hx rfl (pc0 := 222) (pc' := 236) rfl (hb hby at_222) rfl (tlt (by decide : (1 : Int32) < (2 : Int32))).1 (by decide) (by decide) ?_
    refine XS.aload X158.here hx rfl (hb hby at_236) rfl rfl ?_
    refine XS.aload X158.here hx rfl (hb hby at_238) rfl rfl ?_
    refine st178.trans ?_
    show Steps p.tables e below (T178.setTop (mkF m 243 #[.val (.int p0), .val (.int p1), .val (.int p2), .val (.int p3), .val (.int p4), .val (.int ra), .val (.int rb), .val (.int rc), .val (.int (1 : Int32)), .val (.double d1), .second, .val (.double d2), .second, .val (.ref b3), .val (.ref b17), .val (.ref b31), .val (.ref b44), .val (.ref b60), .val (.ref b86), .val (.ref b116)] [])) _
    refine XS.iconst X178.here hx rfl (hb hby at_243) ?_
    refine XS.iload X178.here hx rfl (hb hby at_244) rfl ?_
    refine XS.iload X178.here hx rfl (hb hby at_246) rfl ?_
    show Steps p.tables e below (T178.setTop (mkF m 248 #[.val (.int p0), .val (.int p1), .val (.int p2), .val (.int p3), .val (.int p4), .val (.int ra), .val (.int rb), .val (.int rc), .val (.int (1 : Int32)), .val (.double d1), .second, .val (.double d2), .second, .val (.ref b3), .val (.ref b17), .val (.ref b31), .val (.ref b44), .val (.ref b60), .val (.ref b86), .val (.ref b116)] [(.int ra), (.int (1 : Int32)), (.int (0 : Int32))])) _
    refine XS.iload X178.here hx rfl (hb hby at_248) rfl ?_
    refine XS.iload X178.here hx rfl (hb hby at_250) rfl ?_
    refine XS.aload X178.here hx rfl (hb hby at_252) rfl rfl ?_
    refine XS.aload X178.here hx rfl (hb hby at_254) rfl rfl ?_
    refine XS.aload X178.here hx rfl (hb hby at_256) rfl rfl ?_
    refine XS.aload X178.here hx rfl (hb hby at_258) rfl rfl ?_
    refine st197 _ ?_
    show Steps p.tables e below (T197.setTop (mkF m 263 #[.val (.int p0), .val (.int p1), .val (.int p2), .val (.int p3), .val (.int p4), .val (.int ra), .val (.int rb), .val (.int rc), .val (.int (1 : Int32)), .val (.double d1), .second, .val (.double d2), .second, .val (.ref b3), .val (.ref b17), .val (.ref b31), .val (.ref b44), .val (.ref b60), .val (.ref b86), .val (.ref b116)] [(.int (1 : Int32))])) _
    refine XS.ifNo X197.here hx rfl (hb hby at_263) rfl ((if0 _ _).trans (feq (by decide : ¬ ((1 : Int32) = (0 : Int32)))).1) ?_
    show Steps p.tables e below (T197.setTop (mkF m 266 #[.val (.int p0), .val (.int p1), .val (.int p2), .val (.int p3), .val (.int p4), .val (.int ra), .val (.int rb), .val (.int rc), .val (.int (1 : Int32)), .val (.double d1), .second, .val (.double d2), .second, .val (.ref b3), .val (.ref b17), .val (.ref b31), .val (.ref b44), .val (.ref b60), .val (.ref b86), .val (.ref b116)] [])) _
    refine XS.iconst X197.here hx rfl (hb hby at_266) ?_
    refine XS.iload X197.here hx rfl (hb hby at_267) rfl ?_
    refine XS.iload X197.here hx rfl (hb hby at_269) rfl ?_
    refine XS.iload X197.here hx rfl (hb hby at_271) rfl ?_
    refine XS.iload X197.here hx rfl (hb hby at_273) rfl ?_
    refine XS.aload X197.here hx rfl (hb hby at_275) rfl rfl ?_
    refine XS.aload X197.here hx rfl (hb hby at_277) rfl rfl ?_
    refine XS.aload X197.here hx rfl (hb hby at_279) rfl rfl ?_
    show Steps p.tables e below (T197.setTop (mkF m 281 #[.val (.int p0), .val (.int p1), .val (.int p2), .val (.int p3), .val (.int p4), .val (.int ra), .val (.int rb), .val (.int rc), .val (.int (1 : Int32)), .val (.double d1), .second, .val (.double d2), .second, .val (.ref b3), .val (.ref b17), .val (.ref b31), .val (.ref b44), .val (.ref b60), .val (.ref b86), .val (.ref b116)] [(.ref b44), (.ref b3), (.ref b86), (.int rc), (.int rb), (.int ra), (.int (1 : Int32)), (.int (1 : Int32))])) _
    refine XS.aload X197.here hx rfl (hb hby at_281) rfl rfl ?_
    refine st198 _ ?_
    show Steps p.tables e below (T198.setTop (mkF m 286 #[.val (.int p0), .val (.int p1), .val (.int p2), .val (.int p3), .val (.int p4), .val (.int ra), .val (.int rb), .val (.int rc), .val (.int (1 : Int32)), .val (.double d1), .second, .val (.double d2), .second, .val (.ref b3), .val (.ref b17), .val (.ref b31), .val (.ref b44), .val (.ref b60), .val (.ref b86), .val (.ref b116)] [(.int (1 : Int32))])) _
    refine XS.ifNo X198.here hx rfl (hb hby at_286) rfl ((if0 _ _).trans (feq (by decide : ¬ ((1 : Int32) = (0 : Int32)))).1) ?_
    refine XS.iconst X198.here hx rfl (hb hby at_289) ?_
    refine XS.iload X198.here hx rfl (hb hby at_290) rfl ?_
    refine XS.iload X198.here hx rfl (hb hby at_292) rfl ?_
    refine XS.iload X198.here hx rfl (hb hby at_294) rfl ?_
    refine XS.iload X198.here hx rfl (hb hby at_296) rfl ?_
    show Steps p.tables e below (T198.setTop (mkF m 298 #[.val (.int p0), .val (.int p1), .val (.int p2), .val (.int p3), .val (.int p4), .val (.int ra), .val (.int rb), .val (.int rc), .val (.int (1 : Int32)), .val (.double d1), .second, .val (.double d2), .second, .val (.ref b3), .val (.ref b17), .val (.ref b31), .val (.ref b44), .val (.ref b60), .val (.ref b86), .val (.ref b116)] [(.int rc), (.int rb), (.int ra), (.int (1 : Int32)), (.int (2 : Int32))])) _
    refine XS.aload X198.here hx rfl (hb hby at_298) rfl rfl ?_
    refine XS.aload X198.here hx rfl (hb hby at_300) rfl rfl ?_
    refine XS.aload X198.here hx rfl (hb hby at_302) rfl rfl ?_
    refine XS.aload X198.here hx rfl (hb hby at_304) rfl rfl ?_
    refine st199 _ ?_
    show Steps p.tables e below (T199.setTop (mkF m 309 #[.val (.int p0), .val (.int p1), .val (.int p2), .val (.int p3), .val (.int p4), .val (.int ra), .val (.int rb), .val (.int rc), .val (.int (1 : Int32)), .val (.double d1), .second, .val (.double d2), .second, .val (.ref b3), .val (.ref b17), .val (.ref b31), .val (.ref b44), .val (.ref b60), .val (.ref b86), .val (.ref b116)] [(.int (1 : Int32))])) _
    refine XS.ifNo X199.here hx rfl (hb hby at_309) rfl ((if0 _ _).trans (feq (by decide : ¬ ((1 : Int32) = (0 : Int32)))).1) ?_
    refine XS.iconst X199.here hx rfl (hb hby at_312) ?_
    refine XS.goto X199.here hx rfl (pc0 := 313) (pc' := 317) rfl (hb hby at_313) (by decide) (by decide) ?_
    show Steps p.tables e below (T199.setTop (mkF m 317 #[.val (.int p0), .val (.int p1), .val (.int p2), .val (.int p3), .val (.int p4), .val (.int ra), .val (.int rb), .val (.int rc), .val (.int (1 : Int32)), .val (.double d1), .second, .val (.double d2), .second, .val (.ref b3), .val (.ref b17), .val (.ref b31), .val (.ref b44), .val (.ref b60), .val (.ref b86), .val (.ref b116)] [(.int (1 : Int32))])) _
    exact retN X199 hx (t := .boolean) Bd.returns (by simp) (hb hby at_317) hr
  · show Q0 n0 _ T199.heap _
    rw [e199]
    exact ⟨rfl, N199⟩
set_option maxRecDepth 65536 in
set_option maxHeartbeats 40000000 in
theorem rm2 (l : Launch) (Z : State) (a0 : Array Value) (hw : ∀ d ∈ tables_1, d.before a0 Z = true) (ws : List Jvm.Cond) (p0 : Int32) (p1 : Int32) (p2 : Int32) (p3 : Int32) (p4 : Int32) (d1 : UInt64) (d2 : UInt64) (v0 : UInt64) (v1 : UInt64) (v2 : UInt64) (yj0 : UInt64) (yj1 : UInt64) (yj2 : UInt64) (yb : UInt64) (yc : UInt64) (pe1 : UInt64) (va : UInt64) (vb : UInt64) (qa : UInt64) (ca : UInt64) (cx : UInt64) (cy : UInt64) (y0 : UInt64) (y1 : UInt64) (y2 : UInt64) (qb : UInt64) (cb : UInt64) (cc : UInt64) (z0 : UInt64) (z1 : UInt64) (z2 : UInt64) (ra : Int32) (tx : Int32) (ty : Int32) (u0 : Int32) (u1 : Int32) (u2 : Int32) (rb : Int32) (rc : Int32) (pa : Int32) (pb : Int32) (u3 : Int32) (h0 : Heap) (n0 : Nat) (Z0 : n0 ≤ h0.size) (hl_ra : ra.toNatClampNeg < 3) (hn_ra : ¬ ra < 0 ∧ ra < (3 : Int32)) (hvv : (([(.double (FP.i2d u0)), (.double (FP.i2d u1)), (.double (FP.i2d u2))] : List Value).set ra.toNatClampNeg (.double d1)) = [(.double v0), (.double v1), (.double v2)]) (hv6 : (((p4.toUInt32 >>> ((24 : Int32) &&& 31).toUInt32).toInt32) % (3 : Int32)) = ra) (hv21 : (((ra + (1 : Int32)) + (((p4.toUInt32 >>> ((2 : Int32) &&& 31).toUInt32).toInt32) &&& (1 : Int32))) % (3 : Int32)) = rb) (hv30 : (((3 : Int32) - ra) - rb) = rc) (hv40 : ((((p4.toUInt32 >>> ((3 : Int32) &&& 31).toUInt32).toInt32) &&& (3 : Int32)) % (3 : Int32)) = (2 : Int32)) (hv48 : (((p4.toUInt32 >>> ((5 : Int32) &&& 31).toUInt32).toInt32) &&& (3 : Int32)) = pa) (hpw_49 : own_pv pa = d1) (hv60 : (((p4.toUInt32 >>> ((7 : Int32) &&& 31).toUInt32).toInt32) &&& (3 : Int32)) = pb) (hpw_61 : own_pv pb = d2) (hv72 : (p3.toInt8.toInt32) = u0) (hv81 : ((p3 >>> ((8 : Int32) &&& 31)).toInt8.toInt32) = u1) (hv90 : ((p3 >>> ((16 : Int32) &&& 31)).toInt8.toInt32) = u2) (hv148 : ((p3 >>> ((24 : Int32) &&& 31)).toInt8.toInt32) = u3) (hcase_216 : ((v0 = pe1) ∧ ((1 : Int32) = tx) ∧ ((2 : Int32) = ty) ∧ (v1 = va) ∧ (v2 = vb) ∧ ((0 : Int32) = ra) ∧ (¬ ((1 : Int32) = ra)) ∧ (¬ ((2 : Int32) = ra))) ∨ ((v1 = pe1) ∧ ((0 : Int32) = tx) ∧ ((2 : Int32) = ty) ∧ (v0 = va) ∧ (v2 = vb) ∧ (¬ ((0 : Int32) = ra)) ∧ ((1 : Int32) = ra) ∧ (¬ ((2 : Int32) = ra))) ∨ ((v2 = pe1) ∧ ((0 : Int32) = tx) ∧ ((1 : Int32) = ty) ∧ (v0 = va) ∧ (v1 = vb) ∧ (¬ ((0 : Int32) = ra)) ∧ (¬ ((1 : Int32) = ra)) ∧ ((2 : Int32) = ra))) (hc29_233 : ¬ (rc = rb)) (hn_rb_240 : ¬ rb < 0 ∧ rb < (3 : Int32)) (hcb_240 : ([(.double (FP.i2d p0)), (.double (FP.i2d p1)), (.double (FP.i2d p2))] : List Value).getD rb.toNatClampNeg (.double (0 : UInt64)) = .double cb) (hn_ra_240 : ¬ ra < 0 ∧ ra < (3 : Int32)) (hca_240 : ([(.double z0), (.double z1), (.double z2)] : List Value).getD ra.toNatClampNeg (.double (0 : UInt64)) = .double ca) (hn_rc_240 : ¬ rc < 0 ∧ rc < (3 : Int32)) (hcc_240 : ([(.double (FP.i2d p0)), (.double (FP.i2d p1)), (.double (FP.i2d p2))] : List Value).getD rc.toNatClampNeg (.double (0 : UInt64)) = .double cc) (hn_tx_240 : ¬ tx < 0 ∧ tx < (3 : Int32)) (hcx_240 : ([(.double z0), (.double z1), (.double z2)] : List Value).getD tx.toNatClampNeg (.double (0 : UInt64)) = .double cx) (hn_ty_240 : ¬ ty < 0 ∧ ty < (3 : Int32)) (hcy_240 : ([(.double z0), (.double z1), (.double z2)] : List Value).getD ty.toNatClampNeg (.double (0 : UInt64)) = .double cy) (hl_rb_240 : rb.toNatClampNeg < 3) (hl_ra_240 : ra.toNatClampNeg < 3) (hz_240 : (([(.double (FP.i2d p0)), (.double (FP.i2d p1)), (.double (FP.i2d p2))] : List Value).set rb.toNatClampNeg (.double qb)) = [(.double z0), (.double z1), (.double z2)]) (hy_240 : (([(.double z0), (.double z1), (.double z2)] : List Value).set ra.toNatClampNeg (.double qa)) = [(.double y0), (.double y1), (.double y2)]) (nn62_240 : Jvm.Free.Fl.NoNaN64 (FP.dmul (FP.i2d u3) cc)) (nn63_240 : Jvm.Free.Fl.NoNaN64 (FP.dsub cb (FP.dmul (FP.i2d u3) cc))) (nn82_240 : Jvm.Free.Fl.NoNaN64 (FP.ddiv (FP.dsub cb (FP.dmul (FP.i2d u3) cc)) d2)) (hq82_240 : (FP.ddiv (FP.dsub cb (FP.dmul (FP.i2d u3) cc)) d2) = qb) (nn62_1_240 : Jvm.Free.Fl.NoNaN64 (FP.dmul va cx)) (nn63_1_240 : Jvm.Free.Fl.NoNaN64 (FP.dsub ca (FP.dmul va cx))) (nn62_2_240 : Jvm.Free.Fl.NoNaN64 (FP.dmul vb cy)) (nn63_2_240 : Jvm.Free.Fl.NoNaN64 (FP.dsub (FP.dsub ca (FP.dmul va cx)) (FP.dmul vb cy))) (nn82_1_240 : Jvm.Free.Fl.NoNaN64 (FP.ddiv (FP.dsub (FP.dsub ca (FP.dmul va cx)) (FP.dmul vb cy)) pe1)) (hq82_1_240 : (FP.ddiv (FP.dsub (FP.dsub ca (FP.dmul va cx)) (FP.dmul vb cy)) pe1) = qa) (hjj_260 : ¬ (0 : Int32) < 0 ∧ (0 : Int32) < (3 : Int32)) (hcj_260 : ([(.double (FP.i2d p0)), (.double (FP.i2d p1)), (.double (FP.i2d p2))] : List Value).getD (0 : Int32).toNatClampNeg (.double (0 : UInt64)) = .double (FP.i2d p0)) (hcase_260 : (((0 : Int32) = ra) ∧ (Jvm.Free.Fl.NoNaN64 (FP.dmul y0 v0)) ∧ (Jvm.Free.Fl.NoNaN64 (FP.dmul y1 v1)) ∧ (Jvm.Free.Fl.NoNaN64 (FP.dadd (FP.dmul y0 v0) (FP.dmul y1 v1))) ∧ (Jvm.Free.Fl.NoNaN64 (FP.dmul y2 v2)) ∧ (Jvm.Free.Fl.NoNaN64 (FP.dadd (FP.dadd (FP.dmul y0 v0) (FP.dmul y1 v1)) (FP.dmul y2 v2))) ∧ ((cmpValue (FP.dcmp (FP.dadd (FP.dadd (FP.dmul y0 v0) (FP.dmul y1 v1)) (FP.dmul y2 v2)) (FP.i2d p0)) .l) = (0 : Int32))) ∨ ((¬ rb < 0 ∧ rb < (3 : Int32)) ∧ (([(.double y0), (.double y1), (.double y2)] : List Value).getD rb.toNatClampNeg (.double (0 : UInt64)) = .double yb) ∧ (¬ rc < 0 ∧ rc < (3 : Int32)) ∧ (([(.double y0), (.double y1), (.double y2)] : List Value).getD rc.toNatClampNeg (.double (0 : UInt64)) = .double yc) ∧ (¬ ((0 : Int32) = ra)) ∧ ((0 : Int32) = rb) ∧ (Jvm.Free.Fl.NoNaN64 (FP.dmul yb d2)) ∧ (Jvm.Free.Fl.NoNaN64 (FP.dmul yc (FP.i2d u3))) ∧ (Jvm.Free.Fl.NoNaN64 (FP.dadd (FP.dmul yb d2) (FP.dmul yc (FP.i2d u3)))) ∧ ((cmpValue (FP.dcmp (FP.dadd (FP.dmul yb d2) (FP.dmul yc (FP.i2d u3))) (FP.i2d p0)) .l) = (0 : Int32))) ∨ ((([(.double y0), (.double y1), (.double y2)] : List Value).getD (0 : Int32).toNatClampNeg (.double (0 : UInt64)) = .double yj0) ∧ (¬ ((0 : Int32) = ra)) ∧ (¬ ((0 : Int32) = rb)) ∧ ((cmpValue (FP.dcmp yj0 (FP.i2d p0)) .l) = (0 : Int32)))) (hjj_283 : ¬ (1 : Int32) < 0 ∧ (1 : Int32) < (3 : Int32)) (hcj_283 : ([(.double (FP.i2d p0)), (.double (FP.i2d p1)), (.double (FP.i2d p2))] : List Value).getD (1 : Int32).toNatClampNeg (.double (0 : UInt64)) = .double (FP.i2d p1)) (hcase_283 : (((1 : Int32) = ra) ∧ (Jvm.Free.Fl.NoNaN64 (FP.dmul y0 v0)) ∧ (Jvm.Free.Fl.NoNaN64 (FP.dmul y1 v1)) ∧ (Jvm.Free.Fl.NoNaN64 (FP.dadd (FP.dmul y0 v0) (FP.dmul y1 v1))) ∧ (Jvm.Free.Fl.NoNaN64 (FP.dmul y2 v2)) ∧ (Jvm.Free.Fl.NoNaN64 (FP.dadd (FP.dadd (FP.dmul y0 v0) (FP.dmul y1 v1)) (FP.dmul y2 v2))) ∧ ((cmpValue (FP.dcmp (FP.dadd (FP.dadd (FP.dmul y0 v0) (FP.dmul y1 v1)) (FP.dmul y2 v2)) (FP.i2d p1)) .l) = (0 : Int32))) ∨ ((¬ rb < 0 ∧ rb < (3 : Int32)) ∧ (([(.double y0), (.double y1), (.double y2)] : List Value).getD rb.toNatClampNeg (.double (0 : UInt64)) = .double yb) ∧ (¬ rc < 0 ∧ rc < (3 : Int32)) ∧ (([(.double y0), (.double y1), (.double y2)] : List Value).getD rc.toNatClampNeg (.double (0 : UInt64)) = .double yc) ∧ (¬ ((1 : Int32) = ra)) ∧ ((1 : Int32) = rb) ∧ (Jvm.Free.Fl.NoNaN64 (FP.dmul yb d2)) ∧ (Jvm.Free.Fl.NoNaN64 (FP.dmul yc (FP.i2d u3))) ∧ (Jvm.Free.Fl.NoNaN64 (FP.dadd (FP.dmul yb d2) (FP.dmul yc (FP.i2d u3)))) ∧ ((cmpValue (FP.dcmp (FP.dadd (FP.dmul yb d2) (FP.dmul yc (FP.i2d u3))) (FP.i2d p1)) .l) = (0 : Int32))) ∨ ((([(.double y0), (.double y1), (.double y2)] : List Value).getD (1 : Int32).toNatClampNeg (.double (0 : UInt64)) = .double yj1) ∧ (¬ ((1 : Int32) = ra)) ∧ (¬ ((1 : Int32) = rb)) ∧ ((cmpValue (FP.dcmp yj1 (FP.i2d p1)) .l) = (0 : Int32)))) (hjj_306 : ¬ (2 : Int32) < 0 ∧ (2 : Int32) < (3 : Int32)) (hcj_306 : ([(.double (FP.i2d p0)), (.double (FP.i2d p1)), (.double (FP.i2d p2))] : List Value).getD (2 : Int32).toNatClampNeg (.double (0 : UInt64)) = .double (FP.i2d p2)) (hcase_306 : (((2 : Int32) = ra) ∧ (Jvm.Free.Fl.NoNaN64 (FP.dmul y0 v0)) ∧ (Jvm.Free.Fl.NoNaN64 (FP.dmul y1 v1)) ∧ (Jvm.Free.Fl.NoNaN64 (FP.dadd (FP.dmul y0 v0) (FP.dmul y1 v1))) ∧ (Jvm.Free.Fl.NoNaN64 (FP.dmul y2 v2)) ∧ (Jvm.Free.Fl.NoNaN64 (FP.dadd (FP.dadd (FP.dmul y0 v0) (FP.dmul y1 v1)) (FP.dmul y2 v2))) ∧ ((cmpValue (FP.dcmp (FP.dadd (FP.dadd (FP.dmul y0 v0) (FP.dmul y1 v1)) (FP.dmul y2 v2)) (FP.i2d p2)) .l) = (0 : Int32))) ∨ ((¬ rb < 0 ∧ rb < (3 : Int32)) ∧ (([(.double y0), (.double y1), (.double y2)] : List Value).getD rb.toNatClampNeg (.double (0 : UInt64)) = .double yb) ∧ (¬ rc < 0 ∧ rc < (3 : Int32)) ∧ (([(.double y0), (.double y1), (.double y2)] : List Value).getD rc.toNatClampNeg (.double (0 : UInt64)) = .double yc) ∧ (¬ ((2 : Int32) = ra)) ∧ ((2 : Int32) = rb) ∧ (Jvm.Free.Fl.NoNaN64 (FP.dmul yb d2)) ∧ (Jvm.Free.Fl.NoNaN64 (FP.dmul yc (FP.i2d u3))) ∧ (Jvm.Free.Fl.NoNaN64 (FP.dadd (FP.dmul yb d2) (FP.dmul yc (FP.i2d u3)))) ∧ ((cmpValue (FP.dcmp (FP.dadd (FP.dmul yb d2) (FP.dmul yc (FP.i2d u3))) (FP.i2d p2)) .l) = (0 : Int32))) ∨ ((([(.double y0), (.double y1), (.double y2)] : List Value).getD (2 : Int32).toNatClampNeg (.double (0 : UInt64)) = .double yj2) ∧ (¬ ((2 : Int32) = ra)) ∧ (¬ ((2 : Int32) = rb)) ∧ ((cmpValue (FP.dcmp yj2 (FP.i2d p2)) .l) = (0 : Int32)))) :
    MetFree l x (head1 (Jvm.Cond.code x code maxLocals ret :: ws) room_1) (fun a U => a = #[(.int p0), (.int p1), (.int p2), (.int p3), (.int p4)] ∧ Z.Warmed39 U.vm ∧ U.heap = h0) (fun _ _ _ _ _ => True) (fun _ U o U' => ∃ v L, o = .returned v ∧ Q0 n0 v U'.heap L ∧ FrameEnd U o U' L room_1.cells room_1.slots) := by
  refine MetFree.of_bodySF (plainFor_of_name pn_com_example_leeway_leeway_lp_BasisInverseSolveTransposedPinLaw) hisR ?_
  intro p e s m args below meth c s₁ Bd hml0 hP hK
  obtain ⟨rfl, hZ, hh⟩ := hP
  have hx := Bd.exec
  have hby := Bd.bytes
  have hml : c.maxLocals = 20 := hml0
  have hown : s.vm.findClass "com/example/leeway/leeway/lp/BasisInverseSolveTransposedPinLaw" = some m.cls := findClass_of_methodNamed Bd.named
  have hnm := (name_of_methodNamed Bd.named Bd.method).1
  have X0 : Stand p l e room_1 s m #[(.int p0), (.int p1), (.int p2), (.int p3), (.int p4)] below meth c s₁ [] 0 0 := Stand.of_body Bd
  have e0 : s₁.heap = h0 := by rw [← hh, Bd.state]; rfl
  have N0 := Fr.nil n0
  have pre0 : ∀ t, Steps p.tables e below (s₁.setTop (mkF m 0 #[.val (.int p0), .val (.int p1), .val (.int p2), .val (.int p3), .val (.int p4), .unset, .unset, .unset, .unset, .unset, .unset, .unset, .unset, .unset, .unset, .unset, .unset, .unset, .unset, .unset] [])) t → Steps p.tables e below (s₁.setTop (entryFrame m #[(.int p0), (.int p1), (.int p2), (.int p3), (.int p4)] maxLocals)) t := fun t k => castTop (ef_0_IIIII m p0 p1 p2 p3 p4) k
  obtain ⟨_, _, ⟨T1, L1, k1, n1⟩, -, X1, ⟨Lc1, hQ1, lq1, yq1, zq1⟩, st1⟩ := Jvm.LawKit.callS X0 hx (y := (⟨"com/example/leeway/leeway/lp/BasisInverseSolveTransposedPinLaw", "pivot", "(I)D"⟩ : MethodName)) hown (mvT hZ (hw _ (List.mem_of_getElem? (i := 0) rfl))) (mvT hZ (hw _ (List.mem_of_getElem? (i := 1) rfl))) (mvT hZ (hw _ (List.mem_of_getElem? (i := 2) rfl))) (mvT hZ (hw _ (List.mem_of_getElem? (i := 3) rfl))) (by decide) (backOf (W := 0) (piv l Z a0 hw [] pa d1 h0 n0 Z0 hpw_49) hZ (hw _ (List.mem_of_getElem? (i := 3) rfl)) (hw _ (List.mem_of_getElem? (i := 2) rfl)) (by decide) (by decide)) (g := (mkF m 49 #[.val (.int p0), .val (.int p1), .val (.int p2), .val (.int p3), .val (.int p4), .val (.int ra), .val (.int rb), .val (.int rc), .val (.int (2 : Int32)), .unset, .unset, .unset, .unset, .unset, .unset, .unset, .unset, .unset, .unset, .unset] [(.int pa)])) rfl (by rw [hml]; rfl) (argsL := [(.int pa)]) (rest := []) (lenOf pd_2 rfl) rfl (by show 2 * 0 + _ ≤ _; exact Nat.le_of_eq rfl) (hb hby at_49) (fun _ _ => ⟨rfl, e0, (by decide : 0 + 0 ≤ _), (by decide : 0 + 0 ≤ _)⟩)
  dsimp only [Pt.U, Pt.locs, Pt.cells, Pt.slots] at X1 lq1 yq1 zq1 st1 hQ1
  rw [lq1, yq1, zq1] at X1
  obtain ⟨rfl, N1q, eh1⟩ := hQ1
  have N1 := Fr.app N0 N1q
  have e1 : T1.heap = h0 := eh1
  obtain ⟨_, _, ⟨T2, L2, k2, n2⟩, -, X2, ⟨Lc2, hQ2, lq2, yq2, zq2⟩, st2⟩ := Jvm.LawKit.callS X1 hx (y := (⟨"com/example/leeway/leeway/lp/BasisInverseSolveTransposedPinLaw", "pivot", "(I)D"⟩ : MethodName)) hown (mvT hZ (hw _ (List.mem_of_getElem? (i := 0) rfl))) (mvT hZ (hw _ (List.mem_of_getElem? (i := 1) rfl))) (mvT hZ (hw _ (List.mem_of_getElem? (i := 2) rfl))) (mvT hZ (hw _ (List.mem_of_getElem? (i := 3) rfl))) (by decide) (backOf (W := 0) (piv l Z a0 hw [] pb d2 h0 n0 Z0 hpw_61) hZ (hw _ (List.mem_of_getElem? (i := 3) rfl)) (hw _ (List.mem_of_getElem? (i := 2) rfl)) (by decide) (by decide)) (g := (mkF m 61 #[.val (.int p0), .val (.int p1), .val (.int p2), .val (.int p3), .val (.int p4), .val (.int ra), .val (.int rb), .val (.int rc), .val (.int (2 : Int32)), .val (.double d1), .second, .unset, .unset, .unset, .unset, .unset, .unset, .unset, .unset, .unset] [(.int pb)])) rfl (by rw [hml]; rfl) (argsL := [(.int pb)]) (rest := []) (lenOf pd_2 rfl) rfl (by show 2 * 0 + _ ≤ _; exact Nat.le_of_eq rfl) (hb hby at_61) (fun _ _ => ⟨rfl, e1, (by decide : 0 + 0 ≤ _), (by decide : 0 + 0 ≤ _)⟩)
  dsimp only [Pt.U, Pt.locs, Pt.cells, Pt.slots] at X2 lq2 yq2 zq2 st2 hQ2
  rw [lq2, yq2, zq2] at X2
  obtain ⟨rfl, N2q, eh2⟩ := hQ2
  have N2 := Fr.app N1 N2q
  have e2 : T2.heap = h0 := eh2
  obtain ⟨T3, h3, k3, X3, e3, E3, A3, st3⟩ := newP X2 hx hZ (hw _ (List.mem_of_getElem? (i := 4) rfl)) e2 (g := (mkF m 67 #[.val (.int p0), .val (.int p1), .val (.int p2), .val (.int p3), .val (.int p4), .val (.int ra), .val (.int rb), .val (.int rc), .val (.int (2 : Int32)), .val (.double d1), .second, .val (.double d2), .second, .unset, .unset, .unset, .unset, .unset, .unset, .unset] [(.int (3 : Int32))])) rfl (hb hby at_67) rfl (by decide) (cap := 3) (by decide) (by decide) (by decide) (by decide)
  obtain ⟨b3, g3⟩ : ∃ z, z = h0.size := ⟨_, rfl⟩
  rw [← g3] at A3 st3
  have g_b3 : n0 ≤ b3 := Nat.le_trans Z0 (Nat.le_of_eq g3.symm)
  have sz_b3 : h0.size ≤ b3 := Nat.le_trans (Keep.refl h0 []).1 (Nat.le_of_eq g3.symm)
  have K3 : Keep h0 h3 [] := (Keep.refl h0 []).ext E3
  have Zs3 := Nat.le_trans Z0 E3.1
  have V3 : Arv Z h3 b3 k3 .double (3 : Int32) [(.double (0 : UInt64)), (.double (0 : UInt64)), (.double (0 : UInt64))] (.double (0 : UInt64)) := (Arv.new A3 (by decide)).pad (pad_rep [] (.double (0 : UInt64)) 3)
  obtain ⟨cq4, Arq4, qq4, Sq4, Nq4, Hq4, Gq4⟩ := id V3
  obtain ⟨T5, h5, X5, e5, W5, st5⟩ := stD X3 hx hZ e3 Arq4 (j := (0 : Int32)) (inb_of Sq4 ⟨by decide, by decide⟩) (g := (mkF m 74 #[.val (.int p0), .val (.int p1), .val (.int p2), .val (.int p3), .val (.int p4), .val (.int ra), .val (.int rb), .val (.int rc), .val (.int (2 : Int32)), .val (.double d1), .second, .val (.double d2), .second, .unset, .unset, .unset, .unset, .unset, .unset, .unset] [(.double (FP.i2d u0)), (.int (0 : Int32)), (.ref b3), (.ref b3)])) rfl rfl (hb hby at_74)
  have K5 : Keep h0 h5 [] := K3.wr W5 (Or.inr sz_b3)
  have Zs5 := Nat.le_trans Zs3 (Keep.of_wr W5).1
  have N5 := Fr.snoc X5 N2 g_b3
  have f6 : Arv Z h5 b3 k3 .double (3 : Int32) [(.double (FP.i2d u0)), (.double (0 : UInt64)), (.double (0 : UInt64))] (.double (0 : UInt64)) := Arv.set Arq4 qq4 Sq4 Nq4 Hq4 Gq4 rfl W5 0 rfl (Nat.le_of_ble_eq_true rfl)
  obtain ⟨cq7, Arq7, qq7, Sq7, Nq7, Hq7, Gq7⟩ := id f6
  obtain ⟨T8, h8, X8, e8, W8, st8⟩ := stD X5 hx hZ e5 Arq7 (j := (1 : Int32)) (inb_of Sq7 ⟨by decide, by decide⟩) (g := (mkF m 83 #[.val (.int p0), .val (.int p1), .val (.int p2), .val (.int p3), .val (.int p4), .val (.int ra), .val (.int rb), .val (.int rc), .val (.int (2 : Int32)), .val (.double d1), .second, .val (.double d2), .second, .unset, .unset, .unset, .unset, .unset, .unset, .unset] [(.double (FP.i2d u1)), (.int (1 : Int32)), (.ref b3), (.ref b3)])) rfl rfl (hb hby at_83)
  have K8 : Keep h0 h8 [] := K5.wr W8 (Or.inr sz_b3)
  have Zs8 := Nat.le_trans Zs5 (Keep.of_wr W8).1
  have N8 := Fr.snoc X8 N5 g_b3
  have f9 : Arv Z h8 b3 k3 .double (3 : Int32) [(.double (FP.i2d u0)), (.double (FP.i2d u1)), (.double (0 : UInt64))] (.double (0 : UInt64)) := Arv.set Arq7 qq7 Sq7 Nq7 Hq7 Gq7 rfl W8 1 rfl (Nat.le_of_ble_eq_true rfl)
  obtain ⟨cq10, Arq10, qq10, Sq10, Nq10, Hq10, Gq10⟩ := id f9
  obtain ⟨T11, h11, X11, e11, W11, st11⟩ := stD X8 hx hZ e8 Arq10 (j := (2 : Int32)) (inb_of Sq10 ⟨by decide, by decide⟩) (g := (mkF m 92 #[.val (.int p0), .val (.int p1), .val (.int p2), .val (.int p3), .val (.int p4), .val (.int ra), .val (.int rb), .val (.int rc), .val (.int (2 : Int32)), .val (.double d1), .second, .val (.double d2), .second, .unset, .unset, .unset, .unset, .unset, .unset, .unset] [(.double (FP.i2d u2)), (.int (2 : Int32)), (.ref b3), (.ref b3)])) rfl rfl (hb hby at_92)
  have K11 : Keep h0 h11 [] := K8.wr W11 (Or.inr sz_b3)
  have Zs11 := Nat.le_trans Zs8 (Keep.of_wr W11).1
  have N11 := Fr.snoc X11 N8 g_b3
  have f12 : Arv Z h11 b3 k3 .double (3 : Int32) [(.double (FP.i2d u0)), (.double (FP.i2d u1)), (.double (FP.i2d u2))] (.double (0 : UInt64)) := Arv.set Arq10 qq10 Sq10 Nq10 Hq10 Gq10 rfl W11 2 rfl (Nat.le_of_ble_eq_true rfl)
  obtain ⟨cq13, Arq13, qq13, Sq13, Nq13, Hq13, Gq13⟩ := id f12
  obtain ⟨T14, h14, X14, e14, W14, st14⟩ := stD X11 hx hZ e11 Arq13 (j := ra) (inb_of Sq13 hn_ra) (g := (mkF m 101 #[.val (.int p0), .val (.int p1), .val (.int p2), .val (.int p3), .val (.int p4), .val (.int ra), .val (.int rb), .val (.int rc), .val (.int (2 : Int32)), .val (.double d1), .second, .val (.double d2), .second, .val (.ref b3), .unset, .unset, .unset, .unset, .unset, .unset] [(.double d1), (.int ra), (.ref b3)])) rfl rfl (hb hby at_101)
  have K14 : Keep h0 h14 [] := K11.wr W14 (Or.inr sz_b3)
  have Zs14 := Nat.le_trans Zs11 (Keep.of_wr W14).1
  have N14 := Fr.snoc X14 N11 g_b3
  have f15 : Arv Z h14 b3 k3 .double (3 : Int32) ([(.double (FP.i2d u0)), (.double (FP.i2d u1)), (.double (FP.i2d u2))].set ra.toNatClampNeg (.double d1)) (.double (0 : UInt64)) := Arv.set Arq13 qq13 Sq13 Nq13 Hq13 Gq13 rfl W14 ra.toNatClampNeg rfl hl_ra
  have f16 := own_arvL (vs1 := [(.double v0), (.double v1), (.double v2)]) (hvv : (([(.double (FP.i2d u0)), (.double (FP.i2d u1)), (.double (FP.i2d u2))].set ra.toNatClampNeg (.double d1)) : List Value) = [(.double v0), (.double v1), (.double v2)]) f15
  obtain ⟨T17, h17, k17, X17, e17, E17, A17, st17⟩ := newP X14 hx hZ (hw _ (List.mem_of_getElem? (i := 5) rfl)) e14 (g := (mkF m 103 #[.val (.int p0), .val (.int p1), .val (.int p2), .val (.int p3), .val (.int p4), .val (.int ra), .val (.int rb), .val (.int rc), .val (.int (2 : Int32)), .val (.double d1), .second, .val (.double d2), .second, .val (.ref b3), .unset, .unset, .unset, .unset, .unset, .unset] [(.int (3 : Int32))])) rfl (hb hby at_103) rfl (by decide) (cap := 3) (by decide) (by decide) (by decide) (by decide)
  obtain ⟨b17, g17⟩ : ∃ z, z = h14.size := ⟨_, rfl⟩
  rw [← g17] at A17 st17
  have ne_b3_b17 : b3 ≠ b17 := Nat.ne_of_lt (Nat.lt_of_lt_of_le f16.lt (Nat.le_of_eq g17.symm))
  have g_b17 : n0 ≤ b17 := Nat.le_trans Zs14 (Nat.le_of_eq g17.symm)
  have sz_b17 : h0.size ≤ b17 := Nat.le_trans K14.1 (Nat.le_of_eq g17.symm)
  have f18 := f16.ext E17
  have K17 : Keep h0 h17 [] := K14.ext E17
  have Zs17 := Nat.le_trans Zs14 E17.1
  have V17 : Arv Z h17 b17 k17 .int (3 : Int32) [(.int (0 : Int32)), (.int (0 : Int32)), (.int (0 : Int32))] (.int (0 : Int32)) := (Arv.new A17 (by decide)).pad (pad_rep [] (.int (0 : Int32)) 3)
  obtain ⟨cq19, Arq19, qq19, Sq19, Nq19, Hq19, Gq19⟩ := id V17
  obtain ⟨T20, h20, X20, e20, W20, st20⟩ := stI X17 hx hZ e17 Arq19 (j := (0 : Int32)) (inb_of Sq19 ⟨by decide, by decide⟩) (g := (mkF m 108 #[.val (.int p0), .val (.int p1), .val (.int p2), .val (.int p3), .val (.int p4), .val (.int ra), .val (.int rb), .val (.int rc), .val (.int (2 : Int32)), .val (.double d1), .second, .val (.double d2), .second, .val (.ref b3), .unset, .unset, .unset, .unset, .unset, .unset] [(.int (0 : Int32)), (.int (0 : Int32)), (.ref b17), (.ref b17)])) rfl rfl (hb hby at_108)
  have f21 := f18.other W20 ne_b3_b17
  have K20 : Keep h0 h20 [] := K17.wr W20 (Or.inr sz_b17)
  have Zs20 := Nat.le_trans Zs17 (Keep.of_wr W20).1
  have N20 := Fr.snoc X20 N14 g_b17
  have f22 : Arv Z h20 b17 k17 .int (3 : Int32) [(.int (0 : Int32)), (.int (0 : Int32)), (.int (0 : Int32))] (.int (0 : Int32)) := Arv.set Arq19 qq19 Sq19 Nq19 Hq19 Gq19 rfl W20 0 rfl (Nat.le_of_ble_eq_true rfl)
  obtain ⟨cq23, Arq23, qq23, Sq23, Nq23, Hq23, Gq23⟩ := id f22
  obtain ⟨T24, h24, X24, e24, W24, st24⟩ := stI X20 hx hZ e20 Arq23 (j := (1 : Int32)) (inb_of Sq23 ⟨by decide, by decide⟩) (g := (mkF m 112 #[.val (.int p0), .val (.int p1), .val (.int p2), .val (.int p3), .val (.int p4), .val (.int ra), .val (.int rb), .val (.int rc), .val (.int (2 : Int32)), .val (.double d1), .second, .val (.double d2), .second, .val (.ref b3), .unset, .unset, .unset, .unset, .unset, .unset] [(.int (1 : Int32)), (.int (1 : Int32)), (.ref b17), (.ref b17)])) rfl rfl (hb hby at_112)
  have f25 := f21.other W24 ne_b3_b17
  have K24 : Keep h0 h24 [] := K20.wr W24 (Or.inr sz_b17)
  have Zs24 := Nat.le_trans Zs20 (Keep.of_wr W24).1
  have N24 := Fr.snoc X24 N20 g_b17
  have f26 : Arv Z h24 b17 k17 .int (3 : Int32) [(.int (0 : Int32)), (.int (1 : Int32)), (.int (0 : Int32))] (.int (0 : Int32)) := Arv.set Arq23 qq23 Sq23 Nq23 Hq23 Gq23 rfl W24 1 rfl (Nat.le_of_ble_eq_true rfl)
  obtain ⟨cq27, Arq27, qq27, Sq27, Nq27, Hq27, Gq27⟩ := id f26
  obtain ⟨T28, h28, X28, e28, W28, st28⟩ := stI X24 hx hZ e24 Arq27 (j := (2 : Int32)) (inb_of Sq27 ⟨by decide, by decide⟩) (g := (mkF m 116 #[.val (.int p0), .val (.int p1), .val (.int p2), .val (.int p3), .val (.int p4), .val (.int ra), .val (.int rb), .val (.int rc), .val (.int (2 : Int32)), .val (.double d1), .second, .val (.double d2), .second, .val (.ref b3), .unset, .unset, .unset, .unset, .unset, .unset] [(.int (2 : Int32)), (.int (2 : Int32)), (.ref b17), (.ref b17)])) rfl rfl (hb hby at_116)
  have f29 := f25.other W28 ne_b3_b17
  have K28 : Keep h0 h28 [] := K24.wr W28 (Or.inr sz_b17)
  have Zs28 := Nat.le_trans Zs24 (Keep.of_wr W28).1
  have N28 := Fr.snoc X28 N24 g_b17
  have f30 : Arv Z h28 b17 k17 .int (3 : Int32) [(.int (0 : Int32)), (.int (1 : Int32)), (.int (2 : Int32))] (.int (0 : Int32)) := Arv.set Arq27 qq27 Sq27 Nq27 Hq27 Gq27 rfl W28 2 rfl (Nat.le_of_ble_eq_true rfl)
  obtain ⟨T31, h31, k31, X31, e31, E31, A31, st31⟩ := newP X28 hx hZ (hw _ (List.mem_of_getElem? (i := 5) rfl)) e28 (g := (mkF m 120 #[.val (.int p0), .val (.int p1), .val (.int p2), .val (.int p3), .val (.int p4), .val (.int ra), .val (.int rb), .val (.int rc), .val (.int (2 : Int32)), .val (.double d1), .second, .val (.double d2), .second, .val (.ref b3), .val (.ref b17), .unset, .unset, .unset, .unset, .unset] [(.int (2 : Int32))])) rfl (hb hby at_120) rfl (by decide) (cap := 2) (by decide) (by decide) (by decide) (by decide)
  obtain ⟨b31, g31⟩ : ∃ z, z = h28.size := ⟨_, rfl⟩
  rw [← g31] at A31 st31
  have ne_b3_b31 : b3 ≠ b31 := Nat.ne_of_lt (Nat.lt_of_lt_of_le f29.lt (Nat.le_of_eq g31.symm))
  have ne_b17_b31 : b17 ≠ b31 := Nat.ne_of_lt (Nat.lt_of_lt_of_le f30.lt (Nat.le_of_eq g31.symm))
  have g_b31 : n0 ≤ b31 := Nat.le_trans Zs28 (Nat.le_of_eq g31.symm)
  have sz_b31 : h0.size ≤ b31 := Nat.le_trans K28.1 (Nat.le_of_eq g31.symm)
  have f32 := f29.ext E31
  have f33 := f30.ext E31
  have K31 : Keep h0 h31 [] := K28.ext E31
  have Zs31 := Nat.le_trans Zs28 E31.1
  have V31 : Arv Z h31 b31 k31 .int (2 : Int32) [(.int (0 : Int32)), (.int (0 : Int32))] (.int (0 : Int32)) := (Arv.new A31 (by decide)).pad (pad_rep [] (.int (0 : Int32)) 2)
  obtain ⟨cq34, Arq34, qq34, Sq34, Nq34, Hq34, Gq34⟩ := id V31
  obtain ⟨T35, h35, X35, e35, W35, st35⟩ := stI X31 hx hZ e31 Arq34 (j := (0 : Int32)) (inb_of Sq34 ⟨by decide, by decide⟩) (g := (mkF m 126 #[.val (.int p0), .val (.int p1), .val (.int p2), .val (.int p3), .val (.int p4), .val (.int ra), .val (.int rb), .val (.int rc), .val (.int (2 : Int32)), .val (.double d1), .second, .val (.double d2), .second, .val (.ref b3), .val (.ref b17), .unset, .unset, .unset, .unset, .unset] [(.int rb), (.int (0 : Int32)), (.ref b31), (.ref b31)])) rfl rfl (hb hby at_126)
  have f36 := f32.other W35 ne_b3_b31
  have f37 := f33.other W35 ne_b17_b31
  have K35 : Keep h0 h35 [] := K31.wr W35 (Or.inr sz_b31)
  have Zs35 := Nat.le_trans Zs31 (Keep.of_wr W35).1
  have N35 := Fr.snoc X35 N28 g_b31
  have f38 : Arv Z h35 b31 k31 .int (2 : Int32) [(.int rb), (.int (0 : Int32))] (.int (0 : Int32)) := Arv.set Arq34 qq34 Sq34 Nq34 Hq34 Gq34 rfl W35 0 rfl (Nat.le_of_ble_eq_true rfl)
  obtain ⟨cq39, Arq39, qq39, Sq39, Nq39, Hq39, Gq39⟩ := id f38
  obtain ⟨T40, h40, X40, e40, W40, st40⟩ := stI X35 hx hZ e35 Arq39 (j := (1 : Int32)) (inb_of Sq39 ⟨by decide, by decide⟩) (g := (mkF m 131 #[.val (.int p0), .val (.int p1), .val (.int p2), .val (.int p3), .val (.int p4), .val (.int ra), .val (.int rb), .val (.int rc), .val (.int (2 : Int32)), .val (.double d1), .second, .val (.double d2), .second, .val (.ref b3), .val (.ref b17), .unset, .unset, .unset, .unset, .unset] [(.int rc), (.int (1 : Int32)), (.ref b31), (.ref b31)])) rfl rfl (hb hby at_131)
  have f41 := f36.other W40 ne_b3_b31
  have f42 := f37.other W40 ne_b17_b31
  have K40 : Keep h0 h40 [] := K35.wr W40 (Or.inr sz_b31)
  have Zs40 := Nat.le_trans Zs35 (Keep.of_wr W40).1
  have N40 := Fr.snoc X40 N35 g_b31
  have f43 : Arv Z h40 b31 k31 .int (2 : Int32) [(.int rb), (.int rc)] (.int (0 : Int32)) := Arv.set Arq39 qq39 Sq39 Nq39 Hq39 Gq39 rfl W40 1 rfl (Nat.le_of_ble_eq_true rfl)
  obtain ⟨T44, h44, k44, X44, e44, E44, A44, st44⟩ := newP X40 hx hZ (hw _ (List.mem_of_getElem? (i := 4) rfl)) e40 (g := (mkF m 135 #[.val (.int p0), .val (.int p1), .val (.int p2), .val (.int p3), .val (.int p4), .val (.int ra), .val (.int rb), .val (.int rc), .val (.int (2 : Int32)), .val (.double d1), .second, .val (.double d2), .second, .val (.ref b3), .val (.ref b17), .val (.ref b31), .unset, .unset, .unset, .unset] [(.int (2 : Int32))])) rfl (hb hby at_135) rfl (by decide) (cap := 2) (by decide) (by decide) (by decide) (by decide)
  obtain ⟨b44, g44⟩ : ∃ z, z = h40.size := ⟨_, rfl⟩
  rw [← g44] at A44 st44
  have ne_b3_b44 : b3 ≠ b44 := Nat.ne_of_lt (Nat.lt_of_lt_of_le f41.lt (Nat.le_of_eq g44.symm))
  have ne_b17_b44 : b17 ≠ b44 := Nat.ne_of_lt (Nat.lt_of_lt_of_le f42.lt (Nat.le_of_eq g44.symm))
  have ne_b31_b44 : b31 ≠ b44 := Nat.ne_of_lt (Nat.lt_of_lt_of_le f43.lt (Nat.le_of_eq g44.symm))
  have g_b44 : n0 ≤ b44 := Nat.le_trans Zs40 (Nat.le_of_eq g44.symm)
  have sz_b44 : h0.size ≤ b44 := Nat.le_trans K40.1 (Nat.le_of_eq g44.symm)
  have f45 := f41.ext E44
  have f46 := f42.ext E44
  have f47 := f43.ext E44
  have K44 : Keep h0 h44 [] := K40.ext E44
  have Zs44 := Nat.le_trans Zs40 E44.1
  have V44 : Arv Z h44 b44 k44 .double (2 : Int32) [(.double (0 : UInt64)), (.double (0 : UInt64))] (.double (0 : UInt64)) := (Arv.new A44 (by decide)).pad (pad_rep [] (.double (0 : UInt64)) 2)
  obtain ⟨cq48, Arq48, qq48, Sq48, Nq48, Hq48, Gq48⟩ := id V44
  obtain ⟨T49, h49, X49, e49, W49, st49⟩ := stD X44 hx hZ e44 Arq48 (j := (0 : Int32)) (inb_of Sq48 ⟨by decide, by decide⟩) (g := (mkF m 141 #[.val (.int p0), .val (.int p1), .val (.int p2), .val (.int p3), .val (.int p4), .val (.int ra), .val (.int rb), .val (.int rc), .val (.int (2 : Int32)), .val (.double d1), .second, .val (.double d2), .second, .val (.ref b3), .val (.ref b17), .val (.ref b31), .unset, .unset, .unset, .unset] [(.double d2), (.int (0 : Int32)), (.ref b44), (.ref b44)])) rfl rfl (hb hby at_141)
  have f50 := f45.other W49 ne_b3_b44
  have f51 := f46.other W49 ne_b17_b44
  have f52 := f47.other W49 ne_b31_b44
  have K49 : Keep h0 h49 [] := K44.wr W49 (Or.inr sz_b44)
  have Zs49 := Nat.le_trans Zs44 (Keep.of_wr W49).1
  have N49 := Fr.snoc X49 N40 g_b44
  have f53 : Arv Z h49 b44 k44 .double (2 : Int32) [(.double d2), (.double (0 : UInt64))] (.double (0 : UInt64)) := Arv.set Arq48 qq48 Sq48 Nq48 Hq48 Gq48 rfl W49 0 rfl (Nat.le_of_ble_eq_true rfl)
  obtain ⟨cq54, Arq54, qq54, Sq54, Nq54, Hq54, Gq54⟩ := id f53
  obtain ⟨T55, h55, X55, e55, W55, st55⟩ := stD X49 hx hZ e49 Arq54 (j := (1 : Int32)) (inb_of Sq54 ⟨by decide, by decide⟩) (g := (mkF m 150 #[.val (.int p0), .val (.int p1), .val (.int p2), .val (.int p3), .val (.int p4), .val (.int ra), .val (.int rb), .val (.int rc), .val (.int (2 : Int32)), .val (.double d1), .second, .val (.double d2), .second, .val (.ref b3), .val (.ref b17), .val (.ref b31), .unset, .unset, .unset, .unset] [(.double (FP.i2d u3)), (.int (1 : Int32)), (.ref b44), (.ref b44)])) rfl rfl (hb hby at_150)
  have f56 := f50.other W55 ne_b3_b44
  have f57 := f51.other W55 ne_b17_b44
  have f58 := f52.other W55 ne_b31_b44
  have K55 : Keep h0 h55 [] := K49.wr W55 (Or.inr sz_b44)
  have Zs55 := Nat.le_trans Zs49 (Keep.of_wr W55).1
  have N55 := Fr.snoc X55 N49 g_b44
  have f59 : Arv Z h55 b44 k44 .double (2 : Int32) [(.double d2), (.double (FP.i2d u3))] (.double (0 : UInt64)) := Arv.set Arq54 qq54 Sq54 Nq54 Hq54 Gq54 rfl W55 1 rfl (Nat.le_of_ble_eq_true rfl)
  obtain ⟨T60, h60, k60, X60, e60, E60, A60, st60⟩ := newP X55 hx hZ (hw _ (List.mem_of_getElem? (i := 4) rfl)) e55 (g := (mkF m 154 #[.val (.int p0), .val (.int p1), .val (.int p2), .val (.int p3), .val (.int p4), .val (.int ra), .val (.int rb), .val (.int rc), .val (.int (2 : Int32)), .val (.double d1), .second, .val (.double d2), .second, .val (.ref b3), .val (.ref b17), .val (.ref b31), .val (.ref b44), .unset, .unset, .unset] [(.int (3 : Int32))])) rfl (hb hby at_154) rfl (by decide) (cap := 3) (by decide) (by decide) (by decide) (by decide)
  obtain ⟨b60, g60⟩ : ∃ z, z = h55.size := ⟨_, rfl⟩
  rw [← g60] at A60 st60
  have ne_b3_b60 : b3 ≠ b60 := Nat.ne_of_lt (Nat.lt_of_lt_of_le f56.lt (Nat.le_of_eq g60.symm))
  have ne_b17_b60 : b17 ≠ b60 := Nat.ne_of_lt (Nat.lt_of_lt_of_le f57.lt (Nat.le_of_eq g60.symm))
  have ne_b31_b60 : b31 ≠ b60 := Nat.ne_of_lt (Nat.lt_of_lt_of_le f58.lt (Nat.le_of_eq g60.symm))
  have ne_b44_b60 : b44 ≠ b60 := Nat.ne_of_lt (Nat.lt_of_lt_of_le f59.lt (Nat.le_of_eq g60.symm))
  have g_b60 : n0 ≤ b60 := Nat.le_trans Zs55 (Nat.le_of_eq g60.symm)
  have sz_b60 : h0.size ≤ b60 := Nat.le_trans K55.1 (Nat.le_of_eq g60.symm)
  have f61 := f56.ext E60
  have f62 := f57.ext E60
  have f63 := f58.ext E60
  have f64 := f59.ext E60
  have K60 : Keep h0 h60 [] := K55.ext E60
  have Zs60 := Nat.le_trans Zs55 E60.1
  have V60 : Arv Z h60 b60 k60 .double (3 : Int32) [(.double (0 : UInt64)), (.double (0 : UInt64)), (.double (0 : UInt64))] (.double (0 : UInt64)) := (Arv.new A60 (by decide)).pad (pad_rep [] (.double (0 : UInt64)) 3)
  obtain ⟨cq65, Arq65, qq65, Sq65, Nq65, Hq65, Gq65⟩ := id V60
  obtain ⟨T66, h66, X66, e66, W66, st66⟩ := stD X60 hx hZ e60 Arq65 (j := (0 : Int32)) (inb_of Sq65 ⟨by decide, by decide⟩) (g := (mkF m 160 #[.val (.int p0), .val (.int p1), .val (.int p2), .val (.int p3), .val (.int p4), .val (.int ra), .val (.int rb), .val (.int rc), .val (.int (2 : Int32)), .val (.double d1), .second, .val (.double d2), .second, .val (.ref b3), .val (.ref b17), .val (.ref b31), .val (.ref b44), .unset, .unset, .unset] [(.double (FP.i2d p0)), (.int (0 : Int32)), (.ref b60), (.ref b60)])) rfl rfl (hb hby at_160)
  have f67 := f61.other W66 ne_b3_b60
  have f68 := f62.other W66 ne_b17_b60
  have f69 := f63.other W66 ne_b31_b60
  have f70 := f64.other W66 ne_b44_b60
  have K66 : Keep h0 h66 [] := K60.wr W66 (Or.inr sz_b60)
  have Zs66 := Nat.le_trans Zs60 (Keep.of_wr W66).1
  have N66 := Fr.snoc X66 N55 g_b60
  have f71 : Arv Z h66 b60 k60 .double (3 : Int32) [(.double (FP.i2d p0)), (.double (0 : UInt64)), (.double (0 : UInt64))] (.double (0 : UInt64)) := Arv.set Arq65 qq65 Sq65 Nq65 Hq65 Gq65 rfl W66 0 rfl (Nat.le_of_ble_eq_true rfl)
  obtain ⟨cq72, Arq72, qq72, Sq72, Nq72, Hq72, Gq72⟩ := id f71
  obtain ⟨T73, h73, X73, e73, W73, st73⟩ := stD X66 hx hZ e66 Arq72 (j := (1 : Int32)) (inb_of Sq72 ⟨by decide, by decide⟩) (g := (mkF m 165 #[.val (.int p0), .val (.int p1), .val (.int p2), .val (.int p3), .val (.int p4), .val (.int ra), .val (.int rb), .val (.int rc), .val (.int (2 : Int32)), .val (.double d1), .second, .val (.double d2), .second, .val (.ref b3), .val (.ref b17), .val (.ref b31), .val (.ref b44), .unset, .unset, .unset] [(.double (FP.i2d p1)), (.int (1 : Int32)), (.ref b60), (.ref b60)])) rfl rfl (hb hby at_165)
  have f74 := f67.other W73 ne_b3_b60
  have f75 := f68.other W73 ne_b17_b60
  have f76 := f69.other W73 ne_b31_b60
  have f77 := f70.other W73 ne_b44_b60
  have K73 : Keep h0 h73 [] := K66.wr W73 (Or.inr sz_b60)
  have Zs73 := Nat.le_trans Zs66 (Keep.of_wr W73).1
  have N73 := Fr.snoc X73 N66 g_b60
  have f78 : Arv Z h73 b60 k60 .double (3 : Int32) [(.double (FP.i2d p0)), (.double (FP.i2d p1)), (.double (0 : UInt64))] (.double (0 : UInt64)) := Arv.set Arq72 qq72 Sq72 Nq72 Hq72 Gq72 rfl W73 1 rfl (Nat.le_of_ble_eq_true rfl)
  obtain ⟨cq79, Arq79, qq79, Sq79, Nq79, Hq79, Gq79⟩ := id f78
  obtain ⟨T80, h80, X80, e80, W80, st80⟩ := stD X73 hx hZ e73 Arq79 (j := (2 : Int32)) (inb_of Sq79 ⟨by decide, by decide⟩) (g := (mkF m 170 #[.val (.int p0), .val (.int p1), .val (.int p2), .val (.int p3), .val (.int p4), .val (.int ra), .val (.int rb), .val (.int rc), .val (.int (2 : Int32)), .val (.double d1), .second, .val (.double d2), .second, .val (.ref b3), .val (.ref b17), .val (.ref b31), .val (.ref b44), .unset, .unset, .unset] [(.double (FP.i2d p2)), (.int (2 : Int32)), (.ref b60), (.ref b60)])) rfl rfl (hb hby at_170)
  have f81 := f74.other W80 ne_b3_b60
  have f82 := f75.other W80 ne_b17_b60
  have f83 := f76.other W80 ne_b31_b60
  have f84 := f77.other W80 ne_b44_b60
  have K80 : Keep h0 h80 [] := K73.wr W80 (Or.inr sz_b60)
  have Zs80 := Nat.le_trans Zs73 (Keep.of_wr W80).1
  have N80 := Fr.snoc X80 N73 g_b60
  have f85 : Arv Z h80 b60 k60 .double (3 : Int32) [(.double (FP.i2d p0)), (.double (FP.i2d p1)), (.double (FP.i2d p2))] (.double (0 : UInt64)) := Arv.set Arq79 qq79 Sq79 Nq79 Hq79 Gq79 rfl W80 2 rfl (Nat.le_of_ble_eq_true rfl)
  obtain ⟨T86, h86, k86, X86, e86, E86, A86, st86⟩ := newP X80 hx hZ (hw _ (List.mem_of_getElem? (i := 4) rfl)) e80 (g := (mkF m 174 #[.val (.int p0), .val (.int p1), .val (.int p2), .val (.int p3), .val (.int p4), .val (.int ra), .val (.int rb), .val (.int rc), .val (.int (2 : Int32)), .val (.double d1), .second, .val (.double d2), .second, .val (.ref b3), .val (.ref b17), .val (.ref b31), .val (.ref b44), .val (.ref b60), .unset, .unset] [(.int (3 : Int32))])) rfl (hb hby at_174) rfl (by decide) (cap := 3) (by decide) (by decide) (by decide) (by decide)
  obtain ⟨b86, g86⟩ : ∃ z, z = h80.size := ⟨_, rfl⟩
  rw [← g86] at A86 st86
  have ne_b3_b86 : b3 ≠ b86 := Nat.ne_of_lt (Nat.lt_of_lt_of_le f81.lt (Nat.le_of_eq g86.symm))
  have ne_b17_b86 : b17 ≠ b86 := Nat.ne_of_lt (Nat.lt_of_lt_of_le f82.lt (Nat.le_of_eq g86.symm))
  have ne_b31_b86 : b31 ≠ b86 := Nat.ne_of_lt (Nat.lt_of_lt_of_le f83.lt (Nat.le_of_eq g86.symm))
  have ne_b44_b86 : b44 ≠ b86 := Nat.ne_of_lt (Nat.lt_of_lt_of_le f84.lt (Nat.le_of_eq g86.symm))
  have ne_b60_b86 : b60 ≠ b86 := Nat.ne_of_lt (Nat.lt_of_lt_of_le f85.lt (Nat.le_of_eq g86.symm))
  have g_b86 : n0 ≤ b86 := Nat.le_trans Zs80 (Nat.le_of_eq g86.symm)
  have sz_b86 : h0.size ≤ b86 := Nat.le_trans K80.1 (Nat.le_of_eq g86.symm)
  have f87 := f81.ext E86
  have f88 := f82.ext E86
  have f89 := f83.ext E86
  have f90 := f84.ext E86
  have f91 := f85.ext E86
  have K86 : Keep h0 h86 [] := K80.ext E86
  have Zs86 := Nat.le_trans Zs80 E86.1
  have V86 : Arv Z h86 b86 k86 .double (3 : Int32) [(.double (0 : UInt64)), (.double (0 : UInt64)), (.double (0 : UInt64))] (.double (0 : UInt64)) := (Arv.new A86 (by decide)).pad (pad_rep [] (.double (0 : UInt64)) 3)
  obtain ⟨cq92, Arq92, qq92, Sq92, Nq92, Hq92, Gq92⟩ := id V86
  obtain ⟨T93, h93, X93, e93, W93, st93⟩ := stD X86 hx hZ e86 Arq92 (j := (0 : Int32)) (inb_of Sq92 ⟨by decide, by decide⟩) (g := (mkF m 180 #[.val (.int p0), .val (.int p1), .val (.int p2), .val (.int p3), .val (.int p4), .val (.int ra), .val (.int rb), .val (.int rc), .val (.int (2 : Int32)), .val (.double d1), .second, .val (.double d2), .second, .val (.ref b3), .val (.ref b17), .val (.ref b31), .val (.ref b44), .val (.ref b60), .unset, .unset] [(.double (FP.i2d p0)), (.int (0 : Int32)), (.ref b86), (.ref b86)])) rfl rfl (hb hby at_180)
  have f94 := f87.other W93 ne_b3_b86
  have f95 := f88.other W93 ne_b17_b86
  have f96 := f89.other W93 ne_b31_b86
  have f97 := f90.other W93 ne_b44_b86
  have f98 := f91.other W93 ne_b60_b86
  have K93 : Keep h0 h93 [] := K86.wr W93 (Or.inr sz_b86)
  have Zs93 := Nat.le_trans Zs86 (Keep.of_wr W93).1
  have N93 := Fr.snoc X93 N80 g_b86
  have f99 : Arv Z h93 b86 k86 .double (3 : Int32) [(.double (FP.i2d p0)), (.double (0 : UInt64)), (.double (0 : UInt64))] (.double (0 : UInt64)) := Arv.set Arq92 qq92 Sq92 Nq92 Hq92 Gq92 rfl W93 0 rfl (Nat.le_of_ble_eq_true rfl)
  obtain ⟨cq100, Arq100, qq100, Sq100, Nq100, Hq100, Gq100⟩ := id f99
  obtain ⟨T101, h101, X101, e101, W101, st101⟩ := stD X93 hx hZ e93 Arq100 (j := (1 : Int32)) (inb_of Sq100 ⟨by decide, by decide⟩) (g := (mkF m 185 #[.val (.int p0), .val (.int p1), .val (.int p2), .val (.int p3), .val (.int p4), .val (.int ra), .val (.int rb), .val (.int rc), .val (.int (2 : Int32)), .val (.double d1), .second, .val (.double d2), .second, .val (.ref b3), .val (.ref b17), .val (.ref b31), .val (.ref b44), .val (.ref b60), .unset, .unset] [(.double (FP.i2d p1)), (.int (1 : Int32)), (.ref b86), (.ref b86)])) rfl rfl (hb hby at_185)
  have f102 := f94.other W101 ne_b3_b86
  have f103 := f95.other W101 ne_b17_b86
  have f104 := f96.other W101 ne_b31_b86
  have f105 := f97.other W101 ne_b44_b86
  have f106 := f98.other W101 ne_b60_b86
  have K101 : Keep h0 h101 [] := K93.wr W101 (Or.inr sz_b86)
  have Zs101 := Nat.le_trans Zs93 (Keep.of_wr W101).1
  have N101 := Fr.snoc X101 N93 g_b86
  have f107 : Arv Z h101 b86 k86 .double (3 : Int32) [(.double (FP.i2d p0)), (.double (FP.i2d p1)), (.double (0 : UInt64))] (.double (0 : UInt64)) := Arv.set Arq100 qq100 Sq100 Nq100 Hq100 Gq100 rfl W101 1 rfl (Nat.le_of_ble_eq_true rfl)
  obtain ⟨cq108, Arq108, qq108, Sq108, Nq108, Hq108, Gq108⟩ := id f107
  obtain ⟨T109, h109, X109, e109, W109, st109⟩ := stD X101 hx hZ e101 Arq108 (j := (2 : Int32)) (inb_of Sq108 ⟨by decide, by decide⟩) (g := (mkF m 190 #[.val (.int p0), .val (.int p1), .val (.int p2), .val (.int p3), .val (.int p4), .val (.int ra), .val (.int rb), .val (.int rc), .val (.int (2 : Int32)), .val (.double d1), .second, .val (.double d2), .second, .val (.ref b3), .val (.ref b17), .val (.ref b31), .val (.ref b44), .val (.ref b60), .unset, .unset] [(.double (FP.i2d p2)), (.int (2 : Int32)), (.ref b86), (.ref b86)])) rfl rfl (hb hby at_190)
  have f110 := f102.other W109 ne_b3_b86
  have f111 := f103.other W109 ne_b17_b86
  have f112 := f104.other W109 ne_b31_b86
  have f113 := f105.other W109 ne_b44_b86
  have f114 := f106.other W109 ne_b60_b86
  have K109 : Keep h0 h109 [] := K101.wr W109 (Or.inr sz_b86)
  have Zs109 := Nat.le_trans Zs101 (Keep.of_wr W109).1
  have N109 := Fr.snoc X109 N101 g_b86
  have f115 : Arv Z h109 b86 k86 .double (3 : Int32) [(.double (FP.i2d p0)), (.double (FP.i2d p1)), (.double (FP.i2d p2))] (.double (0 : UInt64)) := Arv.set Arq108 qq108 Sq108 Nq108 Hq108 Gq108 rfl W109 2 rfl (Nat.le_of_ble_eq_true rfl)
  obtain ⟨T116, h116, X116, e116, E116, A116, D116, -, st116⟩ := newO X109 hx hZ hown (hw _ (List.mem_of_getElem? (i := 6) rfl)) (hw _ (List.mem_of_getElem? (i := 7) rfl)) (hw _ (List.mem_of_getElem? (i := 8) rfl)) e109 (g := (mkF m 193 #[.val (.int p0), .val (.int p1), .val (.int p2), .val (.int p3), .val (.int p4), .val (.int ra), .val (.int rb), .val (.int rc), .val (.int (2 : Int32)), .val (.double d1), .second, .val (.double d2), .second, .val (.ref b3), .val (.ref b17), .val (.ref b31), .val (.ref b44), .val (.ref b60), .val (.ref b86), .unset] [])) rfl (hb hby at_193) (by decide) (by decide)
  obtain ⟨b116, g116⟩ : ∃ z, z = h109.size := ⟨_, rfl⟩
  rw [← g116] at A116 D116 st116
  have ne_b3_b116 : b3 ≠ b116 := Nat.ne_of_lt (Nat.lt_of_lt_of_le f110.lt (Nat.le_of_eq g116.symm))
  have ne_b17_b116 : b17 ≠ b116 := Nat.ne_of_lt (Nat.lt_of_lt_of_le f111.lt (Nat.le_of_eq g116.symm))
  have ne_b31_b116 : b31 ≠ b116 := Nat.ne_of_lt (Nat.lt_of_lt_of_le f112.lt (Nat.le_of_eq g116.symm))
  have ne_b44_b116 : b44 ≠ b116 := Nat.ne_of_lt (Nat.lt_of_lt_of_le f113.lt (Nat.le_of_eq g116.symm))
  have ne_b60_b116 : b60 ≠ b116 := Nat.ne_of_lt (Nat.lt_of_lt_of_le f114.lt (Nat.le_of_eq g116.symm))
  have ne_b86_b116 : b86 ≠ b116 := Nat.ne_of_lt (Nat.lt_of_lt_of_le f115.lt (Nat.le_of_eq g116.symm))
  have g_b116 : n0 ≤ b116 := Nat.le_trans Zs109 (Nat.le_of_eq g116.symm)
  have sz_b116 : h0.size ≤ b116 := Nat.le_trans K109.1 (Nat.le_of_eq g116.symm)
  have f117 := f110.ext E116
  have f118 := f111.ext E116
  have f119 := f112.ext E116
  have f120 := f113.ext E116
  have f121 := f114.ext E116
  have f122 := f115.ext E116
  have K116 : Keep h0 h116 [] := K109.ext E116
  have Zs116 := Nat.le_trans Zs109 E116.1
  have F116_pivotRows : Fld Z h116 b116 "com/example/leeway/leeway/lp/BasisInverse" "pivotRows" "[I" .null := D116 (Or.inl (hw _ (List.mem_of_getElem? (i := 16) rfl))) (ty := (.array .int)) (by decide)
  have F116_pivots : Fld Z h116 b116 "com/example/leeway/leeway/lp/BasisInverse" "pivots" "[D" .null := D116 (Or.inl (hw _ (List.mem_of_getElem? (i := 18) rfl))) (ty := (.array .double)) (by decide)
  have F116_termStart : Fld Z h116 b116 "com/example/leeway/leeway/lp/BasisInverse" "termStart" "[I" .null := D116 (Or.inl (hw _ (List.mem_of_getElem? (i := 20) rfl))) (ty := (.array .int)) (by decide)
  have F116_termRows : Fld Z h116 b116 "com/example/leeway/leeway/lp/BasisInverse" "termRows" "[I" .null := D116 (Or.inl (hw _ (List.mem_of_getElem? (i := 22) rfl))) (ty := (.array .int)) (by decide)
  have F116_termValues : Fld Z h116 b116 "com/example/leeway/leeway/lp/BasisInverse" "termValues" "[D" .null := D116 (Or.inl (hw _ (List.mem_of_getElem? (i := 24) rfl))) (ty := (.array .double)) (by decide)
  have F116_count : Fld Z h116 b116 "com/example/leeway/leeway/lp/BasisInverse" "count" "I" (.int (0 : Int32)) := D116 (Or.inl (hw _ (List.mem_of_getElem? (i := 31) rfl))) (ty := .int) (by decide)
  obtain ⟨_, _, ⟨T123, L123, k123, n123⟩, -, X123, ⟨Lc123, hQ123, lq123, yq123, zq123⟩, st123⟩ := X116.specialBack hx (y := (⟨"com/example/leeway/leeway/lp/BasisInverse", "<init>", "()V"⟩ : MethodName)) rfl hown (mvT hZ (hw _ (List.mem_of_getElem? (i := 9) rfl))) (mvT hZ (hw _ (List.mem_of_getElem? (i := 10) rfl))) (mvT hZ (hw _ (List.mem_of_getElem? (i := 11) rfl))) (by decide) (backOf (W := 1) (ini l Z a0 hw [] b116 h116 n0 Zs116 g_b116 A116 F116_pivotRows F116_pivots F116_termStart F116_termRows F116_termValues F116_count) hZ (hw _ (List.mem_of_getElem? (i := 11) rfl)) (hw _ (List.mem_of_getElem? (i := 8) rfl)) (by decide) (by decide)) (g := (mkF m 197 #[.val (.int p0), .val (.int p1), .val (.int p2), .val (.int p3), .val (.int p4), .val (.int ra), .val (.int rb), .val (.int rc), .val (.int (2 : Int32)), .val (.double d1), .second, .val (.double d2), .second, .val (.ref b3), .val (.ref b17), .val (.ref b31), .val (.ref b44), .val (.ref b60), .val (.ref b86), .unset] [(.ref b116), (.ref b116)])) rfl (by rw [hml]; rfl) (Steps.refl _) (a := b116) (argsL := []) (rest := [(.ref b116)]) (lenOf pd_3 rfl) rfl (by show 2 * 0 + _ ≤ _; exact Nat.le_of_eq rfl) (hb hby at_197) (fun _ _ => ⟨rfl, e116, (by decide : 7 + 5 ≤ _), (by decide : 22 + 177 ≤ _)⟩)
  dsimp only [Pt.U, Pt.locs, Pt.cells, Pt.slots] at X123 lq123 yq123 zq123 st123 hQ123
  rw [lq123, yq123, zq123] at X123
  obtain ⟨b2_123, b19_123, b38_123, b59_123, b82_123, k2_123, k19_123, k38_123, k59_123, k82_123, rfl, N123q, K123q, r124, r125, r126, r127, r128, r129, r130, r131, r132, r133, r134, r135, r136, r137, r138, f139, f140, f141, f142, f143, f144, f145, f146, f147, f148, f149, f150⟩ := hQ123
  have N123 := Fr.app N109 N123q
  have ne_b3_b2_123 : b3 ≠ b2_123 := Nat.ne_of_lt (Nat.lt_of_lt_of_le f117.lt r124)
  have ne_b17_b2_123 : b17 ≠ b2_123 := Nat.ne_of_lt (Nat.lt_of_lt_of_le f118.lt r124)
  have ne_b31_b2_123 : b31 ≠ b2_123 := Nat.ne_of_lt (Nat.lt_of_lt_of_le f119.lt r124)
  have ne_b44_b2_123 : b44 ≠ b2_123 := Nat.ne_of_lt (Nat.lt_of_lt_of_le f120.lt r124)
  have ne_b60_b2_123 : b60 ≠ b2_123 := Nat.ne_of_lt (Nat.lt_of_lt_of_le f121.lt r124)
  have ne_b86_b2_123 : b86 ≠ b2_123 := Nat.ne_of_lt (Nat.lt_of_lt_of_le f122.lt r124)
  have ne_b116_b2_123 : b116 ≠ b2_123 := Nat.ne_of_lt (Nat.lt_of_lt_of_le A116.lt r124)
  have g_b2_123 : n0 ≤ b2_123 := Nat.le_trans Zs116 r124
  have sz_b2_123 : h0.size ≤ b2_123 := Nat.le_trans K116.1 r124
  have ne_b3_b19_123 : b3 ≠ b19_123 := Nat.ne_of_lt (Nat.lt_of_lt_of_le f117.lt r125)
  have ne_b17_b19_123 : b17 ≠ b19_123 := Nat.ne_of_lt (Nat.lt_of_lt_of_le f118.lt r125)
  have ne_b31_b19_123 : b31 ≠ b19_123 := Nat.ne_of_lt (Nat.lt_of_lt_of_le f119.lt r125)
  have ne_b44_b19_123 : b44 ≠ b19_123 := Nat.ne_of_lt (Nat.lt_of_lt_of_le f120.lt r125)
  have ne_b60_b19_123 : b60 ≠ b19_123 := Nat.ne_of_lt (Nat.lt_of_lt_of_le f121.lt r125)
  have ne_b86_b19_123 : b86 ≠ b19_123 := Nat.ne_of_lt (Nat.lt_of_lt_of_le f122.lt r125)
  have ne_b116_b19_123 : b116 ≠ b19_123 := Nat.ne_of_lt (Nat.lt_of_lt_of_le A116.lt r125)
  have g_b19_123 : n0 ≤ b19_123 := Nat.le_trans Zs116 r125
  have sz_b19_123 : h0.size ≤ b19_123 := Nat.le_trans K116.1 r125
  have ne_b3_b38_123 : b3 ≠ b38_123 := Nat.ne_of_lt (Nat.lt_of_lt_of_le f117.lt r126)
  have ne_b17_b38_123 : b17 ≠ b38_123 := Nat.ne_of_lt (Nat.lt_of_lt_of_le f118.lt r126)
  have ne_b31_b38_123 : b31 ≠ b38_123 := Nat.ne_of_lt (Nat.lt_of_lt_of_le f119.lt r126)
  have ne_b44_b38_123 : b44 ≠ b38_123 := Nat.ne_of_lt (Nat.lt_of_lt_of_le f120.lt r126)
  have ne_b60_b38_123 : b60 ≠ b38_123 := Nat.ne_of_lt (Nat.lt_of_lt_of_le f121.lt r126)
  have ne_b86_b38_123 : b86 ≠ b38_123 := Nat.ne_of_lt (Nat.lt_of_lt_of_le f122.lt r126)
  have ne_b116_b38_123 : b116 ≠ b38_123 := Nat.ne_of_lt (Nat.lt_of_lt_of_le A116.lt r126)
  have g_b38_123 : n0 ≤ b38_123 := Nat.le_trans Zs116 r126
  have sz_b38_123 : h0.size ≤ b38_123 := Nat.le_trans K116.1 r126
  have ne_b3_b59_123 : b3 ≠ b59_123 := Nat.ne_of_lt (Nat.lt_of_lt_of_le f117.lt r127)
  have ne_b17_b59_123 : b17 ≠ b59_123 := Nat.ne_of_lt (Nat.lt_of_lt_of_le f118.lt r127)
  have ne_b31_b59_123 : b31 ≠ b59_123 := Nat.ne_of_lt (Nat.lt_of_lt_of_le f119.lt r127)
  have ne_b44_b59_123 : b44 ≠ b59_123 := Nat.ne_of_lt (Nat.lt_of_lt_of_le f120.lt r127)
  have ne_b60_b59_123 : b60 ≠ b59_123 := Nat.ne_of_lt (Nat.lt_of_lt_of_le f121.lt r127)
  have ne_b86_b59_123 : b86 ≠ b59_123 := Nat.ne_of_lt (Nat.lt_of_lt_of_le f122.lt r127)
  have ne_b116_b59_123 : b116 ≠ b59_123 := Nat.ne_of_lt (Nat.lt_of_lt_of_le A116.lt r127)
  have g_b59_123 : n0 ≤ b59_123 := Nat.le_trans Zs116 r127
  have sz_b59_123 : h0.size ≤ b59_123 := Nat.le_trans K116.1 r127
  have ne_b3_b82_123 : b3 ≠ b82_123 := Nat.ne_of_lt (Nat.lt_of_lt_of_le f117.lt r128)
  have ne_b17_b82_123 : b17 ≠ b82_123 := Nat.ne_of_lt (Nat.lt_of_lt_of_le f118.lt r128)
  have ne_b31_b82_123 : b31 ≠ b82_123 := Nat.ne_of_lt (Nat.lt_of_lt_of_le f119.lt r128)
  have ne_b44_b82_123 : b44 ≠ b82_123 := Nat.ne_of_lt (Nat.lt_of_lt_of_le f120.lt r128)
  have ne_b60_b82_123 : b60 ≠ b82_123 := Nat.ne_of_lt (Nat.lt_of_lt_of_le f121.lt r128)
  have ne_b86_b82_123 : b86 ≠ b82_123 := Nat.ne_of_lt (Nat.lt_of_lt_of_le f122.lt r128)
  have ne_b116_b82_123 : b116 ≠ b82_123 := Nat.ne_of_lt (Nat.lt_of_lt_of_le A116.lt r128)
  have g_b82_123 : n0 ≤ b82_123 := Nat.le_trans Zs116 r128
  have sz_b82_123 : h0.size ≤ b82_123 := Nat.le_trans K116.1 r128
  have f151 := f117.keep K123q (own_niS ne_b3_b116 own_ni0)
  have f152 := f118.keep K123q (own_niS ne_b17_b116 own_ni0)
  have f153 := f119.keep K123q (own_niS ne_b31_b116 own_ni0)
  have f154 := f120.keep K123q (own_niS ne_b44_b116 own_ni0)
  have f155 := f121.keep K123q (own_niS ne_b60_b116 own_ni0)
  have f156 := f122.keep K123q (own_niS ne_b86_b116 own_ni0)
  have f157 := A116.keep K123q
  have K123 : Keep h0 T123.heap [] := K116.trans K123q (own_allS (Or.inr sz_b116) own_all0)
  have Zs123 := Nat.le_trans Zs116 K123q.1
  obtain ⟨cq158, kq158, q158a, q158b, q158c⟩ := isOf hZ rfl f139
  obtain ⟨_, _, ⟨T158, L158, k158, n158⟩, -, X158, ⟨Lc158, hQ158, lq158, yq158, zq158⟩, st158⟩ := X123.virtualBack hx (y := (⟨"com/example/leeway/leeway/lp/BasisInverse", "replace", "(I[I[D)V"⟩ : MethodName)) (z := (⟨"com/example/leeway/leeway/lp/BasisInverse", "replace", "(I[I[D)V"⟩ : MethodName)) hown (mvT hZ (hw _ (List.mem_of_getElem? (i := 36) rfl))) (mvT hZ (hw _ (List.mem_of_getElem? (i := 37) rfl))) (notFace_of_selects (args := #[]) (mvT hZ (hw _ (List.mem_of_getElem? (i := 39) rfl)))) (mvT hZ (hw _ (List.mem_of_getElem? (i := 39) rfl))) (mvT hZ (hw _ (List.mem_of_getElem? (i := 38) rfl))) (by decide) (backOf (W := 0) (rp1 l Z a0 hw [] b116 b2_123 b19_123 b38_123 b59_123 b82_123 k2_123 k19_123 k38_123 k59_123 k82_123 b17 b3 k17 k3 v0 v1 v2 ra pe1 tx ty va vb T123.heap n0 Zs123 f140 f141 f142 f143 f144 f145 f139 f146 f147 f148 f149 f150 g_b116 g_b2_123 g_b19_123 g_b38_123 g_b59_123 g_b82_123 ne_b116_b2_123 ne_b116_b19_123 ne_b116_b38_123 ne_b116_b59_123 ne_b116_b82_123 r129 r130 r131 r132 r133 r134 r135 r136 r137 r138 f152 f151 (Ne.symm ne_b17_b116) (Ne.symm ne_b3_b116) (Ne.symm ne_b17_b2_123) (Ne.symm ne_b3_b2_123) (Ne.symm ne_b17_b19_123) (Ne.symm ne_b3_b19_123) (Ne.symm ne_b17_b38_123) (Ne.symm ne_b3_b38_123) (Ne.symm ne_b17_b59_123) (Ne.symm ne_b3_b59_123) (Ne.symm ne_b17_b82_123) (Ne.symm ne_b3_b82_123) hcase_216) hZ (hw _ (List.mem_of_getElem? (i := 40) rfl)) (hw _ (List.mem_of_getElem? (i := 8) rfl)) (by decide) (by decide)) q158a q158c (g := (mkF m 216 #[.val (.int p0), .val (.int p1), .val (.int p2), .val (.int p3), .val (.int p4), .val (.int ra), .val (.int rb), .val (.int rc), .val (.int (2 : Int32)), .val (.double d1), .second, .val (.double d2), .second, .val (.ref b3), .val (.ref b17), .val (.ref b31), .val (.ref b44), .val (.ref b60), .val (.ref b86), .val (.ref b116)] [(.ref b3), (.ref b17), (.int ra), (.ref b116)])) rfl (by rw [hml]; rfl) (Steps.refl _) (argsL := [(.int ra), (.ref b17), (.ref b3)]) (rest := []) (lenOf pd_6 rfl) rfl (by show 2 * 0 + _ ≤ _; exact Nat.le_of_eq rfl) (hb hby at_216) (fun _ _ => ⟨rfl, rfl, (by decide : 12 + 0 ≤ _), (by decide : 199 + 0 ≤ _)⟩)
  dsimp only [Pt.U, Pt.locs, Pt.cells, Pt.slots] at X158 lq158 yq158 zq158 st158 hQ158
  rw [lq158, yq158, zq158] at X158
  obtain ⟨rfl, N158q, K158q, f159, f160, f161, f162, f163, f164, f165, f166, f167, f168, f169, f170⟩ := hQ158
  have N158 := Fr.app N123 N158q
  have f171 := f151.keep K158q (own_niS ne_b3_b82_123 (own_niS ne_b3_b59_123 (own_niS ne_b3_b38_123 (own_niS ne_b3_b116 (own_niS ne_b3_b19_123 (own_niS ne_b3_b2_123 own_ni0))))))
  have f172 := f152.keep K158q (own_niS ne_b17_b82_123 (own_niS ne_b17_b59_123 (own_niS ne_b17_b38_123 (own_niS ne_b17_b116 (own_niS ne_b17_b19_123 (own_niS ne_b17_b2_123 own_ni0))))))
  have f173 := f153.keep K158q (own_niS ne_b31_b82_123 (own_niS ne_b31_b59_123 (own_niS ne_b31_b38_123 (own_niS ne_b31_b116 (own_niS ne_b31_b19_123 (own_niS ne_b31_b2_123 own_ni0))))))
  have f174 := f154.keep K158q (own_niS ne_b44_b82_123 (own_niS ne_b44_b59_123 (own_niS ne_b44_b38_123 (own_niS ne_b44_b116 (own_niS ne_b44_b19_123 (own_niS ne_b44_b2_123 own_ni0))))))
  have f175 := f155.keep K158q (own_niS ne_b60_b82_123 (own_niS ne_b60_b59_123 (own_niS ne_b60_b38_123 (own_niS ne_b60_b116 (own_niS ne_b60_b19_123 (own_niS ne_b60_b2_123 own_ni0))))))
  have f176 := f156.keep K158q (own_niS ne_b86_b82_123 (own_niS ne_b86_b59_123 (own_niS ne_b86_b38_123 (own_niS ne_b86_b116 (own_niS ne_b86_b19_123 (own_niS ne_b86_b2_123 own_ni0))))))
  have f177 := f139.keep K158q
  have K158 : Keep h0 T158.heap [] := K123.trans K158q (own_allS (Or.inr sz_b82_123) (own_allS (Or.inr sz_b59_123) (own_allS (Or.inr sz_b38_123) (own_allS (Or.inr sz_b116) (own_allS (Or.inr sz_b19_123) (own_allS (Or.inr sz_b2_123) own_all0))))))
  have Zs158 := Nat.le_trans Zs123 K158q.1
  obtain ⟨cq178, kq178, q178a, q178b, q178c⟩ := isOf hZ rfl f159
  obtain ⟨_, _, ⟨T178, L178, k178, n178⟩, -, X178, ⟨Lc178, hQ178, lq178, yq178, zq178⟩, st178⟩ := X158.virtualBack hx (y := (⟨"com/example/leeway/leeway/lp/BasisInverse", "replace", "(I[I[D)V"⟩ : MethodName)) (z := (⟨"com/example/leeway/leeway/lp/BasisInverse", "replace", "(I[I[D)V"⟩ : MethodName)) hown (mvT hZ (hw _ (List.mem_of_getElem? (i := 36) rfl))) (mvT hZ (hw _ (List.mem_of_getElem? (i := 37) rfl))) (notFace_of_selects (args := #[]) (mvT hZ (hw _ (List.mem_of_getElem? (i := 39) rfl)))) (mvT hZ (hw _ (List.mem_of_getElem? (i := 39) rfl))) (mvT hZ (hw _ (List.mem_of_getElem? (i := 38) rfl))) (by decide) (backOf (W := 0) (rp2 l Z a0 hw [] b116 b2_123 b19_123 b38_123 b59_123 b82_123 k2_123 k19_123 k38_123 k59_123 k82_123 ra pe1 tx ty va vb b31 b44 k31 k44 rb rc d2 (FP.i2d u3) T158.heap n0 Zs158 f160 f161 f162 f163 f164 f165 f159 f166 f167 f168 f169 f170 g_b116 g_b2_123 g_b19_123 g_b38_123 g_b59_123 g_b82_123 ne_b116_b2_123 ne_b116_b19_123 ne_b116_b38_123 ne_b116_b59_123 ne_b116_b82_123 r129 r130 r131 r132 r133 r134 r135 r136 r137 r138 f173 f174 (Ne.symm ne_b31_b116) (Ne.symm ne_b44_b116) (Ne.symm ne_b31_b2_123) (Ne.symm ne_b44_b2_123) (Ne.symm ne_b31_b19_123) (Ne.symm ne_b44_b19_123) (Ne.symm ne_b31_b38_123) (Ne.symm ne_b44_b38_123) (Ne.symm ne_b31_b59_123) (Ne.symm ne_b44_b59_123) (Ne.symm ne_b31_b82_123) (Ne.symm ne_b44_b82_123) hc29_233) hZ (hw _ (List.mem_of_getElem? (i := 40) rfl)) (hw _ (List.mem_of_getElem? (i := 8) rfl)) (by decide) (by decide)) q178a q178c (g := (mkF m 233 #[.val (.int p0), .val (.int p1), .val (.int p2), .val (.int p3), .val (.int p4), .val (.int ra), .val (.int rb), .val (.int rc), .val (.int (2 : Int32)), .val (.double d1), .second, .val (.double d2), .second, .val (.ref b3), .val (.ref b17), .val (.ref b31), .val (.ref b44), .val (.ref b60), .val (.ref b86), .val (.ref b116)] [(.ref b44), (.ref b31), (.int rb), (.ref b116)])) rfl (by rw [hml]; rfl) (Steps.refl _) (argsL := [(.int rb), (.ref b31), (.ref b44)]) (rest := []) (lenOf pd_6 rfl) rfl (by show 2 * 0 + _ ≤ _; exact Nat.le_of_eq rfl) (hb hby at_233) (fun _ _ => ⟨rfl, rfl, (by decide : 12 + 0 ≤ _), (by decide : 199 + 0 ≤ _)⟩)
  dsimp only [Pt.U, Pt.locs, Pt.cells, Pt.slots] at X178 lq178 yq178 zq178 st178 hQ178
  rw [lq178, yq178, zq178] at X178
  obtain ⟨rfl, N178q, K178q, f179, f180, f181, f182, f183, f184, f185, f186, f187, f188, f189, f190⟩ := hQ178
  have N178 := Fr.app N158 N178q
  have f191 := f171.keep K178q (own_niS ne_b3_b82_123 (own_niS ne_b3_b59_123 (own_niS ne_b3_b38_123 (own_niS ne_b3_b116 (own_niS ne_b3_b19_123 (own_niS ne_b3_b2_123 own_ni0))))))
  have f192 := f172.keep K178q (own_niS ne_b17_b82_123 (own_niS ne_b17_b59_123 (own_niS ne_b17_b38_123 (own_niS ne_b17_b116 (own_niS ne_b17_b19_123 (own_niS ne_b17_b2_123 own_ni0))))))
  have f193 := f173.keep K178q (own_niS ne_b31_b82_123 (own_niS ne_b31_b59_123 (own_niS ne_b31_b38_123 (own_niS ne_b31_b116 (own_niS ne_b31_b19_123 (own_niS ne_b31_b2_123 own_ni0))))))
  have f194 := f174.keep K178q (own_niS ne_b44_b82_123 (own_niS ne_b44_b59_123 (own_niS ne_b44_b38_123 (own_niS ne_b44_b116 (own_niS ne_b44_b19_123 (own_niS ne_b44_b2_123 own_ni0))))))
  have f195 := f175.keep K178q (own_niS ne_b60_b82_123 (own_niS ne_b60_b59_123 (own_niS ne_b60_b38_123 (own_niS ne_b60_b116 (own_niS ne_b60_b19_123 (own_niS ne_b60_b2_123 own_ni0))))))
  have f196 := f176.keep K178q (own_niS ne_b86_b82_123 (own_niS ne_b86_b59_123 (own_niS ne_b86_b38_123 (own_niS ne_b86_b116 (own_niS ne_b86_b19_123 (own_niS ne_b86_b2_123 own_ni0))))))
  have f197 := f159.keep K178q
  have K178 : Keep h0 T178.heap [] := K158.trans K178q (own_allS (Or.inr sz_b82_123) (own_allS (Or.inr sz_b59_123) (own_allS (Or.inr sz_b38_123) (own_allS (Or.inr sz_b116) (own_allS (Or.inr sz_b19_123) (own_allS (Or.inr sz_b2_123) own_all0))))))
  have Zs178 := Nat.le_trans Zs158 K178q.1
  obtain ⟨cq198, kq198, q198a, q198b, q198c⟩ := isOf hZ rfl f179
  obtain ⟨_, _, ⟨T198, L198, k198, n198⟩, -, X198, ⟨Lc198, hQ198, lq198, yq198, zq198⟩, st198⟩ := X178.virtualBack hx (y := (⟨"com/example/leeway/leeway/lp/BasisInverse", "solveTransposed", "([D)V"⟩ : MethodName)) (z := (⟨"com/example/leeway/leeway/lp/BasisInverse", "solveTransposed", "([D)V"⟩ : MethodName)) hown (mvT hZ (hw _ (List.mem_of_getElem? (i := 25) rfl))) (mvT hZ (hw _ (List.mem_of_getElem? (i := 26) rfl))) (notFace_of_selects (args := #[]) (mvT hZ (hw _ (List.mem_of_getElem? (i := 28) rfl)))) (mvT hZ (hw _ (List.mem_of_getElem? (i := 28) rfl))) (mvT hZ (hw _ (List.mem_of_getElem? (i := 27) rfl))) (by decide) (backOf (W := 0) (so2 l Z a0 hw [] b116 b2_123 b19_123 b38_123 b59_123 b82_123 k2_123 k19_123 k38_123 k59_123 k82_123 ra rb pe1 d2 tx ty rc va vb (FP.i2d u3) b86 k86 (FP.i2d p0) (FP.i2d p1) (FP.i2d p2) cb ca z0 z1 z2 cc cx cy qb qa y0 y1 y2 T178.heap n0 Zs178 f180 f181 f182 f183 f184 f185 f179 f186 f187 f188 f189 f190 f196 g_b86 (Ne.symm ne_b86_b116) (Ne.symm ne_b86_b2_123) (Ne.symm ne_b86_b19_123) (Ne.symm ne_b86_b38_123) (Ne.symm ne_b86_b59_123) (Ne.symm ne_b86_b82_123) hn_rb_240 hcb_240 hn_ra_240 hca_240 hn_rc_240 hcc_240 hn_tx_240 hcx_240 hn_ty_240 hcy_240 hl_rb_240 hl_ra_240 hz_240 hy_240 nn62_240 nn63_240 nn82_240 hq82_240 nn62_1_240 nn63_1_240 nn62_2_240 nn63_2_240 nn82_1_240 hq82_1_240) hZ (hw _ (List.mem_of_getElem? (i := 29) rfl)) (hw _ (List.mem_of_getElem? (i := 8) rfl)) (by decide) (by decide)) q198a q198c (g := (mkF m 240 #[.val (.int p0), .val (.int p1), .val (.int p2), .val (.int p3), .val (.int p4), .val (.int ra), .val (.int rb), .val (.int rc), .val (.int (2 : Int32)), .val (.double d1), .second, .val (.double d2), .second, .val (.ref b3), .val (.ref b17), .val (.ref b31), .val (.ref b44), .val (.ref b60), .val (.ref b86), .val (.ref b116)] [(.ref b86), (.ref b116)])) rfl (by rw [hml]; rfl) (Steps.refl _) (argsL := [(.ref b86)]) (rest := []) (lenOf pd_4 rfl) rfl (by show 2 * 0 + _ ≤ _; exact Nat.le_of_eq rfl) (hb hby at_240) (fun _ _ => ⟨rfl, rfl, (by decide : 12 + 0 ≤ _), (by decide : 199 + 0 ≤ _)⟩)
  dsimp only [Pt.U, Pt.locs, Pt.cells, Pt.slots] at X198 lq198 yq198 zq198 st198 hQ198
  rw [lq198, yq198, zq198] at X198
  obtain ⟨rfl, N198q, K198q, f199⟩ := hQ198
  have N198 := Fr.app N178 N198q
  have f200 := f191.keep K198q (own_niS ne_b3_b86 own_ni0)
  have f201 := f192.keep K198q (own_niS ne_b17_b86 own_ni0)
  have f202 := f193.keep K198q (own_niS ne_b31_b86 own_ni0)
  have f203 := f194.keep K198q (own_niS ne_b44_b86 own_ni0)
  have f204 := f195.keep K198q (own_niS ne_b60_b86 own_ni0)
  have f205 := f179.keep K198q
  have f206 := f180.keep K198q (own_niS (Ne.symm ne_b86_b116) own_ni0)
  have f207 := f181.keep K198q (own_niS (Ne.symm ne_b86_b116) own_ni0)
  have f208 := f182.keep K198q (own_niS (Ne.symm ne_b86_b116) own_ni0)
  have f209 := f183.keep K198q (own_niS (Ne.symm ne_b86_b116) own_ni0)
  have f210 := f184.keep K198q (own_niS (Ne.symm ne_b86_b116) own_ni0)
  have f211 := f185.keep K198q (own_niS (Ne.symm ne_b86_b116) own_ni0)
  have f212 := f186.keep K198q (own_niS (Ne.symm ne_b86_b2_123) own_ni0)
  have f213 := f187.keep K198q (own_niS (Ne.symm ne_b86_b19_123) own_ni0)
  have f214 := f188.keep K198q (own_niS (Ne.symm ne_b86_b38_123) own_ni0)
  have f215 := f189.keep K198q (own_niS (Ne.symm ne_b86_b59_123) own_ni0)
  have f216 := f190.keep K198q (own_niS (Ne.symm ne_b86_b82_123) own_ni0)
  have K198 : Keep h0 T198.heap [] := K178.trans K198q (own_allS (Or.inr sz_b86) own_all0)
  have Zs198 := Nat.le_trans Zs178 K198q.1
  obtain ⟨_, _, ⟨T217, L217, k217, n217⟩, -, X217, ⟨Lc217, hQ217, lq217, yq217, zq217⟩, st217⟩ := Jvm.LawKit.callS X198 hx (y := (⟨"com/example/leeway/leeway/lp/BasisInverseSolveTransposedPinLaw", "column", "(IIIII[D[D[D[D)Z"⟩ : MethodName)) hown (mvT hZ (hw _ (List.mem_of_getElem? (i := 32) rfl))) (mvT hZ (hw _ (List.mem_of_getElem? (i := 33) rfl))) (mvT hZ (hw _ (List.mem_of_getElem? (i := 2) rfl))) (mvT hZ (hw _ (List.mem_of_getElem? (i := 34) rfl))) (by decide) (backOf (W := 0) (col2 l Z a0 hw [] (0 : Int32) ra rb rc b86 b3 b44 b60 k86 k3 k44 k60 y0 y1 y2 v0 v1 v2 (FP.i2d p0) (FP.i2d p1) (FP.i2d p2) d2 (FP.i2d u3) (FP.i2d p0) yj0 yb yc T198.heap n0 Zs198 f199 f200 f204 f203 hjj_260 hcj_260 hcase_260) hZ (hw _ (List.mem_of_getElem? (i := 34) rfl)) (hw _ (List.mem_of_getElem? (i := 2) rfl)) (by decide) (by decide)) (g := (mkF m 260 #[.val (.int p0), .val (.int p1), .val (.int p2), .val (.int p3), .val (.int p4), .val (.int ra), .val (.int rb), .val (.int rc), .val (.int (2 : Int32)), .val (.double d1), .second, .val (.double d2), .second, .val (.ref b3), .val (.ref b17), .val (.ref b31), .val (.ref b44), .val (.ref b60), .val (.ref b86), .val (.ref b116)] [(.ref b60), (.ref b44), (.ref b3), (.ref b86), (.int rc), (.int rb), (.int ra), (.int (2 : Int32)), (.int (0 : Int32))])) rfl (by rw [hml]; rfl) (argsL := [(.int (0 : Int32)), (.int (2 : Int32)), (.int ra), (.int rb), (.int rc), (.ref b86), (.ref b3), (.ref b44), (.ref b60)]) (rest := []) (lenOf pd_5 rfl) rfl (by show 2 * 0 + _ ≤ _; exact Nat.le_of_eq rfl) (hb hby at_260) (fun _ _ => ⟨rfl, rfl, (by decide : 12 + 0 ≤ _), (by decide : 199 + 0 ≤ _)⟩)
  dsimp only [Pt.U, Pt.locs, Pt.cells, Pt.slots] at X217 lq217 yq217 zq217 st217 hQ217
  rw [lq217, yq217, zq217] at X217
  obtain ⟨rfl, N217q, eh217⟩ := hQ217
  have N217 := Fr.app N198 N217q
  have e217 : T217.heap = T198.heap := eh217
  obtain ⟨_, _, ⟨T218, L218, k218, n218⟩, -, X218, ⟨Lc218, hQ218, lq218, yq218, zq218⟩, st218⟩ := Jvm.LawKit.callS X217 hx (y := (⟨"com/example/leeway/leeway/lp/BasisInverseSolveTransposedPinLaw", "column", "(IIIII[D[D[D[D)Z"⟩ : MethodName)) hown (mvT hZ (hw _ (List.mem_of_getElem? (i := 32) rfl))) (mvT hZ (hw _ (List.mem_of_getElem? (i := 33) rfl))) (mvT hZ (hw _ (List.mem_of_getElem? (i := 2) rfl))) (mvT hZ (hw _ (List.mem_of_getElem? (i := 34) rfl))) (by decide) (backOf (W := 0) (col2 l Z a0 hw [] (1 : Int32) ra rb rc b86 b3 b44 b60 k86 k3 k44 k60 y0 y1 y2 v0 v1 v2 (FP.i2d p0) (FP.i2d p1) (FP.i2d p2) d2 (FP.i2d u3) (FP.i2d p1) yj1 yb yc T198.heap n0 Zs198 f199 f200 f204 f203 hjj_283 hcj_283 hcase_283) hZ (hw _ (List.mem_of_getElem? (i := 34) rfl)) (hw _ (List.mem_of_getElem? (i := 2) rfl)) (by decide) (by decide)) (g := (mkF m 283 #[.val (.int p0), .val (.int p1), .val (.int p2), .val (.int p3), .val (.int p4), .val (.int ra), .val (.int rb), .val (.int rc), .val (.int (2 : Int32)), .val (.double d1), .second, .val (.double d2), .second, .val (.ref b3), .val (.ref b17), .val (.ref b31), .val (.ref b44), .val (.ref b60), .val (.ref b86), .val (.ref b116)] [(.ref b60), (.ref b44), (.ref b3), (.ref b86), (.int rc), (.int rb), (.int ra), (.int (2 : Int32)), (.int (1 : Int32))])) rfl (by rw [hml]; rfl) (argsL := [(.int (1 : Int32)), (.int (2 : Int32)), (.int ra), (.int rb), (.int rc), (.ref b86), (.ref b3), (.ref b44), (.ref b60)]) (rest := []) (lenOf pd_5 rfl) rfl (by show 2 * 0 + _ ≤ _; exact Nat.le_of_eq rfl) (hb hby at_283) (fun _ _ => ⟨rfl, e217, (by decide : 12 + 0 ≤ _), (by decide : 199 + 0 ≤ _)⟩)
  dsimp only [Pt.U, Pt.locs, Pt.cells, Pt.slots] at X218 lq218 yq218 zq218 st218 hQ218
  rw [lq218, yq218, zq218] at X218
  obtain ⟨rfl, N218q, eh218⟩ := hQ218
  have N218 := Fr.app N217 N218q
  have e218 : T218.heap = T198.heap := eh218
  obtain ⟨_, _, ⟨T219, L219, k219, n219⟩, -, X219, ⟨Lc219, hQ219, lq219, yq219, zq219⟩, st219⟩ := Jvm.LawKit.callS X218 hx (y := (⟨"com/example/leeway/leeway/lp/BasisInverseSolveTransposedPinLaw", "column", "(IIIII[D[D[D[D)Z"⟩ : MethodName)) hown (mvT hZ (hw _ (List.mem_of_getElem? (i := 32) rfl))) (mvT hZ (hw _ (List.mem_of_getElem? (i := 33) rfl))) (mvT hZ (hw _ (List.mem_of_getElem? (i := 2) rfl))) (mvT hZ (hw _ (List.mem_of_getElem? (i := 34) rfl))) (by decide) (backOf (W := 0) (col2 l Z a0 hw [] (2 : Int32) ra rb rc b86 b3 b44 b60 k86 k3 k44 k60 y0 y1 y2 v0 v1 v2 (FP.i2d p0) (FP.i2d p1) (FP.i2d p2) d2 (FP.i2d u3) (FP.i2d p2) yj2 yb yc T198.heap n0 Zs198 f199 f200 f204 f203 hjj_306 hcj_306 hcase_306) hZ (hw _ (List.mem_of_getElem? (i := 34) rfl)) (hw _ (List.mem_of_getElem? (i := 2) rfl)) (by decide) (by decide)) (g := (mkF m 306 #[.val (.int p0), .val (.int p1), .val (.int p2), .val (.int p3), .val (.int p4), .val (.int ra), .val (.int rb), .val (.int rc), .val (.int (2 : Int32)), .val (.double d1), .second, .val (.double d2), .second, .val (.ref b3), .val (.ref b17), .val (.ref b31), .val (.ref b44), .val (.ref b60), .val (.ref b86), .val (.ref b116)] [(.ref b60), (.ref b44), (.ref b3), (.ref b86), (.int rc), (.int rb), (.int ra), (.int (2 : Int32)), (.int (2 : Int32))])) rfl (by rw [hml]; rfl) (argsL := [(.int (2 : Int32)), (.int (2 : Int32)), (.int ra), (.int rb), (.int rc), (.ref b86), (.ref b3), (.ref b44), (.ref b60)]) (rest := []) (lenOf pd_5 rfl) rfl (by show 2 * 0 + _ ≤ _; exact Nat.le_of_eq rfl) (hb hby at_306) (fun _ _ => ⟨rfl, e218, (by decide : 12 + 0 ≤ _), (by decide : 199 + 0 ≤ _)⟩)
  dsimp only [Pt.U, Pt.locs, Pt.cells, Pt.slots] at X219 lq219 yq219 zq219 st219 hQ219
  rw [lq219, yq219, zq219] at X219
  obtain ⟨rfl, N219q, eh219⟩ := hQ219
  have N219 := Fr.app N218 N219q
  have e219 : T219.heap = T198.heap := eh219
  obtain ⟨fs, hr, hrun, hended, hW, hsame⟩ := X219.leave (v := some (.int (1 : Int32))) (fun h => by rw [Bd.returns] at h; cases h)
  refine ⟨_, _, pre0 _ ?_, hrun, hended, _, _, rfl, ?_, ⟨_, rfl⟩, hW, hsame.mono (by decide) (by decide)⟩
  · show Steps p.tables e below (s₁.setTop (mkF m 0 #[.val (.int p0), .val (.int p1), .val (.int p2), .val (.int p3), .val (.int p4), .unset, .unset, .unset, .unset, .unset, .unset, .unset, .unset, .unset, .unset, .unset, .unset, .unset, .unset, .unset] [])) _
    refine XS.iload X0.here hx rfl (hb hby at_0) rfl ?_
    refine XS.bipush X0.here hx rfl (hb hby at_2) ?_
    refine XS.iushr X0.here hx rfl (hb hby at_4) rfl ?_
    refine XS.iconst X0.here hx rfl (hb hby at_5) ?_
    refine iremM (g := (mkF m 6 #[.val (.int p0), .val (.int p1), .val (.int p2), .val (.int p3), .val (.int p4), .unset, .unset, .unset, .unset, .unset, .unset, .unset, .unset, .unset, .unset, .unset, .unset, .unset, .unset, .unset] [(.int (3 : Int32)), (.int ((p4.toUInt32 >>> ((24 : Int32) &&& 31).toUInt32).toInt32))])) X0 hx rfl (hb hby at_6) rfl (by decide) ?_
    show Steps p.tables e below (s₁.setTop (mkF m 7 #[.val (.int p0), .val (.int p1), .val (.int p2), .val (.int p3), .val (.int p4), .unset, .unset, .unset, .unset, .unset, .unset, .unset, .unset, .unset, .unset, .unset, .unset, .unset, .unset, .unset] [(.int (((p4.toUInt32 >>> ((24 : Int32) &&& 31).toUInt32).toInt32) % (3 : Int32)))])) _
    rw [hv6]
    show Steps p.tables e below (s₁.setTop (mkF m 7 #[.val (.int p0), .val (.int p1), .val (.int p2), .val (.int p3), .val (.int p4), .unset, .unset, .unset, .unset, .unset, .unset, .unset, .unset, .unset, .unset, .unset, .unset, .unset, .unset, .unset] [(.int ra)])) _
    refine XS.istore X0.here hx rfl (hb hby at_7) rfl (l' := #[.val (.int p0), .val (.int p1), .val (.int p2), .val (.int p3), .val (.int p4), .val (.int ra), .unset, .unset, .unset, .unset, .unset, .unset, .unset, .unset, .unset, .unset, .unset, .unset, .unset, .unset]) rfl ?_
    show Steps p.tables e below (s₁.setTop (mkF m 9 #[.val (.int p0), .val (.int p1), .val (.int p2), .val (.int p3), .val (.int p4), .val (.int ra), .unset, .unset, .unset, .unset, .unset, .unset, .unset, .unset, .unset, .unset, .unset, .unset, .unset, .unset] [])) _
    refine XS.iload X0.here hx rfl (hb hby at_9) rfl ?_
    refine XS.iconst X0.here hx rfl (hb hby at_11) ?_
    refine XS.iadd X0.here hx rfl (hb hby at_12) rfl ?_
    refine XS.iload X0.here hx rfl (hb hby at_13) rfl ?_
    refine XS.iconst X0.here hx rfl (hb hby at_15) ?_
    refine XS.iushr X0.here hx rfl (hb hby at_16) rfl ?_
    refine XS.iconst X0.here hx rfl (hb hby at_17) ?_
    refine XS.iand X0.here hx rfl (hb hby at_18) rfl ?_
    show Steps p.tables e below (s₁.setTop (mkF m 19 #[.val (.int p0), .val (.int p1), .val (.int p2), .val (.int p3), .val (.int p4), .val (.int ra), .unset, .unset, .unset, .unset, .unset, .unset, .unset, .unset, .unset, .unset, .unset, .unset, .unset, .unset] [(.int (((p4.toUInt32 >>> ((2 : Int32) &&& 31).toUInt32).toInt32) &&& (1 : Int32))), (.int (ra + (1 : Int32)))])) _
    refine XS.iadd X0.here hx rfl (hb hby at_19) rfl ?_
    refine XS.iconst X0.here hx rfl (hb hby at_20) ?_
    refine iremM (g := (mkF m 21 #[.val (.int p0), .val (.int p1), .val (.int p2), .val (.int p3), .val (.int p4), .val (.int ra), .unset, .unset, .unset, .unset, .unset, .unset, .unset, .unset, .unset, .unset, .unset, .unset, .unset, .unset] [(.int (3 : Int32)), (.int ((ra + (1 : Int32)) + (((p4.toUInt32 >>> ((2 : Int32) &&& 31).toUInt32).toInt32) &&& (1 : Int32))))])) X0 hx rfl (hb hby at_21) rfl (by decide) ?_
    show Steps p.tables e below (s₁.setTop (mkF m 22 #[.val (.int p0), .val (.int p1), .val (.int p2), .val (.int p3), .val (.int p4), .val (.int ra), .unset, .unset, .unset, .unset, .unset, .unset, .unset, .unset, .unset, .unset, .unset, .unset, .unset, .unset] [(.int (((ra + (1 : Int32)) + (((p4.toUInt32 >>> ((2 : Int32) &&& 31).toUInt32).toInt32) &&& (1 : Int32))) % (3 : Int32)))])) _
    rw [hv21]
    show Steps p.tables e below (s₁.setTop (mkF m 22 #[.val (.int p0), .val (.int p1), .val (.int p2), .val (.int p3), .val (.int p4), .val (.int ra), .unset, .unset, .unset, .unset, .unset, .unset, .unset, .unset, .unset, .unset, .unset, .unset, .unset, .unset] [(.int rb)])) _
    refine XS.istore X0.here hx rfl (hb hby at_22) rfl (l' := #[.val (.int p0), .val (.int p1), .val (.int p2), .val (.int p3), .val (.int p4), .val (.int ra), .val (.int rb), .unset, .unset, .unset, .unset, .unset, .unset, .unset, .unset, .unset, .unset, .unset, .unset, .unset]) rfl ?_
    refine XS.iconst X0.here hx rfl (hb hby at_24) ?_
    refine XS.iload X0.here hx rfl (hb hby at_25) rfl ?_
    refine XS.isub X0.here hx rfl (hb hby at_27) rfl ?_
    show Steps p.tables e below (s₁.setTop (mkF m 28 #[.val (.int p0), .val (.int p1), .val (.int p2), .val (.int p3), .val (.int p4), .val (.int ra), .val (.int rb), .unset, .unset, .unset, .unset, .unset, .unset, .unset, .unset, .unset, .unset, .unset, .unset, .unset] [(.int ((3 : Int32) - ra))])) _
    refine XS.iload X0.here hx rfl (hb hby at_28) rfl ?_
    refine XS.isub X0.here hx rfl (hb hby at_30) rfl ?_
    show Steps p.tables e below (s₁.setTop (mkF m 31 #[.val (.int p0), .val (.int p1), .val (.int p2), .val (.int p3), .val (.int p4), .val (.int ra), .val (.int rb), .unset, .unset, .unset, .unset, .unset, .unset, .unset, .unset, .unset, .unset, .unset, .unset, .unset] [(.int (((3 : Int32) - ra) - rb))])) _
    rw [hv30]
    show Steps p.tables e below (s₁.setTop (mkF m 31 #[.val (.int p0), .val (.int p1), .val (.int p2), .val (.int p3), .val (.int p4), .val (.int ra), .val (.int rb), .unset, .unset, .unset, .unset, .unset, .unset, .unset, .unset, .unset, .unset, .unset, .unset, .unset] [(.int rc)])) _
    refine XS.istore X0.here hx rfl (hb hby at_31) rfl (l' := #[.val (.int p0), .val (.int p1), .val (.int p2), .val (.int p3), .val (.int p4), .val (.int ra), .val (.int rb), .val (.int rc), .unset, .unset, .unset, .unset, .unset, .unset, .unset, .unset, .unset, .unset, .unset, .unset]) rfl ?_
    refine XS.iload X0.here hx rfl (hb hby at_33) rfl ?_
    refine XS.iconst X0.here hx rfl (hb hby at_35) ?_
    refine XS.iushr X0.here hx rfl (hb hby at_36) rfl ?_
    refine XS.iconst X0.here hx rfl (hb hby at_37) ?_
    show Steps p.tables e below (s₁.setTop (mkF m 38 #[.val (.int p0), .val (.int p1), .val (.int p2), .val (.int p3), .val (.int p4), .val (.int ra), .val (.int rb), .val (.int rc), .unset, .unset, .unset, .unset, .unset, .unset, .unset, .unset, .unset, .unset, .unset, .unset] [(.int (3 : Int32)), (.int ((p4.toUInt32 >>> ((3 : Int32) &&& 31).toUInt32).toInt32))])) _
    refine XS.iand X0.here hx rfl (hb hby at_38) rfl ?_
    refine XS.iconst X0.here hx rfl (hb hby at_39) ?_
    refine iremM (g := (mkF m 40 #[.val (.int p0), .val (.int p1), .val (.int p2), .val (.int p3), .val (.int p4), .val (.int ra), .val (.int rb), .val (.int rc), .unset, .unset, .unset, .unset, .unset, .unset, .unset, .unset, .unset, .unset, .unset, .unset] [(.int (3 : Int32)), (.int (((p4.toUInt32 >>> ((3 : Int32) &&& 31).toUInt32).toInt32) &&& (3 : Int32)))])) X0 hx rfl (hb hby at_40) rfl (by decide) ?_
    show Steps p.tables e below (s₁.setTop (mkF m 41 #[.val (.int p0), .val (.int p1), .val (.int p2), .val (.int p3), .val (.int p4), .val (.int ra), .val (.int rb), .val (.int rc), .unset, .unset, .unset, .unset, .unset, .unset, .unset, .unset, .unset, .unset, .unset, .unset] [(.int ((((p4.toUInt32 >>> ((3 : Int32) &&& 31).toUInt32).toInt32) &&& (3 : Int32)) % (3 : Int32)))])) _
    rw [hv40]
    show Steps p.tables e below (s₁.setTop (mkF m 41 #[.val (.int p0), .val (.int p1), .val (.int p2), .val (.int p3), .val (.int p4), .val (.int ra), .val (.int rb), .val (.int rc), .unset, .unset, .unset, .unset, .unset, .unset, .unset, .unset, .unset, .unset, .unset, .unset] [(.int (2 : Int32))])) _
    refine XS.istore X0.here hx rfl (hb hby at_41) rfl (l' := #[.val (.int p0), .val (.int p1), .val (.int p2), .val (.int p3), .val (.int p4), .val (.int ra), .val (.int rb), .val (.int rc), .val (.int (2 : Int32)), .unset, .unset, .unset, .unset, .unset, .unset, .unset, .unset, .unset, .unset, .unset]) rfl ?_
    refine XS.iload X0.here hx rfl (hb hby at_43) rfl ?_
    refine XS.iconst X0.here hx rfl (hb hby at_45) ?_
    refine XS.iushr X0.here hx rfl (hb hby at_46) rfl ?_
    show Steps p.tables e below (s₁.setTop (mkF m 47 #[.val (.int p0), .val (.int p1), .val (.int p2), .val (.int p3), .val (.int p4), .val (.int ra), .val (.int rb), .val (.int rc), .val (.int (2 : Int32)), .unset, .unset, .unset, .unset, .unset, .unset, .unset, .unset, .unset, .unset, .unset] [(.int ((p4.toUInt32 >>> ((5 : Int32) &&& 31).toUInt32).toInt32))])) _
    refine XS.iconst X0.here hx rfl (hb hby at_47) ?_
    refine XS.iand X0.here hx rfl (hb hby at_48) rfl ?_
    show Steps p.tables e below (s₁.setTop (mkF m 49 #[.val (.int p0), .val (.int p1), .val (.int p2), .val (.int p3), .val (.int p4), .val (.int ra), .val (.int rb), .val (.int rc), .val (.int (2 : Int32)), .unset, .unset, .unset, .unset, .unset, .unset, .unset, .unset, .unset, .unset, .unset] [(.int (((p4.toUInt32 >>> ((5 : Int32) &&& 31).toUInt32).toInt32) &&& (3 : Int32)))])) _
    rw [hv48]
    show Steps p.tables e below (s₁.setTop (mkF m 49 #[.val (.int p0), .val (.int p1), .val (.int p2), .val (.int p3), .val (.int p4), .val (.int ra), .val (.int rb), .val (.int rc), .val (.int (2 : Int32)), .unset, .unset, .unset, .unset, .unset, .unset, .unset, .unset, .unset, .unset, .unset] [(.int pa)])) _
    refine st1 _ ?_
    show Steps p.tables e below (T1.setTop (mkF m 52 #[.val (.int p0), .val (.int p1), .val (.int p2), .val (.int p3), .val (.int p4), .val (.int ra), .val (.int rb), .val (.int rc), .val (.int (2 : Int32)), .unset, .unset, .unset, .unset, .unset, .unset, .unset, .unset, .unset, .unset, .unset] [(.double d1)])) _
    refine XS.dstore X1.here hx rfl (hb hby at_52) rfl (l' := #[.val (.int p0), .val (.int p1), .val (.int p2), .val (.int p3), .val (.int p4), .val (.int ra), .val (.int rb), .val (.int rc), .val (.int (2 : Int32)), .val (.double d1), .second, .unset, .unset, .unset, .unset, .unset, .unset, .unset, .unset, .unset]) rfl ?_
    refine XS.iload X1.here hx rfl (hb hby at_54) rfl ?_
    refine XS.bipush X1.here hx rfl (hb hby at_56) ?_
    refine XS.iushr X1.here hx rfl (hb hby at_58) rfl ?_
    show Steps p.tables e below (T1.setTop (mkF m 59 #[.val (.int p0), .val (.int p1), .val (.int p2), .val (.int p3), .val (.int p4), .val (.int ra), .val (.int rb), .val (.int rc), .val (.int (2 : Int32)), .val (.double d1), .second, .unset, .unset, .unset, .unset, .unset, .unset, .unset, .unset, .unset] [(.int ((p4.toUInt32 >>> ((7 : Int32) &&& 31).toUInt32).toInt32))])) _
    refine XS.iconst X1.here hx rfl (hb hby at_59) ?_
    refine XS.iand X1.here hx rfl (hb hby at_60) rfl ?_
    show Steps p.tables e below (T1.setTop (mkF m 61 #[.val (.int p0), .val (.int p1), .val (.int p2), .val (.int p3), .val (.int p4), .val (.int ra), .val (.int rb), .val (.int rc), .val (.int (2 : Int32)), .val (.double d1), .second, .unset, .unset, .unset, .unset, .unset, .unset, .unset, .unset, .unset] [(.int (((p4.toUInt32 >>> ((7 : Int32) &&& 31).toUInt32).toInt32) &&& (3 : Int32)))])) _
    rw [hv60]
    show Steps p.tables e below (T1.setTop (mkF m 61 #[.val (.int p0), .val (.int p1), .val (.int p2), .val (.int p3), .val (.int p4), .val (.int ra), .val (.int rb), .val (.int rc), .val (.int (2 : Int32)), .val (.double d1), .second, .unset, .unset, .unset, .unset, .unset, .unset, .unset, .unset, .unset] [(.int pb)])) _
    refine st2 _ ?_
    show Steps p.tables e below (T2.setTop (mkF m 64 #[.val (.int p0), .val (.int p1), .val (.int p2), .val (.int p3), .val (.int p4), .val (.int ra), .val (.int rb), .val (.int rc), .val (.int (2 : Int32)), .val (.double d1), .second, .unset, .unset, .unset, .unset, .unset, .unset, .unset, .unset, .unset] [(.double d2)])) _
    refine XS.dstore X2.here hx rfl (hb hby at_64) rfl (l' := #[.val (.int p0), .val (.int p1), .val (.int p2), .val (.int p3), .val (.int p4), .val (.int ra), .val (.int rb), .val (.int rc), .val (.int (2 : Int32)), .val (.double d1), .second, .val (.double d2), .second, .unset, .unset, .unset, .unset, .unset, .unset, .unset]) rfl ?_
    refine XS.iconst X2.here hx rfl (hb hby at_66) ?_
    refine st3 _ ?_
    show Steps p.tables e below (T3.setTop (mkF m 69 #[.val (.int p0), .val (.int p1), .val (.int p2), .val (.int p3), .val (.int p4), .val (.int ra), .val (.int rb), .val (.int rc), .val (.int (2 : Int32)), .val (.double d1), .second, .val (.double d2), .second, .unset, .unset, .unset, .unset, .unset, .unset, .unset] [(.ref b3)])) _
    refine XS.dup X3.here hx rfl (hb hby at_69) rfl rfl ?_
    show Steps p.tables e below (T3.setTop (mkF m 70 #[.val (.int p0), .val (.int p1), .val (.int p2), .val (.int p3), .val (.int p4), .val (.int ra), .val (.int rb), .val (.int rc), .val (.int (2 : Int32)), .val (.double d1), .second, .val (.double d2), .second, .unset, .unset, .unset, .unset, .unset, .unset, .unset] [(.ref b3), (.ref b3)])) _
    refine XS.iconst X3.here hx rfl (hb hby at_70) ?_
    refine XS.iloadN X3.here hx rfl (hb hby at_71) rfl ?_
    refine XS.i2b X3.here hx rfl (hb hby at_72) rfl ?_
    show Steps p.tables e below (T3.setTop (mkF m 73 #[.val (.int p0), .val (.int p1), .val (.int p2), .val (.int p3), .val (.int p4), .val (.int ra), .val (.int rb), .val (.int rc), .val (.int (2 : Int32)), .val (.double d1), .second, .val (.double d2), .second, .unset, .unset, .unset, .unset, .unset, .unset, .unset] [(.int (p3.toInt8.toInt32)), (.int (0 : Int32)), (.ref b3), (.ref b3)])) _
    rw [hv72]
    show Steps p.tables e below (T3.setTop (mkF m 73 #[.val (.int p0), .val (.int p1), .val (.int p2), .val (.int p3), .val (.int p4), .val (.int ra), .val (.int rb), .val (.int rc), .val (.int (2 : Int32)), .val (.double d1), .second, .val (.double d2), .second, .unset, .unset, .unset, .unset, .unset, .unset, .unset] [(.int u0), (.int (0 : Int32)), (.ref b3), (.ref b3)])) _
    refine XS.i2dS X3.here hx rfl (hb hby at_73) rfl (v := (FP.i2d u0)) rfl ?_
    refine st5 _ ?_
    show Steps p.tables e below (T5.setTop (mkF m 75 #[.val (.int p0), .val (.int p1), .val (.int p2), .val (.int p3), .val (.int p4), .val (.int ra), .val (.int rb), .val (.int rc), .val (.int (2 : Int32)), .val (.double d1), .second, .val (.double d2), .second, .unset, .unset, .unset, .unset, .unset, .unset, .unset] [(.ref b3)])) _
    refine XS.dup X5.here hx rfl (hb hby at_75) rfl rfl ?_
    refine XS.iconst X5.here hx rfl (hb hby at_76) ?_
    show Steps p.tables e below (T5.setTop (mkF m 77 #[.val (.int p0), .val (.int p1), .val (.int p2), .val (.int p3), .val (.int p4), .val (.int ra), .val (.int rb), .val (.int rc), .val (.int (2 : Int32)), .val (.double d1), .second, .val (.double d2), .second, .unset, .unset, .unset, .unset, .unset, .unset, .unset] [(.int (1 : Int32)), (.ref b3), (.ref b3)])) _
    refine XS.iloadN X5.here hx rfl (hb hby at_77) rfl ?_
    refine XS.bipush X5.here hx rfl (hb hby at_78) ?_
    refine XS.ishr X5.here hx rfl (hb hby at_80) rfl ?_
    refine XS.i2b X5.here hx rfl (hb hby at_81) rfl ?_
    show Steps p.tables e below (T5.setTop (mkF m 82 #[.val (.int p0), .val (.int p1), .val (.int p2), .val (.int p3), .val (.int p4), .val (.int ra), .val (.int rb), .val (.int rc), .val (.int (2 : Int32)), .val (.double d1), .second, .val (.double d2), .second, .unset, .unset, .unset, .unset, .unset, .unset, .unset] [(.int ((p3 >>> ((8 : Int32) &&& 31)).toInt8.toInt32)), (.int (1 : Int32)), (.ref b3), (.ref b3)])) _
    rw [hv81]
    show Steps p.tables e below (T5.setTop (mkF m 82 #[.val (.int p0), .val (.int p1), .val (.int p2), .val (.int p3), .val (.int p4), .val (.int ra), .val (.int rb), .val (.int rc), .val (.int (2 : Int32)), .val (.double d1), .second, .val (.double d2), .second, .unset, .unset, .unset, .unset, .unset, .unset, .unset] [(.int u1), (.int (1 : Int32)), (.ref b3), (.ref b3)])) _
    refine XS.i2dS X5.here hx rfl (hb hby at_82) rfl (v := (FP.i2d u1)) rfl ?_
    refine st8 _ ?_
    show Steps p.tables e below (T8.setTop (mkF m 84 #[.val (.int p0), .val (.int p1), .val (.int p2), .val (.int p3), .val (.int p4), .val (.int ra), .val (.int rb), .val (.int rc), .val (.int (2 : Int32)), .val (.double d1), .second, .val (.double d2), .second, .unset, .unset, .unset, .unset, .unset, .unset, .unset] [(.ref b3)])) _
    refine XS.dup X8.here hx rfl (hb hby at_84) rfl rfl ?_
    show Steps p.tables e below (T8.setTop (mkF m 85 #[.val (.int p0), .val (.int p1), .val (.int p2), .val (.int p3), .val (.int p4), .val (.int ra), .val (.int rb), .val (.int rc), .val (.int (2 : Int32)), .val (.double d1), .second, .val (.double d2), .second, .unset, .unset, .unset, .unset, .unset, .unset, .unset] [(.ref b3), (.ref b3)])) _
    refine XS.iconst X8.here hx rfl (hb hby at_85) ?_
    refine XS.iloadN X8.here hx rfl (hb hby at_86) rfl ?_
    refine XS.bipush X8.here hx rfl (hb hby at_87) ?_
    refine XS.ishr X8.here hx rfl (hb hby at_89) rfl ?_
    refine XS.i2b X8.here hx rfl (hb hby at_90) rfl ?_
    show Steps p.tables e below (T8.setTop (mkF m 91 #[.val (.int p0), .val (.int p1), .val (.int p2), .val (.int p3), .val (.int p4), .val (.int ra), .val (.int rb), .val (.int rc), .val (.int (2 : Int32)), .val (.double d1), .second, .val (.double d2), .second, .unset, .unset, .unset, .unset, .unset, .unset, .unset] [(.int ((p3 >>> ((16 : Int32) &&& 31)).toInt8.toInt32)), (.int (2 : Int32)), (.ref b3), (.ref b3)])) _
    rw [hv90]
    show Steps p.tables e below (T8.setTop (mkF m 91 #[.val (.int p0), .val (.int p1), .val (.int p2), .val (.int p3), .val (.int p4), .val (.int ra), .val (.int rb), .val (.int rc), .val (.int (2 : Int32)), .val (.double d1), .second, .val (.double d2), .second, .unset, .unset, .unset, .unset, .unset, .unset, .unset] [(.int u2), (.int (2 : Int32)), (.ref b3), (.ref b3)])) _
    refine XS.i2dS X8.here hx rfl (hb hby at_91) rfl (v := (FP.i2d u2)) rfl ?_
    refine st11 _ ?_
    show Steps p.tables e below (T11.setTop (mkF m 93 #[.val (.int p0), .val (.int p1), .val (.int p2), .val (.int p3), .val (.int p4), .val (.int ra), .val (.int rb), .val (.int rc), .val (.int (2 : Int32)), .val (.double d1), .second, .val (.double d2), .second, .unset, .unset, .unset, .unset, .unset, .unset, .unset] [(.ref b3)])) _
    refine XS.astore X11.here hx rfl (hb hby at_93) rfl rfl (l' := #[.val (.int p0), .val (.int p1), .val (.int p2), .val (.int p3), .val (.int p4), .val (.int ra), .val (.int rb), .val (.int rc), .val (.int (2 : Int32)), .val (.double d1), .second, .val (.double d2), .second, .val (.ref b3), .unset, .unset, .unset, .unset, .unset, .unset]) rfl ?_
    refine XS.aload X11.here hx rfl (hb hby at_95) rfl rfl ?_
    refine XS.iload X11.here hx rfl (hb hby at_97) rfl ?_
    refine XS.dload X11.here hx rfl (hb hby at_99) rfl ?_
    refine st14 _ ?_
    show Steps p.tables e below (T14.setTop (mkF m 102 #[.val (.int p0), .val (.int p1), .val (.int p2), .val (.int p3), .val (.int p4), .val (.int ra), .val (.int rb), .val (.int rc), .val (.int (2 : Int32)), .val (.double d1), .second, .val (.double d2), .second, .val (.ref b3), .unset, .unset, .unset, .unset, .unset, .unset] [])) _
    refine XS.iconst X14.here hx rfl (hb hby at_102) ?_
    refine st17 _ ?_
    show Steps p.tables e below (T17.setTop (mkF m 105 #[.val (.int p0), .val (.int p1), .val (.int p2), .val (.int p3), .val (.int p4), .val (.int ra), .val (.int rb), .val (.int rc), .val (.int (2 : Int32)), .val (.double d1), .second, .val (.double d2), .second, .val (.ref b3), .unset, .unset, .unset, .unset, .unset, .unset] [(.ref b17)])) _
    refine XS.dup X17.here hx rfl (hb hby at_105) rfl rfl ?_
    show Steps p.tables e below (T17.setTop (mkF m 106 #[.val (.int p0), .val (.int p1), .val (.int p2), .val (.int p3), .val (.int p4), .val (.int ra), .val (.int rb), .val (.int rc), .val (.int (2 : Int32)), .val (.double d1), .second, .val (.double d2), .second, .val (.ref b3), .unset, .unset, .unset, .unset, .unset, .unset] [(.ref b17), (.ref b17)])) _
    refine XS.iconst X17.here hx rfl (hb hby at_106) ?_
    refine XS.iconst X17.here hx rfl (hb hby at_107) ?_
    refine st20 _ ?_
    show Steps p.tables e below (T20.setTop (mkF m 109 #[.val (.int p0), .val (.int p1), .val (.int p2), .val (.int p3), .val (.int p4), .val (.int ra), .val (.int rb), .val (.int rc), .val (.int (2 : Int32)), .val (.double d1), .second, .val (.double d2), .second, .val (.ref b3), .unset, .unset, .unset, .unset, .unset, .unset] [(.ref b17)])) _
    refine XS.dup X20.here hx rfl (hb hby at_109) rfl rfl ?_
    refine XS.iconst X20.here hx rfl (hb hby at_110) ?_
    refine XS.iconst X20.here hx rfl (hb hby at_111) ?_
    refine st24 _ ?_
    show Steps p.tables e below (T24.setTop (mkF m 113 #[.val (.int p0), .val (.int p1), .val (.int p2), .val (.int p3), .val (.int p4), .val (.int ra), .val (.int rb), .val (.int rc), .val (.int (2 : Int32)), .val (.double d1), .second, .val (.double d2), .second, .val (.ref b3), .unset, .unset, .unset, .unset, .unset, .unset] [(.ref b17)])) _
    refine XS.dup X24.here hx rfl (hb hby at_113) rfl rfl ?_
    show Steps p.tables e below (T24.setTop (mkF m 114 #[.val (.int p0), .val (.int p1), .val (.int p2), .val (.int p3), .val (.int p4), .val (.int ra), .val (.int rb), .val (.int rc), .val (.int (2 : Int32)), .val (.double d1), .second, .val (.double d2), .second, .val (.ref b3), .unset, .unset, .unset, .unset, .unset, .unset] [(.ref b17), (.ref b17)])) _
    refine XS.iconst X24.here hx rfl (hb hby at_114) ?_
    refine XS.iconst X24.here hx rfl (hb hby at_115) ?_
    refine st28 _ ?_
    show Steps p.tables e below (T28.setTop (mkF m 117 #[.val (.int p0), .val (.int p1), .val (.int p2), .val (.int p3), .val (.int p4), .val (.int ra), .val (.int rb), .val (.int rc), .val (.int (2 : Int32)), .val (.double d1), .second, .val (.double d2), .second, .val (.ref b3), .unset, .unset, .unset, .unset, .unset, .unset] [(.ref b17)])) _
    refine XS.astore X28.here hx rfl (hb hby at_117) rfl rfl (l' := #[.val (.int p0), .val (.int p1), .val (.int p2), .val (.int p3), .val (.int p4), .val (.int ra), .val (.int rb), .val (.int rc), .val (.int (2 : Int32)), .val (.double d1), .second, .val (.double d2), .second, .val (.ref b3), .val (.ref b17), .unset, .unset, .unset, .unset, .unset]) rfl ?_
    refine XS.iconst X28.here hx rfl (hb hby at_119) ?_
    refine st31 _ ?_
    show Steps p.tables e below (T31.setTop (mkF m 122 #[.val (.int p0), .val (.int p1), .val (.int p2), .val (.int p3), .val (.int p4), .val (.int ra), .val (.int rb), .val (.int rc), .val (.int (2 : Int32)), .val (.double d1), .second, .val (.double d2), .second, .val (.ref b3), .val (.ref b17), .unset, .unset, .unset, .unset, .unset] [(.ref b31)])) _
    refine XS.dup X31.here hx rfl (hb hby at_122) rfl rfl ?_
    refine XS.iconst X31.here hx rfl (hb hby at_123) ?_
    show Steps p.tables e below (T31.setTop (mkF m 124 #[.val (.int p0), .val (.int p1), .val (.int p2), .val (.int p3), .val (.int p4), .val (.int ra), .val (.int rb), .val (.int rc), .val (.int (2 : Int32)), .val (.double d1), .second, .val (.double d2), .second, .val (.ref b3), .val (.ref b17), .unset, .unset, .unset, .unset, .unset] [(.int (0 : Int32)), (.ref b31), (.ref b31)])) _
    refine XS.iload X31.here hx rfl (hb hby at_124) rfl ?_
    refine st35 _ ?_
    show Steps p.tables e below (T35.setTop (mkF m 127 #[.val (.int p0), .val (.int p1), .val (.int p2), .val (.int p3), .val (.int p4), .val (.int ra), .val (.int rb), .val (.int rc), .val (.int (2 : Int32)), .val (.double d1), .second, .val (.double d2), .second, .val (.ref b3), .val (.ref b17), .unset, .unset, .unset, .unset, .unset] [(.ref b31)])) _
    refine XS.dup X35.here hx rfl (hb hby at_127) rfl rfl ?_
    refine XS.iconst X35.here hx rfl (hb hby at_128) ?_
    refine XS.iload X35.here hx rfl (hb hby at_129) rfl ?_
    refine st40 _ ?_
    show Steps p.tables e below (T40.setTop (mkF m 132 #[.val (.int p0), .val (.int p1), .val (.int p2), .val (.int p3), .val (.int p4), .val (.int ra), .val (.int rb), .val (.int rc), .val (.int (2 : Int32)), .val (.double d1), .second, .val (.double d2), .second, .val (.ref b3), .val (.ref b17), .unset, .unset, .unset, .unset, .unset] [(.ref b31)])) _
    refine XS.astore X40.here hx rfl (hb hby at_132) rfl rfl (l' := #[.val (.int p0), .val (.int p1), .val (.int p2), .val (.int p3), .val (.int p4), .val (.int ra), .val (.int rb), .val (.int rc), .val (.int (2 : Int32)), .val (.double d1), .second, .val (.double d2), .second, .val (.ref b3), .val (.ref b17), .val (.ref b31), .unset, .unset, .unset, .unset]) rfl ?_
    refine XS.iconst X40.here hx rfl (hb hby at_134) ?_
    show Steps p.tables e below (T40.setTop (mkF m 135 #[.val (.int p0), .val (.int p1), .val (.int p2), .val (.int p3), .val (.int p4), .val (.int ra), .val (.int rb), .val (.int rc), .val (.int (2 : Int32)), .val (.double d1), .second, .val (.double d2), .second, .val (.ref b3), .val (.ref b17), .val (.ref b31), .unset, .unset, .unset, .unset] [(.int (2 : Int32))])) _
    refine st44 _ ?_
    show Steps p.tables e below (T44.setTop (mkF m 137 #[.val (.int p0), .val (.int p1), .val (.int p2), .val (.int p3), .val (.int p4), .val (.int ra), .val (.int rb), .val (.int rc), .val (.int (2 : Int32)), .val (.double d1), .second, .val (.double d2), .second, .val (.ref b3), .val (.ref b17), .val (.ref b31), .unset, .unset, .unset, .unset] [(.ref b44)])) _
    refine XS.dup X44.here hx rfl (hb hby at_137) rfl rfl ?_
    refine XS.iconst X44.here hx rfl (hb hby at_138) ?_
    refine XS.dload X44.here hx rfl (hb hby at_139) rfl ?_
    refine st49 _ ?_
    show Steps p.tables e below (T49.setTop (mkF m 142 #[.val (.int p0), .val (.int p1), .val (.int p2), .val (.int p3), .val (.int p4), .val (.int ra), .val (.int rb), .val (.int rc), .val (.int (2 : Int32)), .val (.double d1), .second, .val (.double d2), .second, .val (.ref b3), .val (.ref b17), .val (.ref b31), .unset, .unset, .unset, .unset] [(.ref b44)])) _
    refine XS.dup X49.here hx rfl (hb hby at_142) rfl rfl ?_
    refine XS.iconst X49.here hx rfl (hb hby at_143) ?_
    refine XS.iloadN X49.here hx rfl (hb hby at_144) rfl ?_
    show Steps p.tables e below (T49.setTop (mkF m 145 #[.val (.int p0), .val (.int p1), .val (.int p2), .val (.int p3), .val (.int p4), .val (.int ra), .val (.int rb), .val (.int rc), .val (.int (2 : Int32)), .val (.double d1), .second, .val (.double d2), .second, .val (.ref b3), .val (.ref b17), .val (.ref b31), .unset, .unset, .unset, .unset] [(.int p3), (.int (1 : Int32)), (.ref b44), (.ref b44)])) _
    refine XS.bipush X49.here hx rfl (hb hby at_145) ?_
    refine XS.ishr X49.here hx rfl (hb hby at_147) rfl ?_
    refine XS.i2b X49.here hx rfl (hb hby at_148) rfl ?_
    show Steps p.tables e below (T49.setTop (mkF m 149 #[.val (.int p0), .val (.int p1), .val (.int p2), .val (.int p3), .val (.int p4), .val (.int ra), .val (.int rb), .val (.int rc), .val (.int (2 : Int32)), .val (.double d1), .second, .val (.double d2), .second, .val (.ref b3), .val (.ref b17), .val (.ref b31), .unset, .unset, .unset, .unset] [(.int ((p3 >>> ((24 : Int32) &&& 31)).toInt8.toInt32)), (.int (1 : Int32)), (.ref b44), (.ref b44)])) _
    rw [hv148]
    show Steps p.tables e below (T49.setTop (mkF m 149 #[.val (.int p0), .val (.int p1), .val (.int p2), .val (.int p3), .val (.int p4), .val (.int ra), .val (.int rb), .val (.int rc), .val (.int (2 : Int32)), .val (.double d1), .second, .val (.double d2), .second, .val (.ref b3), .val (.ref b17), .val (.ref b31), .unset, .unset, .unset, .unset] [(.int u3), (.int (1 : Int32)), (.ref b44), (.ref b44)])) _
    refine XS.i2dS X49.here hx rfl (hb hby at_149) rfl (v := (FP.i2d u3)) rfl ?_
    refine st55 _ ?_
    show Steps p.tables e below (T55.setTop (mkF m 151 #[.val (.int p0), .val (.int p1), .val (.int p2), .val (.int p3), .val (.int p4), .val (.int ra), .val (.int rb), .val (.int rc), .val (.int (2 : Int32)), .val (.double d1), .second, .val (.double d2), .second, .val (.ref b3), .val (.ref b17), .val (.ref b31), .unset, .unset, .unset, .unset] [(.ref b44)])) _
    refine XS.astore X55.here hx rfl (hb hby at_151) rfl rfl (l' := #[.val (.int p0), .val (.int p1), .val (.int p2), .val (.int p3), .val (.int p4), .val (.int ra), .val (.int rb), .val (.int rc), .val (.int (2 : Int32)), .val (.double d1), .second, .val (.double d2), .second, .val (.ref b3), .val (.ref b17), .val (.ref b31), .val (.ref b44), .unset, .unset, .unset]) rfl ?_
    refine XS.iconst X55.here hx rfl (hb hby at_153) ?_
    show Steps p.tables e below (T55.setTop (mkF m 154 #[.val (.int p0), .val (.int p1), .val (.int p2), .val (.int p3), .val (.int p4), .val (.int ra), .val (.int rb), .val (.int rc), .val (.int (2 : Int32)), .val (.double d1), .second, .val (.double d2), .second, .val (.ref b3), .val (.ref b17), .val (.ref b31), .val (.ref b44), .unset, .unset, .unset] [(.int (3 : Int32))])) _
    refine st60 _ ?_
    show Steps p.tables e below (T60.setTop (mkF m 156 #[.val (.int p0), .val (.int p1), .val (.int p2), .val (.int p3), .val (.int p4), .val (.int ra), .val (.int rb), .val (.int rc), .val (.int (2 : Int32)), .val (.double d1), .second, .val (.double d2), .second, .val (.ref b3), .val (.ref b17), .val (.ref b31), .val (.ref b44), .unset, .unset, .unset] [(.ref b60)])) _
    refine XS.dup X60.here hx rfl (hb hby at_156) rfl rfl ?_
    refine XS.iconst X60.here hx rfl (hb hby at_157) ?_
    refine XS.iloadN X60.here hx rfl (hb hby at_158) rfl ?_
    refine XS.i2dS X60.here hx rfl (hb hby at_159) rfl (v := (FP.i2d p0)) rfl ?_
    refine st66 _ ?_
    show Steps p.tables e below (T66.setTop (mkF m 161 #[.val (.int p0), .val (.int p1), .val (.int p2), .val (.int p3), .val (.int p4), .val (.int ra), .val (.int rb), .val (.int rc), .val (.int (2 : Int32)), .val (.double d1), .second, .val (.double d2), .second, .val (.ref b3), .val (.ref b17), .val (.ref b31), .val (.ref b44), .unset, .unset, .unset] [(.ref b60)])) _
    refine XS.dup X66.here hx rfl (hb hby at_161) rfl rfl ?_
    refine XS.iconst X66.here hx rfl (hb hby at_162) ?_
    show Steps p.tables e below (T66.setTop (mkF m 163 #[.val (.int p0), .val (.int p1), .val (.int p2), .val (.int p3), .val (.int p4), .val (.int ra), .val (.int rb), .val (.int rc), .val (.int (2 : Int32)), .val (.double d1), .second, .val (.double d2), .second, .val (.ref b3), .val (.ref b17), .val (.ref b31), .val (.ref b44), .unset, .unset, .unset] [(.int (1 : Int32)), (.ref b60), (.ref b60)])) _
    refine XS.iloadN X66.here hx rfl (hb hby at_163) rfl ?_
    refine XS.i2dS X66.here hx rfl (hb hby at_164) rfl (v := (FP.i2d p1)) rfl ?_
    refine st73 _ ?_
    show Steps p.tables e below (T73.setTop (mkF m 166 #[.val (.int p0), .val (.int p1), .val (.int p2), .val (.int p3), .val (.int p4), .val (.int ra), .val (.int rb), .val (.int rc), .val (.int (2 : Int32)), .val (.double d1), .second, .val (.double d2), .second, .val (.ref b3), .val (.ref b17), .val (.ref b31), .val (.ref b44), .unset, .unset, .unset] [(.ref b60)])) _
    refine XS.dup X73.here hx rfl (hb hby at_166) rfl rfl ?_
    refine XS.iconst X73.here hx rfl (hb hby at_167) ?_
    refine XS.iloadN X73.here hx rfl (hb hby at_168) rfl ?_
    refine XS.i2dS X73.here hx rfl (hb hby at_169) rfl (v := (FP.i2d p2)) rfl ?_
    refine st80 _ ?_
    show Steps p.tables e below (T80.setTop (mkF m 171 #[.val (.int p0), .val (.int p1), .val (.int p2), .val (.int p3), .val (.int p4), .val (.int ra), .val (.int rb), .val (.int rc), .val (.int (2 : Int32)), .val (.double d1), .second, .val (.double d2), .second, .val (.ref b3), .val (.ref b17), .val (.ref b31), .val (.ref b44), .unset, .unset, .unset] [(.ref b60)])) _
    refine XS.astore X80.here hx rfl (hb hby at_171) rfl rfl (l' := #[.val (.int p0), .val (.int p1), .val (.int p2), .val (.int p3), .val (.int p4), .val (.int ra), .val (.int rb), .val (.int rc), .val (.int (2 : Int32)), .val (.double d1), .second, .val (.double d2), .second, .val (.ref b3), .val (.ref b17), .val (.ref b31), .val (.ref b44), .val (.ref b60), .unset, .unset]) rfl ?_
    refine XS.iconst X80.here hx rfl (hb hby at_173) ?_
    refine st86 _ ?_
    show Steps p.tables e below (T86.setTop (mkF m 176 #[.val (.int p0), .val (.int p1), .val (.int p2), .val (.int p3), .val (.int p4), .val (.int ra), .val (.int rb), .val (.int rc), .val (.int (2 : Int32)), .val (.double d1), .second, .val (.double d2), .second, .val (.ref b3), .val (.ref b17), .val (.ref b31), .val (.ref b44), .val (.ref b60), .unset, .unset] [(.ref b86)])) _
    refine XS.dup X86.here hx rfl (hb hby at_176) rfl rfl ?_
    refine XS.iconst X86.here hx rfl (hb hby at_177) ?_
    refine XS.iloadN X86.here hx rfl (hb hby at_178) rfl ?_
    refine XS.i2dS X86.here hx rfl (hb hby at_179) rfl (v := (FP.i2d p0)) rfl ?_
    refine st93 _ ?_
    show Steps p.tables e below (T93.setTop (mkF m 181 #[.val (.int p0), .val (.int p1), .val (.int p2), .val (.int p3), .val (.int p4), .val (.int ra), .val (.int rb), .val (.int rc), .val (.int (2 : Int32)), .val (.double d1), .second, .val (.double d2), .second, .val (.ref b3), .val (.ref b17), .val (.ref b31), .val (.ref b44), .val (.ref b60), .unset, .unset] [(.ref b86)])) _
    refine XS.dup X93.here hx rfl (hb hby at_181) rfl rfl ?_
    refine XS.iconst X93.here hx rfl (hb hby at_182) ?_
    refine XS.iloadN X93.here hx rfl (hb hby at_183) rfl ?_
    refine XS.i2dS X93.here hx rfl (hb hby at_184) rfl (v := (FP.i2d p1)) rfl ?_
    refine st101 _ ?_
    show Steps p.tables e below (T101.setTop (mkF m 186 #[.val (.int p0), .val (.int p1), .val (.int p2), .val (.int p3), .val (.int p4), .val (.int ra), .val (.int rb), .val (.int rc), .val (.int (2 : Int32)), .val (.double d1), .second, .val (.double d2), .second, .val (.ref b3), .val (.ref b17), .val (.ref b31), .val (.ref b44), .val (.ref b60), .unset, .unset] [(.ref b86)])) _
    refine XS.dup X101.here hx rfl (hb hby at_186) rfl rfl ?_
    refine XS.iconst X101.here hx rfl (hb hby at_187) ?_
    refine XS.iloadN X101.here hx rfl (hb hby at_188) rfl ?_
    show Steps p.tables e below (T101.setTop (mkF m 189 #[.val (.int p0), .val (.int p1), .val (.int p2), .val (.int p3), .val (.int p4), .val (.int ra), .val (.int rb), .val (.int rc), .val (.int (2 : Int32)), .val (.double d1), .second, .val (.double d2), .second, .val (.ref b3), .val (.ref b17), .val (.ref b31), .val (.ref b44), .val (.ref b60), .unset, .unset] [(.int p2), (.int (2 : Int32)), (.ref b86), (.ref b86)])) _
    refine XS.i2dS X101.here hx rfl (hb hby at_189) rfl (v := (FP.i2d p2)) rfl ?_
    refine st109 _ ?_
    show Steps p.tables e below (T109.setTop (mkF m 191 #[.val (.int p0), .val (.int p1), .val (.int p2), .val (.int p3), .val (.int p4), .val (.int ra), .val (.int rb), .val (.int rc), .val (.int (2 : Int32)), .val (.double d1), .second, .val (.double d2), .second, .val (.ref b3), .val (.ref b17), .val (.ref b31), .val (.ref b44), .val (.ref b60), .unset, .unset] [(.ref b86)])) _
    refine XS.astore X109.here hx rfl (hb hby at_191) rfl rfl (l' := #[.val (.int p0), .val (.int p1), .val (.int p2), .val (.int p3), .val (.int p4), .val (.int ra), .val (.int rb), .val (.int rc), .val (.int (2 : Int32)), .val (.double d1), .second, .val (.double d2), .second, .val (.ref b3), .val (.ref b17), .val (.ref b31), .val (.ref b44), .val (.ref b60), .val (.ref b86), .unset]) rfl ?_
    refine st116 _ ?_
    show Steps p.tables e below (T116.setTop (mkF m 196 #[.val (.int p0), .val (.int p1), .val (.int p2), .val (.int p3), .val (.int p4), .val (.int ra), .val (.int rb), .val (.int rc), .val (.int (2 : Int32)), .val (.double d1), .second, .val (.double d2), .second, .val (.ref b3), .val (.ref b17), .val (.ref b31), .val (.ref b44), .val (.ref b60), .val (.ref b86), .unset] [(.ref b116)])) _
    refine XS.dup X116.here hx rfl (hb hby at_196) rfl rfl ?_
    refine st123.trans ?_
    show Steps p.tables e below (T123.setTop (mkF m 200 #[.val (.int p0), .val (.int p1), .val (.int p2), .val (.int p3), .val (.int p4), .val (.int ra), .val (.int rb), .val (.int rc), .val (.int (2 : Int32)), .val (.double d1), .second, .val (.double d2), .second, .val (.ref b3), .val (.ref b17), .val (.ref b31), .val (.ref b44), .val (.ref b60), .val (.ref b86), .unset] [(.ref b116)])) _
    refine XS.astore X123.here hx rfl (hb hby at_200) rfl rfl (l' := #[.val (.int p0), .val (.int p1), .val (.int p2), .val (.int p3), .val (.int p4), .val (.int ra), .val (.int rb), .val (.int rc), .val (.int (2 : Int32)), .val (.double d1), .second, .val (.double d2), .second, .val (.ref b3), .val (.ref b17), .val (.ref b31), .val (.ref b44), .val (.ref b60), .val (.ref b86), .val (.ref b116)]) rfl ?_
    refine XS.iload X123.here hx rfl (hb hby at_202) rfl ?_
    show Steps p.tables e below (T123.setTop (mkF m 204 #[.val (.int p0), .val (.int p1), .val (.int p2), .val (.int p3), .val (.int p4), .val (.int ra), .val (.int rb), .val (.int rc), .val (.int (2 : Int32)), .val (.double d1), .second, .val (.double d2), .second, .val (.ref b3), .val (.ref b17), .val (.ref b31), .val (.ref b44), .val (.ref b60), .val (.ref b86), .val (.ref b116)] [(.int (2 : Int32))])) _
    refine XS.iconst X123.here hx rfl (hb hby at_204) ?_
    refine XS.icmpNo X123.here hx rfl (hb hby at_205) rfl (flt (by decide : ¬ ((2 : Int32) < (1 : Int32)))).1 ?_
    refine XS.aload X123.here hx rfl (hb hby at_208) rfl rfl ?_
    refine XS.iload X123.here hx rfl (hb hby at_210) rfl ?_
    refine XS.aload X123.here hx rfl (hb hby at_212) rfl rfl ?_
    refine XS.aload X123.here hx rfl (hb hby at_214) rfl rfl ?_
    refine st158.trans ?_
    show Steps p.tables e below (T158.setTop (mkF m 219 #[.val (.int p0), .val (.int p1), .val (.int p2), .val (.int p3), .val (.int p4), .val (.int ra), .val (.int rb), .val (.int rc), .val (.int (2 : Int32)), .val (.double d1), .second, .val (.double d2), .second, .val (.ref b3), .val (.ref b17), .val (.ref b31), .val (.ref b44), .val (.ref b60), .val (.ref b86), .val (.ref b116)] [])) _
    refine XS.iload X158.here hx rfl (hb hby at_219) rfl ?_
    show Steps p.tables e below (T158.setTop (mkF m 221 #[.val (.int p0), .val (.int p1), .val (.int p2), .val (.int p3), .val (.int p4), .val (.int ra), .val (.int rb), .val (.int rc), .val (.int (2 : Int32)), .val (.double d1), .second, .val (.double d2), .second, .val (.ref b3), .val (.ref b17), .val (.ref b31), .val (.ref b44), .val (.ref b60), .val (.ref b86), .val (.ref b116)] [(.int (2 : Int32))])) _
    refine XS.iconst X158.here hx rfl (hb hby at_221) ?_
    refine XS.icmpNo X158.here hx rfl (hb hby at_222) rfl (flt (by decide : ¬ ((2 : Int32) < (2 : Int32)))).1 ?_
    refine XS.aload X158.here hx rfl (hb hby at_225) rfl rfl ?_
    refine XS.iload X158.here hx rfl (hb hby at_227) rfl ?_
    refine XS.aload X158.here hx rfl (hb hby at_229) rfl rfl ?_
    refine XS.aload X158.here hx rfl (hb hby at_231) rfl rfl ?_
    refine st178.trans ?_
    show Steps p.tables e below (T178.setTop (mkF m 236 #[.val (.int p0), .val (.int p1), .val (.int p2), .val (.int p3), .val (.int p4), .val (.int ra), .val (.int rb), .val (.int rc), .val (.int (2 : Int32)), .val (.double d1), .second, .val (.double d2), .second, .val (.ref b3), .val (.ref b17), .val (.ref b31), .val (.ref b44), .val (.ref b60), .val (.ref b86), .val (.ref b116)] [])) _
    refine XS.aload X178.here hx rfl (hb hby at_236) rfl rfl ?_
    show Steps p.tables e below (T178.setTop (mkF m 238 #[.val (.int p0), .val (.int p1), .val (.int p2), .val (.int p3), .val (.int p4), .val (.int ra), .val (.int rb), .val (.int rc), .val (.int (2 : Int32)), .val (.double d1), .second, .val (.double d2), .second, .val (.ref b3), .val (.ref b17), .val (.ref b31), .val (.ref b44), .val (.ref b60), .val (.ref b86), .val (.ref b116)] [(.ref b116)])) _
    refine XS.aload X178.here hx rfl (hb hby at_238) rfl rfl ?_
    refine st198.trans ?_
    show Steps p.tables e below (T198.setTop (mkF m 243 #[.val (.int p0), .val (.int p1), .val (.int p2), .val (.int p3), .val (.int p4), .val (.int ra), .val (.int rb), .val (.int rc), .val (.int (2 : Int32)), .val (.double d1), .second, .val (.double d2), .second, .val (.ref b3), .val (.ref b17), .val (.ref b31), .val (.ref b44), .val (.ref b60), .val (.ref b86), .val (.ref b116)] [])) _
    refine XS.iconst X198.here hx rfl (hb hby at_243) ?_
    refine XS.iload X198.here hx rfl (hb hby at_244) rfl ?_
    refine XS.iload X198.here hx rfl (hb hby at_246) rfl ?_
    refine XS.iload X198.here hx rfl (hb hby at_248) rfl ?_
    refine XS.iload X198.here hx rfl (hb hby at_250) rfl ?_
    refine XS.aload X198.here hx rfl (hb hby at_252) rfl rfl ?_
    show Steps p.tables e below (T198.setTop (mkF m 254 #[.val (.int p0), .val (.int p1), .val (.int p2), .val (.int p3), .val (.int p4), .val (.int ra), .val (.int rb), .val (.int rc), .val (.int (2 : Int32)), .val (.double d1), .second, .val (.double d2), .second, .val (.ref b3), .val (.ref b17), .val (.ref b31), .val (.ref b44), .val (.ref b60), .val (.ref b86), .val (.ref b116)] [(.ref b86), (.int rc), (.int rb), (.int ra), (.int (2 : Int32)), (.int (0 : Int32))])) _
    refine XS.aload X198.here hx rfl (hb hby at_254) rfl rfl ?_
    refine XS.aload X198.here hx rfl (hb hby at_256) rfl rfl ?_
    refine XS.aload X198.here hx rfl (hb hby at_258) rfl rfl ?_
    refine st217 _ ?_
    show Steps p.tables e below (T217.setTop (mkF m 263 #[.val (.int p0), .val (.int p1), .val (.int p2), .val (.int p3), .val (.int p4), .val (.int ra), .val (.int rb), .val (.int rc), .val (.int (2 : Int32)), .val (.double d1), .second, .val (.double d2), .second, .val (.ref b3), .val (.ref b17), .val (.ref b31), .val (.ref b44), .val (.ref b60), .val (.ref b86), .val (.ref b116)] [(.int (1 : Int32))])) _
    refine XS.ifNo X217.here hx rfl (hb hby at_263) rfl ((if0 _ _).trans (feq (by decide : ¬ ((1 : Int32) = (0 : Int32)))).1) ?_
    refine XS.iconst X217.here hx rfl (hb hby at_266) ?_
    refine XS.iload X217.here hx rfl (hb hby at_267) rfl ?_
    refine XS.iload X217.here hx rfl (hb hby at_269) rfl ?_
    show Steps p.tables e below (T217.setTop (mkF m 271 #[.val (.int p0), .val (.int p1), .val (.int p2), .val (.int p3), .val (.int p4), .val (.int ra), .val (.int rb), .val (.int rc), .val (.int (2 : Int32)), .val (.double d1), .second, .val (.double d2), .second, .val (.ref b3), .val (.ref b17), .val (.ref b31), .val (.ref b44), .val (.ref b60), .val (.ref b86), .val (.ref b116)] [(.int ra), (.int (2 : Int32)), (.int (1 : Int32))])) _
    refine XS.iload X217.here hx rfl (hb hby at_271) rfl ?_
    refine XS.iload X217.here hx rfl (hb hby at_273) rfl ?_
    refine XS.aload X217.here hx rfl (hb hby at_275) rfl rfl ?_
    refine XS.aload X217.here hx rfl (hb hby at_277) rfl rfl ?_
    refine XS.aload X217.here hx rfl (hb hby at_279) rfl rfl ?_
    refine XS.aload X217.here hx rfl (hb hby at_281) rfl rfl ?_
    refine st218 _ ?_
    show Steps p.tables e below (T218.setTop (mkF m 286 #[.val (.int p0), .val (.int p1), .val (.int p2), .val (.int p3), .val (.int p4), .val (.int ra), .val (.int rb), .val (.int rc), .val (.int (2 : Int32)), .val (.double d1), .second, .val (.double d2), .second, .val (.ref b3), .val (.ref b17), .val (.ref b31), .val (.ref b44), .val (.ref b60), .val (.ref b86), .val (.ref b116)] [(.int (1 : Int32))])) _
    refine XS.ifNo X218.here hx rfl (hb hby at_286) rfl ((if0 _ _).trans (feq (by decide : ¬ ((1 : Int32) = (0 : Int32)))).1) ?_
    show Steps p.tables e below (T218.setTop (mkF m 289 #[.val (.int p0), .val (.int p1), .val (.int p2), .val (.int p3), .val (.int p4), .val (.int ra), .val (.int rb), .val (.int rc), .val (.int (2 : Int32)), .val (.double d1), .second, .val (.double d2), .second, .val (.ref b3), .val (.ref b17), .val (.ref b31), .val (.ref b44), .val (.ref b60), .val (.ref b86), .val (.ref b116)] [])) _
    refine XS.iconst X218.here hx rfl (hb hby at_289) ?_
    refine XS.iload X218.here hx rfl (hb hby at_290) rfl ?_
    refine XS.iload X218.here hx rfl (hb hby at_292) rfl ?_
    refine XS.iload X218.here hx rfl (hb hby at_294) rfl ?_
    refine XS.iload X218.here hx rfl (hb hby at_296) rfl ?_
    refine XS.aload X218.here hx rfl (hb hby at_298) rfl rfl ?_
    refine XS.aload X218.here hx rfl (hb hby at_300) rfl rfl ?_
    refine XS.aload X218.here hx rfl (hb hby at_302) rfl rfl ?_
    show Steps p.tables e below (T218.setTop (mkF m 304 #[.val (.int p0), .val (.int p1), .val (.int p2), .val (.int p3), .val (.int p4), .val (.int ra), .val (.int rb), .val (.int rc), .val (.int (2 : Int32)), .val (.double d1), .second, .val (.double d2), .second, .val (.ref b3), .val (.ref b17), .val (.ref b31), .val (.ref b44), .val (.ref b60), .val (.ref b86), .val (.ref b116)] [(.ref b44), (.ref b3), (.ref b86), (.int rc), (.int rb), (.int ra), (.int (2 : Int32)), (.int (2 : Int32))])) _
    refine XS.aload X218.here hx rfl (hb hby at_304) rfl rfl ?_
    refine st219 _ ?_
    show Steps p.tables e below (T219.setTop (mkF m 309 #[.val (.int p0), .val (.int p1), .val (.int p2), .val (.int p3), .val (.int p4), .val (.int ra), .val (.int rb), .val (.int rc), .val (.int (2 : Int32)), .val (.double d1), .second, .val (.double d2), .second, .val (.ref b3), .val (.ref b17), .val (.ref b31), .val (.ref b44), .val (.ref b60), .val (.ref b86), .val (.ref b116)] [(.int (1 : Int32))])) _
    refine XS.ifNo X219.here hx rfl (hb hby at_309) rfl ((if0 _ _).trans (feq (by decide : ¬ ((1 : Int32) = (0 : Int32)))).1) ?_
    refine XS.iconst X219.here hx rfl (hb hby at_312) ?_
    refine XS.goto X219.here hx rfl (pc0 := 313) (pc' := 317) rfl (hb hby at_313) (by decide) (by decide) ?_
    exact retN X219 hx (t := .boolean) Bd.returns (by simp) (hb hby at_317) hr
  · show Q0 n0 _ T219.heap _
    rw [e219]
    exact ⟨rfl, N219⟩
open Jvm.OwnFP in
theorem own_e {s e : Int} (he : e = 1 ∨ e = -1 ∨ e = 2 ∨ e = -2) : ∃ m : Int, s * 2 = m * e ∧ m.natAbs ≤ 2 * s.natAbs := by
  rcases he with rfl | rfl | rfl | rfl
  · exact ⟨2 * s, by omega, by omega⟩
  · exact ⟨-(2 * s), by omega, by omega⟩
  · exact ⟨s, by omega, by omega⟩
  · exact ⟨-s, by omega, by omega⟩
theorem own_prod {a x : Int} {A B : Nat} (ha : a.natAbs ≤ A) (hx : x.natAbs ≤ B) : (a * x).natAbs ≤ A * B := by rw [Int.natAbs_mul]; exact Nat.mul_le_mul ha hx
open Jvm.OwnFP in
theorem own_T {c x w e : Int} {C X W E : UInt64} (hC : Ra c 1 C) (hX : Ra x 1 X) (hW : Ra w 1 W) (hE : Ra e 1 E) (he : e = 1 ∨ e = -1 ∨ e = 2 ∨ e = -2) (bc : c.natAbs ≤ 2147483648) (bx : x.natAbs ≤ 2147483648) (bw : w.natAbs ≤ 128) {q : UInt64} (hq : FP.ddiv (FP.dsub C (FP.dmul W X)) E = q) :
    Jvm.Free.Fl.NoNaN64 (FP.dmul W X) ∧ Jvm.Free.Fl.NoNaN64 (FP.dsub C (FP.dmul W X)) ∧ Jvm.Free.Fl.NoNaN64 (FP.ddiv (FP.dsub C (FP.dmul W X)) E) ∧ Jvm.Free.Fl.NoNaN64 (FP.dmul q E) ∧ Jvm.Free.Fl.NoNaN64 (FP.dmul X W) ∧ Jvm.Free.Fl.NoNaN64 (FP.dadd (FP.dmul q E) (FP.dmul X W)) ∧
      (cmpValue (FP.dcmp (FP.dadd (FP.dmul q E) (FP.dmul X W)) C) .l) = (0 : Int32) ∧ ∃ m : Int, Ra m 2 q ∧ m.natAbs ≤ 1099511627776 := by
  have bp := own_prod bw bx
  obtain ⟨p, hp⟩ : ∃ p, w * x = p := ⟨_, rfl⟩
  rw [hp] at bp
  have r1 : Ra p 1 (FP.dmul W X) := hW.mulr hX (k := 0) (by decide) (by decide) (by omega) rfl (by decide) (by rw [hp]; omega)
  have r1' : Ra p 1 (FP.dmul X W) := hX.mulr hW (k := 0) (by decide) (by decide) (by omega) rfl (by decide) (by rw [Int.mul_comm x w, hp]; omega)
  have r2 : Ra (c - p) 1 (FP.dsub C (FP.dmul W X)) := hC.sub r1 (k := 0) (by omega) rfl (by decide)
  obtain ⟨m, hm, bm⟩ := own_e (s := c - p) he
  have r3 : Ra m 2 (FP.ddiv (FP.dsub C (FP.dmul W X)) E) := r2.div hE (r := m) (F := 2) (k := 1) (by decide) (by decide) (by omega) (by omega) rfl (by decide) (by show (c - p) * 1 * 2 = m * (e * 1); rw [Int.mul_one, Int.mul_one]; exact hm)
  have n3 := r3.nn
  rw [hq] at r3
  have r4 : Ra (c - p) 1 (FP.dmul q E) := r3.mulr hE (r := c - p) (F := 1) (k := 0) (by decide) (by decide) (by omega) rfl (by decide) (by show m * e * 1 = (c - p) * (2 * 1); rw [Int.mul_one, Int.mul_one]; exact hm.symm)
  have r5 : Ra (c - p + p) 1 (FP.dadd (FP.dmul q E) (FP.dmul X W)) := r4.add r1' (k := 0) (by omega) rfl (by decide)
  exact ⟨r1.nn, r2.nn, n3, r4.nn, r1'.nn, r5.nn, r5.eq hC (by decide) (by omega) _, m, r3, by omega⟩
open Jvm.OwnFP in
set_option maxHeartbeats 4000000 in
theorem own_S {c x y a b e : Int} {C X Y A B E : UInt64} (hC : Ra c 1 C) (hX : Ra x 2 X) (hY : Ra y 2 Y) (hA : Ra a 1 A) (hB : Ra b 1 B) (hE : Ra e 1 E) (he : e = 1 ∨ e = -1 ∨ e = 2 ∨ e = -2) (bc : c.natAbs ≤ 2147483648) (bx : x.natAbs ≤ 1099511627776) (by0 : y.natAbs ≤ 1099511627776) (ba : a.natAbs ≤ 128) (bb : b.natAbs ≤ 128)
    {q : UInt64} (hq : FP.ddiv (FP.dsub (FP.dsub C (FP.dmul A X)) (FP.dmul B Y)) E = q) :
    (Jvm.Free.Fl.NoNaN64 (FP.dmul A X) ∧ Jvm.Free.Fl.NoNaN64 (FP.dsub C (FP.dmul A X)) ∧ Jvm.Free.Fl.NoNaN64 (FP.dmul B Y) ∧ Jvm.Free.Fl.NoNaN64 (FP.dsub (FP.dsub C (FP.dmul A X)) (FP.dmul B Y)) ∧ Jvm.Free.Fl.NoNaN64 (FP.ddiv (FP.dsub (FP.dsub C (FP.dmul A X)) (FP.dmul B Y)) E)) ∧
    (Jvm.Free.Fl.NoNaN64 (FP.dmul q E) ∧ Jvm.Free.Fl.NoNaN64 (FP.dmul X A) ∧ Jvm.Free.Fl.NoNaN64 (FP.dmul Y B)) ∧
    (Jvm.Free.Fl.NoNaN64 (FP.dadd (FP.dmul q E) (FP.dmul X A)) ∧ Jvm.Free.Fl.NoNaN64 (FP.dadd (FP.dadd (FP.dmul q E) (FP.dmul X A)) (FP.dmul Y B)) ∧ (cmpValue (FP.dcmp (FP.dadd (FP.dadd (FP.dmul q E) (FP.dmul X A)) (FP.dmul Y B)) C) .l) = (0 : Int32)) ∧
    (Jvm.Free.Fl.NoNaN64 (FP.dadd (FP.dmul X A) (FP.dmul q E)) ∧ Jvm.Free.Fl.NoNaN64 (FP.dadd (FP.dadd (FP.dmul X A) (FP.dmul q E)) (FP.dmul Y B)) ∧ (cmpValue (FP.dcmp (FP.dadd (FP.dadd (FP.dmul X A) (FP.dmul q E)) (FP.dmul Y B)) C) .l) = (0 : Int32)) ∧
    (Jvm.Free.Fl.NoNaN64 (FP.dadd (FP.dmul X A) (FP.dmul Y B)) ∧ Jvm.Free.Fl.NoNaN64 (FP.dadd (FP.dadd (FP.dmul X A) (FP.dmul Y B)) (FP.dmul q E)) ∧ (cmpValue (FP.dcmp (FP.dadd (FP.dadd (FP.dmul X A) (FP.dmul Y B)) (FP.dmul q E)) C) .l) = (0 : Int32)) := by
  have bp := own_prod ba bx
  have bt := own_prod bb by0
  obtain ⟨p, hp⟩ : ∃ p, a * x = p := ⟨_, rfl⟩
  obtain ⟨t, ht⟩ : ∃ t, b * y = t := ⟨_, rfl⟩
  rw [hp] at bp; rw [ht] at bt
  have hC2 : Ra (2 * c) 2 C := hC.scale (by decide) (by omega)
  have r1 : Ra p 2 (FP.dmul A X) := hA.mulr hX (k := 1) (by decide) (by decide) (by omega) rfl (by decide) (by rw [hp]; omega)
  have r1' : Ra p 2 (FP.dmul X A) := hX.mulr hA (k := 1) (by decide) (by decide) (by omega) rfl (by decide) (by rw [Int.mul_comm x a, hp]; omega)
  have t1 : Ra t 2 (FP.dmul B Y) := hB.mulr hY (k := 1) (by decide) (by decide) (by omega) rfl (by decide) (by rw [ht]; omega)
  have t1' : Ra t 2 (FP.dmul Y B) := hY.mulr hB (k := 1) (by decide) (by decide) (by omega) rfl (by decide) (by rw [Int.mul_comm y b, ht]; omega)
  have r2 : Ra (2 * c - p) 2 (FP.dsub C (FP.dmul A X)) := hC2.sub r1 (k := 1) (by omega) rfl (by decide)
  have r3 : Ra (2 * c - p - t) 2 (FP.dsub (FP.dsub C (FP.dmul A X)) (FP.dmul B Y)) := r2.sub t1 (k := 1) (by omega) rfl (by decide)
  obtain ⟨m, hm, bm⟩ := own_e (s := 2 * c - p - t) he
  have r4 : Ra m 4 (FP.ddiv (FP.dsub (FP.dsub C (FP.dmul A X)) (FP.dmul B Y)) E) := r3.div hE (r := m) (F := 4) (k := 2) (by decide) (by decide) (by omega) (by omega) rfl (by decide) (by show (2 * c - p - t) * 1 * 4 = m * (e * 2); rw [Int.mul_one, ← Int.mul_assoc, ← hm]; omega)
  have n4 := r4.nn
  rw [hq] at r4
  have r5 : Ra (2 * c - p - t) 2 (FP.dmul q E) := r4.mulr hE (r := 2 * c - p - t) (F := 2) (k := 1) (by decide) (by decide) (by omega) rfl (by decide) (by show m * e * 2 = (2 * c - p - t) * (4 * 1); rw [← hm]; omega)
  have o1 := r5.add r1' (k := 1) (by omega) rfl (by decide)
  have o2 := o1.add t1' (k := 1) (by omega) rfl (by decide)
  have u1 := r1'.add r5 (k := 1) (by omega) rfl (by decide)
  have u2 := u1.add t1' (k := 1) (by omega) rfl (by decide)
  have w1 := r1'.add t1' (k := 1) (by omega) rfl (by decide)
  have w2 := w1.add r5 (k := 1) (by omega) rfl (by decide)
  exact ⟨⟨r1.nn, r2.nn, t1.nn, r3.nn, n4⟩, ⟨r5.nn, r1'.nn, t1'.nn⟩, ⟨o1.nn, o2.nn, o2.eq hC2 (by decide) (by omega) _⟩, ⟨u1.nn, u2.nn, u2.eq hC2 (by decide) (by omega) _⟩, ⟨w1.nn, w2.nn, w2.eq hC2 (by decide) (by omega) _⟩⟩
open Jvm.OwnFP in
theorem own_pvr (i : Int32) : ∃ e : Int, Ra e 1 (own_pv i) ∧ (e = 1 ∨ e = -1 ∨ e = 2 ∨ e = -2) := by
  unfold own_pv
  split
  · exact ⟨1, ra_one, by omega⟩
  split
  · exact ⟨-1, Ra.lit (s := true) (c := 4503599627370496) (q := -52) (k := 0) (n := 52) (by decide +kernel) rfl (by decide) (by decide) (by decide), by omega⟩
  split
  · exact ⟨2, ra_two, by omega⟩
  · exact ⟨-2, Ra.lit (s := true) (c := 4503599627370496) (q := -51) (k := 0) (n := 51) (by decide +kernel) rfl (by decide) (by decide) (by decide), by omega⟩
theorem own_byte (w : Int32) : (w.toInt8.toInt32).toInt.natAbs ≤ 128 := by have := c_i2b w; omega
theorem own_int (w : Int32) : w.toInt.natAbs ≤ 2147483648 := by have := rng32 w; omega
theorem own_bit (w : Int32) : (w &&& (1 : Int32)) = 0 ∨ (w &&& (1 : Int32)) = 1 := by
  have a := c_and w (1 : Int32) (by decide)
  rw [show (1 : Int32).toInt = 1 by decide] at a
  have k : (w &&& (1 : Int32)).toInt = 0 ∨ (w &&& (1 : Int32)).toInt = 1 := by omega
  rcases k with k | k
  · exact Or.inl (Int32.toInt_inj.mp (by rw [k]; decide))
  · exact Or.inr (Int32.toInt_inj.mp (by rw [k]; decide))
theorem own_3 {w : Int32} (h : 0 ≤ w.toInt) : (w % (3 : Int32)) = 0 ∨ (w % (3 : Int32)) = 1 ∨ (w % (3 : Int32)) = 2 := by
  have a := (c_irem w (3 : Int32) 3 (by decide)).1 h
  have k : (w % (3 : Int32)).toInt = 0 ∨ (w % (3 : Int32)).toInt = 1 ∨ (w % (3 : Int32)).toInt = 2 := by omega
  rcases k with k | k | k
  · exact Or.inl (Int32.toInt_inj.mp (by rw [k]; decide))
  · exact Or.inr (Or.inl (Int32.toInt_inj.mp (by rw [k]; decide)))
  · exact Or.inr (Or.inr (Int32.toInt_inj.mp (by rw [k]; decide)))
theorem own_sh (p : Int32) : 0 ≤ ((p.toUInt32 >>> ((24 : Int32) &&& 31).toUInt32).toInt32).toInt := by
  rw [c_iushr p (24 : Int32) 24 (by decide) (by decide)]
  have := Int.emod_nonneg p.toInt (show (4294967296 : Int) ≠ 0 by decide)
  exact Int.ediv_nonneg this (by decide)
theorem own_an (w : Int32) : 0 ≤ (w &&& (3 : Int32)).toInt := (c_and w (3 : Int32) (by decide)).1
theorem own_law (l : Launch) (Z : State) (a0 : Array Value) (hw : ∀ d ∈ tables_1, d.before a0 Z = true) (ws : List Jvm.Cond) (p0 : Int32) (p1 : Int32) (p2 : Int32) (p3 : Int32) (p4 : Int32) (h0 : Heap) (n0 : Nat) (Z0 : n0 ≤ h0.size) :
    MetFree l x (head1 (Jvm.Cond.code x code maxLocals ret :: ws) room_1) (fun a U => a = #[(.int p0), (.int p1), (.int p2), (.int p3), (.int p4)] ∧ Z.Warmed39 U.vm ∧ U.heap = h0) (fun _ _ _ _ _ => True) (fun _ U o U' => ∃ v L, o = .returned v ∧ Q0 n0 v U'.heap L ∧ FrameEnd U o U' L room_1.cells room_1.slots) := by
  have bu0 := own_byte p3
  obtain ⟨u0, eu0⟩ : ∃ z, (p3.toInt8.toInt32) = z := ⟨_, rfl⟩
  rw [eu0] at bu0
  have ru0 := Jvm.OwnFP.Ra.i2d u0
  have bu1 := own_byte (p3 >>> ((8 : Int32) &&& 31))
  obtain ⟨u1, eu1⟩ : ∃ z, ((p3 >>> ((8 : Int32) &&& 31)).toInt8.toInt32) = z := ⟨_, rfl⟩
  rw [eu1] at bu1
  have ru1 := Jvm.OwnFP.Ra.i2d u1
  have bu2 := own_byte (p3 >>> ((16 : Int32) &&& 31))
  obtain ⟨u2, eu2⟩ : ∃ z, ((p3 >>> ((16 : Int32) &&& 31)).toInt8.toInt32) = z := ⟨_, rfl⟩
  rw [eu2] at bu2
  have ru2 := Jvm.OwnFP.Ra.i2d u2
  have bu3 := own_byte (p3 >>> ((24 : Int32) &&& 31))
  obtain ⟨u3, eu3⟩ : ∃ z, ((p3 >>> ((24 : Int32) &&& 31)).toInt8.toInt32) = z := ⟨_, rfl⟩
  rw [eu3] at bu3
  have ru3 := Jvm.OwnFP.Ra.i2d u3
  have bp0 := own_int p0
  have rp0 := Jvm.OwnFP.Ra.i2d p0
  have rr0 : Jvm.OwnFP.Ra (2 * p0.toInt) 2 (FP.i2d p0) := rp0.scale (by decide) (by omega)
  have sp0 := rp0.eq rp0 (by decide) rfl .l
  have bp1 := own_int p1
  have rp1 := Jvm.OwnFP.Ra.i2d p1
  have rr1 : Jvm.OwnFP.Ra (2 * p1.toInt) 2 (FP.i2d p1) := rp1.scale (by decide) (by omega)
  have sp1 := rp1.eq rp1 (by decide) rfl .l
  have bp2 := own_int p2
  have rp2 := Jvm.OwnFP.Ra.i2d p2
  have rr2 : Jvm.OwnFP.Ra (2 * p2.toInt) 2 (FP.i2d p2) := rp2.scale (by decide) (by omega)
  have sp2 := rp2.eq rp2 (by decide) rfl .l
  obtain ⟨pa, epa⟩ : ∃ z, (((p4.toUInt32 >>> ((5 : Int32) &&& 31).toUInt32).toInt32) &&& (3 : Int32)) = z := ⟨_, rfl⟩
  obtain ⟨pb, epb⟩ : ∃ z, (((p4.toUInt32 >>> ((7 : Int32) &&& 31).toUInt32).toInt32) &&& (3 : Int32)) = z := ⟨_, rfl⟩
  obtain ⟨x1, rd1, hx1⟩ := own_pvr pa
  obtain ⟨x2, rd2, hx2⟩ := own_pvr pb
  obtain ⟨d1, ed1⟩ : ∃ z, own_pv pa = z := ⟨_, rfl⟩
  obtain ⟨d2, ed2⟩ : ∃ z, own_pv pb = z := ⟨_, rfl⟩
  rw [ed1] at rd1
  rw [ed2] at rd2
  have kr := own_3 (own_sh p4)
  have kb := own_bit ((p4.toUInt32 >>> ((2 : Int32) &&& 31).toUInt32).toInt32)
  have kn := own_3 (own_an ((p4.toUInt32 >>> ((3 : Int32) &&& 31).toUInt32).toInt32))
  rcases kr with kr | kr | kr
  · rcases kb with kb | kb
    · rcases kn with kn | kn | kn
      · exact rm0 l Z a0 hw ws p0 p1 p2 p3 p4 d1 d2 d1 (FP.i2d u1) (FP.i2d u2) (FP.i2d p0) (FP.i2d p1) (FP.i2d p2) (FP.i2d p0) (FP.i2d p0) (0 : Int32) u0 u1 u2 (1 : Int32) (2 : Int32) pa pb u3 h0 n0 Z0 (hl_ra := (by decide)) (hn_ra := (by decide)) (hvv := rfl) (hv6 := kr) (hv21 := (by rw [kb]; decide)) (hv30 := (by decide)) (hv40 := kn) (hv48 := epa) (hpw_49 := ed1) (hv60 := epb) (hpw_61 := ed2) (hv72 := eu0) (hv81 := eu1) (hv90 := eu2) (hv148 := eu3) (hjj_260 := (by decide)) (hcj_260 := rfl) (hyj_260 := rfl) (hd91_260 := sp0) (hjj_283 := (by decide)) (hcj_283 := rfl) (hyj_283 := rfl) (hd91_283 := sp1) (hjj_306 := (by decide)) (hcj_306 := rfl) (hyj_306 := rfl) (hd91_306 := sp2)
      · obtain ⟨qa, eqa⟩ : ∃ z, FP.ddiv (FP.dsub (FP.dsub (FP.i2d p0) (FP.dmul (FP.i2d u1) (FP.i2d p1))) (FP.dmul (FP.i2d u2) (FP.i2d p2))) d1 = z := ⟨_, rfl⟩
        obtain ⟨⟨s1, s2, s3, s4, s5⟩, ⟨k1, k2, k3⟩, ⟨o1, o2, o3⟩, ⟨g1', g2', g3'⟩, ⟨w1, w2, w3⟩⟩ := own_S rp0 rr1 rr2 ru1 ru2 rd1 hx1 bp0 (by omega) (by omega) bu1 bu2 eqa
        exact rm1 l Z a0 hw ws p0 p1 p2 p3 p4 d1 d2 d1 (FP.i2d u1) (FP.i2d u2) qa (FP.i2d p1) (FP.i2d p2) (FP.i2d p0) (FP.i2d p0) d1 (FP.i2d u1) (FP.i2d u2) qa (FP.i2d p0) (FP.i2d p1) (FP.i2d p2) qa (FP.i2d p1) (FP.i2d p2) (0 : Int32) (1 : Int32) (2 : Int32) u0 u1 u2 (1 : Int32) (2 : Int32) pa pb u3 h0 n0 Z0 (hl_ra := (by decide)) (hn_ra := (by decide)) (hvv := rfl) (hv6 := kr) (hv21 := (by rw [kb]; decide)) (hv30 := (by decide)) (hv40 := kn) (hv48 := epa) (hpw_49 := ed1) (hv60 := epb) (hpw_61 := ed2) (hv72 := eu0) (hv81 := eu1) (hv90 := eu2) (hv148 := eu3) (hcase_216 := Or.inl ⟨rfl, rfl, rfl, rfl, rfl, rfl, (by decide), (by decide)⟩) (hn_ra_240 := (by decide)) (hca_240 := rfl) (hn_tx_240 := (by decide)) (hcx_240 := rfl) (hn_ty_240 := (by decide)) (hcy_240 := rfl) (hl_ra_240 := (by decide)) (hy_240 := rfl) (nn62_240 := s1) (nn63_240 := s2) (nn62_1_240 := s3) (nn63_1_240 := s4) (nn82_240 := s5) (hq82_240 := eqa) (hjj_260 := (by decide)) (hcj_260 := rfl) (hcase_260 := Or.inl ⟨rfl, k1, k2, o1, k3, o2, o3⟩) (hjj_283 := (by decide)) (hcj_283 := rfl) (hcase_283 := Or.inr ⟨rfl, (by decide), sp1⟩) (hjj_306 := (by decide)) (hcj_306 := rfl) (hcase_306 := Or.inr ⟨rfl, (by decide), sp2⟩)
      · obtain ⟨qb, eqb⟩ : ∃ z, FP.ddiv (FP.dsub (FP.i2d p1) (FP.dmul (FP.i2d u3) (FP.i2d p2))) d2 = z := ⟨_, rfl⟩
        obtain ⟨t1, t2, t3, t4, t5, t6, t7, m2, rm, bm⟩ := own_T rp1 rp2 ru3 rd2 hx2 bp1 bp2 bu3 eqb
        obtain ⟨qa, eqa⟩ : ∃ z, FP.ddiv (FP.dsub (FP.dsub (FP.i2d p0) (FP.dmul (FP.i2d u1) qb)) (FP.dmul (FP.i2d u2) (FP.i2d p2))) d1 = z := ⟨_, rfl⟩
        obtain ⟨⟨s1, s2, s3, s4, s5⟩, ⟨k1, k2, k3⟩, ⟨o1, o2, o3⟩, ⟨g1', g2', g3'⟩, ⟨w1, w2, w3⟩⟩ := own_S rp0 rm rr2 ru1 ru2 rd1 hx1 bp0 bm (by omega) bu1 bu2 eqa
        exact rm2 l Z a0 hw ws p0 p1 p2 p3 p4 d1 d2 d1 (FP.i2d u1) (FP.i2d u2) qa qb (FP.i2d p2) qb (FP.i2d p2) d1 (FP.i2d u1) (FP.i2d u2) qa (FP.i2d p0) qb (FP.i2d p2) qa qb (FP.i2d p2) qb (FP.i2d p1) (FP.i2d p2) (FP.i2d p0) qb (FP.i2d p2) (0 : Int32) (1 : Int32) (2 : Int32) u0 u1 u2 (1 : Int32) (2 : Int32) pa pb u3 h0 n0 Z0 (hl_ra := (by decide)) (hn_ra := (by decide)) (hvv := rfl) (hv6 := kr) (hv21 := (by rw [kb]; decide)) (hv30 := (by decide)) (hv40 := kn) (hv48 := epa) (hpw_49 := ed1) (hv60 := epb) (hpw_61 := ed2) (hv72 := eu0) (hv81 := eu1) (hv90 := eu2) (hv148 := eu3) (hcase_216 := Or.inl ⟨rfl, rfl, rfl, rfl, rfl, rfl, (by decide), (by decide)⟩) (hc29_233 := (by decide)) (hn_rb_240 := (by decide)) (hcb_240 := rfl) (hn_ra_240 := (by decide)) (hca_240 := rfl) (hn_rc_240 := (by decide)) (hcc_240 := rfl) (hn_tx_240 := (by decide)) (hcx_240 := rfl) (hn_ty_240 := (by decide)) (hcy_240 := rfl) (hl_rb_240 := (by decide)) (hl_ra_240 := (by decide)) (hz_240 := rfl) (hy_240 := rfl) (nn62_240 := t1) (nn63_240 := t2) (nn82_240 := t3) (hq82_240 := eqb) (nn62_1_240 := s1) (nn63_1_240 := s2) (nn62_2_240 := s3) (nn63_2_240 := s4) (nn82_1_240 := s5) (hq82_1_240 := eqa) (hjj_260 := (by decide)) (hcj_260 := rfl) (hcase_260 := Or.inl ⟨rfl, k1, k2, o1, k3, o2, o3⟩) (hjj_283 := (by decide)) (hcj_283 := rfl) (hcase_283 := Or.inr (Or.inl ⟨(by decide), rfl, (by decide), rfl, (by decide), rfl, t4, t5, t6, t7⟩)) (hjj_306 := (by decide)) (hcj_306 := rfl) (hcase_306 := Or.inr (Or.inr ⟨rfl, (by decide), (by decide), sp2⟩))
    · rcases kn with kn | kn | kn
      · exact rm0 l Z a0 hw ws p0 p1 p2 p3 p4 d1 d2 d1 (FP.i2d u1) (FP.i2d u2) (FP.i2d p0) (FP.i2d p1) (FP.i2d p2) (FP.i2d p0) (FP.i2d p0) (0 : Int32) u0 u1 u2 (2 : Int32) (1 : Int32) pa pb u3 h0 n0 Z0 (hl_ra := (by decide)) (hn_ra := (by decide)) (hvv := rfl) (hv6 := kr) (hv21 := (by rw [kb]; decide)) (hv30 := (by decide)) (hv40 := kn) (hv48 := epa) (hpw_49 := ed1) (hv60 := epb) (hpw_61 := ed2) (hv72 := eu0) (hv81 := eu1) (hv90 := eu2) (hv148 := eu3) (hjj_260 := (by decide)) (hcj_260 := rfl) (hyj_260 := rfl) (hd91_260 := sp0) (hjj_283 := (by decide)) (hcj_283 := rfl) (hyj_283 := rfl) (hd91_283 := sp1) (hjj_306 := (by decide)) (hcj_306 := rfl) (hyj_306 := rfl) (hd91_306 := sp2)
      · obtain ⟨qa, eqa⟩ : ∃ z, FP.ddiv (FP.dsub (FP.dsub (FP.i2d p0) (FP.dmul (FP.i2d u1) (FP.i2d p1))) (FP.dmul (FP.i2d u2) (FP.i2d p2))) d1 = z := ⟨_, rfl⟩
        obtain ⟨⟨s1, s2, s3, s4, s5⟩, ⟨k1, k2, k3⟩, ⟨o1, o2, o3⟩, ⟨g1', g2', g3'⟩, ⟨w1, w2, w3⟩⟩ := own_S rp0 rr1 rr2 ru1 ru2 rd1 hx1 bp0 (by omega) (by omega) bu1 bu2 eqa
        exact rm1 l Z a0 hw ws p0 p1 p2 p3 p4 d1 d2 d1 (FP.i2d u1) (FP.i2d u2) qa (FP.i2d p1) (FP.i2d p2) (FP.i2d p0) (FP.i2d p0) d1 (FP.i2d u1) (FP.i2d u2) qa (FP.i2d p0) (FP.i2d p1) (FP.i2d p2) qa (FP.i2d p1) (FP.i2d p2) (0 : Int32) (1 : Int32) (2 : Int32) u0 u1 u2 (2 : Int32) (1 : Int32) pa pb u3 h0 n0 Z0 (hl_ra := (by decide)) (hn_ra := (by decide)) (hvv := rfl) (hv6 := kr) (hv21 := (by rw [kb]; decide)) (hv30 := (by decide)) (hv40 := kn) (hv48 := epa) (hpw_49 := ed1) (hv60 := epb) (hpw_61 := ed2) (hv72 := eu0) (hv81 := eu1) (hv90 := eu2) (hv148 := eu3) (hcase_216 := Or.inl ⟨rfl, rfl, rfl, rfl, rfl, rfl, (by decide), (by decide)⟩) (hn_ra_240 := (by decide)) (hca_240 := rfl) (hn_tx_240 := (by decide)) (hcx_240 := rfl) (hn_ty_240 := (by decide)) (hcy_240 := rfl) (hl_ra_240 := (by decide)) (hy_240 := rfl) (nn62_240 := s1) (nn63_240 := s2) (nn62_1_240 := s3) (nn63_1_240 := s4) (nn82_240 := s5) (hq82_240 := eqa) (hjj_260 := (by decide)) (hcj_260 := rfl) (hcase_260 := Or.inl ⟨rfl, k1, k2, o1, k3, o2, o3⟩) (hjj_283 := (by decide)) (hcj_283 := rfl) (hcase_283 := Or.inr ⟨rfl, (by decide), sp1⟩) (hjj_306 := (by decide)) (hcj_306 := rfl) (hcase_306 := Or.inr ⟨rfl, (by decide), sp2⟩)
      · obtain ⟨qb, eqb⟩ : ∃ z, FP.ddiv (FP.dsub (FP.i2d p2) (FP.dmul (FP.i2d u3) (FP.i2d p1))) d2 = z := ⟨_, rfl⟩
        obtain ⟨t1, t2, t3, t4, t5, t6, t7, m2, rm, bm⟩ := own_T rp2 rp1 ru3 rd2 hx2 bp2 bp1 bu3 eqb
        obtain ⟨qa, eqa⟩ : ∃ z, FP.ddiv (FP.dsub (FP.dsub (FP.i2d p0) (FP.dmul (FP.i2d u1) (FP.i2d p1))) (FP.dmul (FP.i2d u2) qb)) d1 = z := ⟨_, rfl⟩
        obtain ⟨⟨s1, s2, s3, s4, s5⟩, ⟨k1, k2, k3⟩, ⟨o1, o2, o3⟩, ⟨g1', g2', g3'⟩, ⟨w1, w2, w3⟩⟩ := own_S rp0 rr1 rm ru1 ru2 rd1 hx1 bp0 (by omega) bm bu1 bu2 eqa
        exact rm2 l Z a0 hw ws p0 p1 p2 p3 p4 d1 d2 d1 (FP.i2d u1) (FP.i2d u2) qa (FP.i2d p1) qb qb (FP.i2d p1) d1 (FP.i2d u1) (FP.i2d u2) qa (FP.i2d p0) (FP.i2d p1) qb qa (FP.i2d p1) qb qb (FP.i2d p2) (FP.i2d p1) (FP.i2d p0) (FP.i2d p1) qb (0 : Int32) (1 : Int32) (2 : Int32) u0 u1 u2 (2 : Int32) (1 : Int32) pa pb u3 h0 n0 Z0 (hl_ra := (by decide)) (hn_ra := (by decide)) (hvv := rfl) (hv6 := kr) (hv21 := (by rw [kb]; decide)) (hv30 := (by decide)) (hv40 := kn) (hv48 := epa) (hpw_49 := ed1) (hv60 := epb) (hpw_61 := ed2) (hv72 := eu0) (hv81 := eu1) (hv90 := eu2) (hv148 := eu3) (hcase_216 := Or.inl ⟨rfl, rfl, rfl, rfl, rfl, rfl, (by decide), (by decide)⟩) (hc29_233 := (by decide)) (hn_rb_240 := (by decide)) (hcb_240 := rfl) (hn_ra_240 := (by decide)) (hca_240 := rfl) (hn_rc_240 := (by decide)) (hcc_240 := rfl) (hn_tx_240 := (by decide)) (hcx_240 := rfl) (hn_ty_240 := (by decide)) (hcy_240 := rfl) (hl_rb_240 := (by decide)) (hl_ra_240 := (by decide)) (hz_240 := rfl) (hy_240 := rfl) (nn62_240 := t1) (nn63_240 := t2) (nn82_240 := t3) (hq82_240 := eqb) (nn62_1_240 := s1) (nn63_1_240 := s2) (nn62_2_240 := s3) (nn63_2_240 := s4) (nn82_1_240 := s5) (hq82_1_240 := eqa) (hjj_260 := (by decide)) (hcj_260 := rfl) (hcase_260 := Or.inl ⟨rfl, k1, k2, o1, k3, o2, o3⟩) (hjj_283 := (by decide)) (hcj_283 := rfl) (hcase_283 := Or.inr (Or.inr ⟨rfl, (by decide), (by decide), sp1⟩)) (hjj_306 := (by decide)) (hcj_306 := rfl) (hcase_306 := Or.inr (Or.inl ⟨(by decide), rfl, (by decide), rfl, (by decide), rfl, t4, t5, t6, t7⟩))
  · rcases kb with kb | kb
    · rcases kn with kn | kn | kn
      · exact rm0 l Z a0 hw ws p0 p1 p2 p3 p4 d1 d2 (FP.i2d u0) d1 (FP.i2d u2) (FP.i2d p0) (FP.i2d p1) (FP.i2d p2) (FP.i2d p0) (FP.i2d p0) (1 : Int32) u0 u1 u2 (2 : Int32) (0 : Int32) pa pb u3 h0 n0 Z0 (hl_ra := (by decide)) (hn_ra := (by decide)) (hvv := rfl) (hv6 := kr) (hv21 := (by rw [kb]; decide)) (hv30 := (by decide)) (hv40 := kn) (hv48 := epa) (hpw_49 := ed1) (hv60 := epb) (hpw_61 := ed2) (hv72 := eu0) (hv81 := eu1) (hv90 := eu2) (hv148 := eu3) (hjj_260 := (by decide)) (hcj_260 := rfl) (hyj_260 := rfl) (hd91_260 := sp0) (hjj_283 := (by decide)) (hcj_283 := rfl) (hyj_283 := rfl) (hd91_283 := sp1) (hjj_306 := (by decide)) (hcj_306 := rfl) (hyj_306 := rfl) (hd91_306 := sp2)
      · obtain ⟨qa, eqa⟩ : ∃ z, FP.ddiv (FP.dsub (FP.dsub (FP.i2d p1) (FP.dmul (FP.i2d u0) (FP.i2d p0))) (FP.dmul (FP.i2d u2) (FP.i2d p2))) d1 = z := ⟨_, rfl⟩
        obtain ⟨⟨s1, s2, s3, s4, s5⟩, ⟨k1, k2, k3⟩, ⟨o1, o2, o3⟩, ⟨g1', g2', g3'⟩, ⟨w1, w2, w3⟩⟩ := own_S rp1 rr0 rr2 ru0 ru2 rd1 hx1 bp1 (by omega) (by omega) bu0 bu2 eqa
        exact rm1 l Z a0 hw ws p0 p1 p2 p3 p4 d1 d2 (FP.i2d u0) d1 (FP.i2d u2) (FP.i2d p0) qa (FP.i2d p2) (FP.i2d p0) (FP.i2d p0) d1 (FP.i2d u0) (FP.i2d u2) qa (FP.i2d p1) (FP.i2d p0) (FP.i2d p2) (FP.i2d p0) qa (FP.i2d p2) (1 : Int32) (0 : Int32) (2 : Int32) u0 u1 u2 (2 : Int32) (0 : Int32) pa pb u3 h0 n0 Z0 (hl_ra := (by decide)) (hn_ra := (by decide)) (hvv := rfl) (hv6 := kr) (hv21 := (by rw [kb]; decide)) (hv30 := (by decide)) (hv40 := kn) (hv48 := epa) (hpw_49 := ed1) (hv60 := epb) (hpw_61 := ed2) (hv72 := eu0) (hv81 := eu1) (hv90 := eu2) (hv148 := eu3) (hcase_216 := Or.inr (Or.inl ⟨rfl, rfl, rfl, rfl, rfl, (by decide), rfl, (by decide)⟩)) (hn_ra_240 := (by decide)) (hca_240 := rfl) (hn_tx_240 := (by decide)) (hcx_240 := rfl) (hn_ty_240 := (by decide)) (hcy_240 := rfl) (hl_ra_240 := (by decide)) (hy_240 := rfl) (nn62_240 := s1) (nn63_240 := s2) (nn62_1_240 := s3) (nn63_1_240 := s4) (nn82_240 := s5) (hq82_240 := eqa) (hjj_260 := (by decide)) (hcj_260 := rfl) (hcase_260 := Or.inr ⟨rfl, (by decide), sp0⟩) (hjj_283 := (by decide)) (hcj_283 := rfl) (hcase_283 := Or.inl ⟨rfl, k2, k1, g1', k3, g2', g3'⟩) (hjj_306 := (by decide)) (hcj_306 := rfl) (hcase_306 := Or.inr ⟨rfl, (by decide), sp2⟩)
      · obtain ⟨qb, eqb⟩ : ∃ z, FP.ddiv (FP.dsub (FP.i2d p2) (FP.dmul (FP.i2d u3) (FP.i2d p0))) d2 = z := ⟨_, rfl⟩
        obtain ⟨t1, t2, t3, t4, t5, t6, t7, m2, rm, bm⟩ := own_T rp2 rp0 ru3 rd2 hx2 bp2 bp0 bu3 eqb
        obtain ⟨qa, eqa⟩ : ∃ z, FP.ddiv (FP.dsub (FP.dsub (FP.i2d p1) (FP.dmul (FP.i2d u0) (FP.i2d p0))) (FP.dmul (FP.i2d u2) qb)) d1 = z := ⟨_, rfl⟩
        obtain ⟨⟨s1, s2, s3, s4, s5⟩, ⟨k1, k2, k3⟩, ⟨o1, o2, o3⟩, ⟨g1', g2', g3'⟩, ⟨w1, w2, w3⟩⟩ := own_S rp1 rr0 rm ru0 ru2 rd1 hx1 bp1 (by omega) bm bu0 bu2 eqa
        exact rm2 l Z a0 hw ws p0 p1 p2 p3 p4 d1 d2 (FP.i2d u0) d1 (FP.i2d u2) (FP.i2d p0) qa qb qb (FP.i2d p0) d1 (FP.i2d u0) (FP.i2d u2) qa (FP.i2d p1) (FP.i2d p0) qb (FP.i2d p0) qa qb qb (FP.i2d p2) (FP.i2d p0) (FP.i2d p0) (FP.i2d p1) qb (1 : Int32) (0 : Int32) (2 : Int32) u0 u1 u2 (2 : Int32) (0 : Int32) pa pb u3 h0 n0 Z0 (hl_ra := (by decide)) (hn_ra := (by decide)) (hvv := rfl) (hv6 := kr) (hv21 := (by rw [kb]; decide)) (hv30 := (by decide)) (hv40 := kn) (hv48 := epa) (hpw_49 := ed1) (hv60 := epb) (hpw_61 := ed2) (hv72 := eu0) (hv81 := eu1) (hv90 := eu2) (hv148 := eu3) (hcase_216 := Or.inr (Or.inl ⟨rfl, rfl, rfl, rfl, rfl, (by decide), rfl, (by decide)⟩)) (hc29_233 := (by decide)) (hn_rb_240 := (by decide)) (hcb_240 := rfl) (hn_ra_240 := (by decide)) (hca_240 := rfl) (hn_rc_240 := (by decide)) (hcc_240 := rfl) (hn_tx_240 := (by decide)) (hcx_240 := rfl) (hn_ty_240 := (by decide)) (hcy_240 := rfl) (hl_rb_240 := (by decide)) (hl_ra_240 := (by decide)) (hz_240 := rfl) (hy_240 := rfl) (nn62_240 := t1) (nn63_240 := t2) (nn82_240 := t3) (hq82_240 := eqb) (nn62_1_240 := s1) (nn63_1_240 := s2) (nn62_2_240 := s3) (nn63_2_240 := s4) (nn82_1_240 := s5) (hq82_1_240 := eqa) (hjj_260 := (by decide)) (hcj_260 := rfl) (hcase_260 := Or.inr (Or.inr ⟨rfl, (by decide), (by decide), sp0⟩)) (hjj_283 := (by decide)) (hcj_283 := rfl) (hcase_283 := Or.inl ⟨rfl, k2, k1, g1', k3, g2', g3'⟩) (hjj_306 := (by decide)) (hcj_306 := rfl) (hcase_306 := Or.inr (Or.inl ⟨(by decide), rfl, (by decide), rfl, (by decide), rfl, t4, t5, t6, t7⟩))
    · rcases kn with kn | kn | kn
      · exact rm0 l Z a0 hw ws p0 p1 p2 p3 p4 d1 d2 (FP.i2d u0) d1 (FP.i2d u2) (FP.i2d p0) (FP.i2d p1) (FP.i2d p2) (FP.i2d p0) (FP.i2d p0) (1 : Int32) u0 u1 u2 (0 : Int32) (2 : Int32) pa pb u3 h0 n0 Z0 (hl_ra := (by decide)) (hn_ra := (by decide)) (hvv := rfl) (hv6 := kr) (hv21 := (by rw [kb]; decide)) (hv30 := (by decide)) (hv40 := kn) (hv48 := epa) (hpw_49 := ed1) (hv60 := epb) (hpw_61 := ed2) (hv72 := eu0) (hv81 := eu1) (hv90 := eu2) (hv148 := eu3) (hjj_260 := (by decide)) (hcj_260 := rfl) (hyj_260 := rfl) (hd91_260 := sp0) (hjj_283 := (by decide)) (hcj_283 := rfl) (hyj_283 := rfl) (hd91_283 := sp1) (hjj_306 := (by decide)) (hcj_306 := rfl) (hyj_306 := rfl) (hd91_306 := sp2)
      · obtain ⟨qa, eqa⟩ : ∃ z, FP.ddiv (FP.dsub (FP.dsub (FP.i2d p1) (FP.dmul (FP.i2d u0) (FP.i2d p0))) (FP.dmul (FP.i2d u2) (FP.i2d p2))) d1 = z := ⟨_, rfl⟩
        obtain ⟨⟨s1, s2, s3, s4, s5⟩, ⟨k1, k2, k3⟩, ⟨o1, o2, o3⟩, ⟨g1', g2', g3'⟩, ⟨w1, w2, w3⟩⟩ := own_S rp1 rr0 rr2 ru0 ru2 rd1 hx1 bp1 (by omega) (by omega) bu0 bu2 eqa
        exact rm1 l Z a0 hw ws p0 p1 p2 p3 p4 d1 d2 (FP.i2d u0) d1 (FP.i2d u2) (FP.i2d p0) qa (FP.i2d p2) (FP.i2d p0) (FP.i2d p0) d1 (FP.i2d u0) (FP.i2d u2) qa (FP.i2d p1) (FP.i2d p0) (FP.i2d p2) (FP.i2d p0) qa (FP.i2d p2) (1 : Int32) (0 : Int32) (2 : Int32) u0 u1 u2 (0 : Int32) (2 : Int32) pa pb u3 h0 n0 Z0 (hl_ra := (by decide)) (hn_ra := (by decide)) (hvv := rfl) (hv6 := kr) (hv21 := (by rw [kb]; decide)) (hv30 := (by decide)) (hv40 := kn) (hv48 := epa) (hpw_49 := ed1) (hv60 := epb) (hpw_61 := ed2) (hv72 := eu0) (hv81 := eu1) (hv90 := eu2) (hv148 := eu3) (hcase_216 := Or.inr (Or.inl ⟨rfl, rfl, rfl, rfl, rfl, (by decide), rfl, (by decide)⟩)) (hn_ra_240 := (by decide)) (hca_240 := rfl) (hn_tx_240 := (by decide)) (hcx_240 := rfl) (hn_ty_240 := (by decide)) (hcy_240 := rfl) (hl_ra_240 := (by decide)) (hy_240 := rfl) (nn62_240 := s1) (nn63_240 := s2) (nn62_1_240 := s3) (nn63_1_240 := s4) (nn82_240 := s5) (hq82_240 := eqa) (hjj_260 := (by decide)) (hcj_260 := rfl) (hcase_260 := Or.inr ⟨rfl, (by decide), sp0⟩) (hjj_283 := (by decide)) (hcj_283 := rfl) (hcase_283 := Or.inl ⟨rfl, k2, k1, g1', k3, g2', g3'⟩) (hjj_306 := (by decide)) (hcj_306 := rfl) (hcase_306 := Or.inr ⟨rfl, (by decide), sp2⟩)
      · obtain ⟨qb, eqb⟩ : ∃ z, FP.ddiv (FP.dsub (FP.i2d p0) (FP.dmul (FP.i2d u3) (FP.i2d p2))) d2 = z := ⟨_, rfl⟩
        obtain ⟨t1, t2, t3, t4, t5, t6, t7, m2, rm, bm⟩ := own_T rp0 rp2 ru3 rd2 hx2 bp0 bp2 bu3 eqb
        obtain ⟨qa, eqa⟩ : ∃ z, FP.ddiv (FP.dsub (FP.dsub (FP.i2d p1) (FP.dmul (FP.i2d u0) qb)) (FP.dmul (FP.i2d u2) (FP.i2d p2))) d1 = z := ⟨_, rfl⟩
        obtain ⟨⟨s1, s2, s3, s4, s5⟩, ⟨k1, k2, k3⟩, ⟨o1, o2, o3⟩, ⟨g1', g2', g3'⟩, ⟨w1, w2, w3⟩⟩ := own_S rp1 rm rr2 ru0 ru2 rd1 hx1 bp1 bm (by omega) bu0 bu2 eqa
        exact rm2 l Z a0 hw ws p0 p1 p2 p3 p4 d1 d2 (FP.i2d u0) d1 (FP.i2d u2) qb qa (FP.i2d p2) qb (FP.i2d p2) d1 (FP.i2d u0) (FP.i2d u2) qa (FP.i2d p1) qb (FP.i2d p2) qb qa (FP.i2d p2) qb (FP.i2d p0) (FP.i2d p2) qb (FP.i2d p1) (FP.i2d p2) (1 : Int32) (0 : Int32) (2 : Int32) u0 u1 u2 (0 : Int32) (2 : Int32) pa pb u3 h0 n0 Z0 (hl_ra := (by decide)) (hn_ra := (by decide)) (hvv := rfl) (hv6 := kr) (hv21 := (by rw [kb]; decide)) (hv30 := (by decide)) (hv40 := kn) (hv48 := epa) (hpw_49 := ed1) (hv60 := epb) (hpw_61 := ed2) (hv72 := eu0) (hv81 := eu1) (hv90 := eu2) (hv148 := eu3) (hcase_216 := Or.inr (Or.inl ⟨rfl, rfl, rfl, rfl, rfl, (by decide), rfl, (by decide)⟩)) (hc29_233 := (by decide)) (hn_rb_240 := (by decide)) (hcb_240 := rfl) (hn_ra_240 := (by decide)) (hca_240 := rfl) (hn_rc_240 := (by decide)) (hcc_240 := rfl) (hn_tx_240 := (by decide)) (hcx_240 := rfl) (hn_ty_240 := (by decide)) (hcy_240 := rfl) (hl_rb_240 := (by decide)) (hl_ra_240 := (by decide)) (hz_240 := rfl) (hy_240 := rfl) (nn62_240 := t1) (nn63_240 := t2) (nn82_240 := t3) (hq82_240 := eqb) (nn62_1_240 := s1) (nn63_1_240 := s2) (nn62_2_240 := s3) (nn63_2_240 := s4) (nn82_1_240 := s5) (hq82_1_240 := eqa) (hjj_260 := (by decide)) (hcj_260 := rfl) (hcase_260 := Or.inr (Or.inl ⟨(by decide), rfl, (by decide), rfl, (by decide), rfl, t4, t5, t6, t7⟩)) (hjj_283 := (by decide)) (hcj_283 := rfl) (hcase_283 := Or.inl ⟨rfl, k2, k1, g1', k3, g2', g3'⟩) (hjj_306 := (by decide)) (hcj_306 := rfl) (hcase_306 := Or.inr (Or.inr ⟨rfl, (by decide), (by decide), sp2⟩))
  · rcases kb with kb | kb
    · rcases kn with kn | kn | kn
      · exact rm0 l Z a0 hw ws p0 p1 p2 p3 p4 d1 d2 (FP.i2d u0) (FP.i2d u1) d1 (FP.i2d p0) (FP.i2d p1) (FP.i2d p2) (FP.i2d p0) (FP.i2d p0) (2 : Int32) u0 u1 u2 (0 : Int32) (1 : Int32) pa pb u3 h0 n0 Z0 (hl_ra := (by decide)) (hn_ra := (by decide)) (hvv := rfl) (hv6 := kr) (hv21 := (by rw [kb]; decide)) (hv30 := (by decide)) (hv40 := kn) (hv48 := epa) (hpw_49 := ed1) (hv60 := epb) (hpw_61 := ed2) (hv72 := eu0) (hv81 := eu1) (hv90 := eu2) (hv148 := eu3) (hjj_260 := (by decide)) (hcj_260 := rfl) (hyj_260 := rfl) (hd91_260 := sp0) (hjj_283 := (by decide)) (hcj_283 := rfl) (hyj_283 := rfl) (hd91_283 := sp1) (hjj_306 := (by decide)) (hcj_306 := rfl) (hyj_306 := rfl) (hd91_306 := sp2)
      · obtain ⟨qa, eqa⟩ : ∃ z, FP.ddiv (FP.dsub (FP.dsub (FP.i2d p2) (FP.dmul (FP.i2d u0) (FP.i2d p0))) (FP.dmul (FP.i2d u1) (FP.i2d p1))) d1 = z := ⟨_, rfl⟩
        obtain ⟨⟨s1, s2, s3, s4, s5⟩, ⟨k1, k2, k3⟩, ⟨o1, o2, o3⟩, ⟨g1', g2', g3'⟩, ⟨w1, w2, w3⟩⟩ := own_S rp2 rr0 rr1 ru0 ru1 rd1 hx1 bp2 (by omega) (by omega) bu0 bu1 eqa
        exact rm1 l Z a0 hw ws p0 p1 p2 p3 p4 d1 d2 (FP.i2d u0) (FP.i2d u1) d1 (FP.i2d p0) (FP.i2d p1) qa (FP.i2d p0) (FP.i2d p0) d1 (FP.i2d u0) (FP.i2d u1) qa (FP.i2d p2) (FP.i2d p0) (FP.i2d p1) (FP.i2d p0) (FP.i2d p1) qa (2 : Int32) (0 : Int32) (1 : Int32) u0 u1 u2 (0 : Int32) (1 : Int32) pa pb u3 h0 n0 Z0 (hl_ra := (by decide)) (hn_ra := (by decide)) (hvv := rfl) (hv6 := kr) (hv21 := (by rw [kb]; decide)) (hv30 := (by decide)) (hv40 := kn) (hv48 := epa) (hpw_49 := ed1) (hv60 := epb) (hpw_61 := ed2) (hv72 := eu0) (hv81 := eu1) (hv90 := eu2) (hv148 := eu3) (hcase_216 := Or.inr (Or.inr ⟨rfl, rfl, rfl, rfl, rfl, (by decide), (by decide), rfl⟩)) (hn_ra_240 := (by decide)) (hca_240 := rfl) (hn_tx_240 := (by decide)) (hcx_240 := rfl) (hn_ty_240 := (by decide)) (hcy_240 := rfl) (hl_ra_240 := (by decide)) (hy_240 := rfl) (nn62_240 := s1) (nn63_240 := s2) (nn62_1_240 := s3) (nn63_1_240 := s4) (nn82_240 := s5) (hq82_240 := eqa) (hjj_260 := (by decide)) (hcj_260 := rfl) (hcase_260 := Or.inr ⟨rfl, (by decide), sp0⟩) (hjj_283 := (by decide)) (hcj_283 := rfl) (hcase_283 := Or.inr ⟨rfl, (by decide), sp1⟩) (hjj_306 := (by decide)) (hcj_306 := rfl) (hcase_306 := Or.inl ⟨rfl, k2, k3, w1, k1, w2, w3⟩)
      · obtain ⟨qb, eqb⟩ : ∃ z, FP.ddiv (FP.dsub (FP.i2d p0) (FP.dmul (FP.i2d u3) (FP.i2d p1))) d2 = z := ⟨_, rfl⟩
        obtain ⟨t1, t2, t3, t4, t5, t6, t7, m2, rm, bm⟩ := own_T rp0 rp1 ru3 rd2 hx2 bp0 bp1 bu3 eqb
        obtain ⟨qa, eqa⟩ : ∃ z, FP.ddiv (FP.dsub (FP.dsub (FP.i2d p2) (FP.dmul (FP.i2d u0) qb)) (FP.dmul (FP.i2d u1) (FP.i2d p1))) d1 = z := ⟨_, rfl⟩
        obtain ⟨⟨s1, s2, s3, s4, s5⟩, ⟨k1, k2, k3⟩, ⟨o1, o2, o3⟩, ⟨g1', g2', g3'⟩, ⟨w1, w2, w3⟩⟩ := own_S rp2 rm rr1 ru0 ru1 rd1 hx1 bp2 bm (by omega) bu0 bu1 eqa
        exact rm2 l Z a0 hw ws p0 p1 p2 p3 p4 d1 d2 (FP.i2d u0) (FP.i2d u1) d1 qb (FP.i2d p1) qa qb (FP.i2d p1) d1 (FP.i2d u0) (FP.i2d u1) qa (FP.i2d p2) qb (FP.i2d p1) qb (FP.i2d p1) qa qb (FP.i2d p0) (FP.i2d p1) qb (FP.i2d p1) (FP.i2d p2) (2 : Int32) (0 : Int32) (1 : Int32) u0 u1 u2 (0 : Int32) (1 : Int32) pa pb u3 h0 n0 Z0 (hl_ra := (by decide)) (hn_ra := (by decide)) (hvv := rfl) (hv6 := kr) (hv21 := (by rw [kb]; decide)) (hv30 := (by decide)) (hv40 := kn) (hv48 := epa) (hpw_49 := ed1) (hv60 := epb) (hpw_61 := ed2) (hv72 := eu0) (hv81 := eu1) (hv90 := eu2) (hv148 := eu3) (hcase_216 := Or.inr (Or.inr ⟨rfl, rfl, rfl, rfl, rfl, (by decide), (by decide), rfl⟩)) (hc29_233 := (by decide)) (hn_rb_240 := (by decide)) (hcb_240 := rfl) (hn_ra_240 := (by decide)) (hca_240 := rfl) (hn_rc_240 := (by decide)) (hcc_240 := rfl) (hn_tx_240 := (by decide)) (hcx_240 := rfl) (hn_ty_240 := (by decide)) (hcy_240 := rfl) (hl_rb_240 := (by decide)) (hl_ra_240 := (by decide)) (hz_240 := rfl) (hy_240 := rfl) (nn62_240 := t1) (nn63_240 := t2) (nn82_240 := t3) (hq82_240 := eqb) (nn62_1_240 := s1) (nn63_1_240 := s2) (nn62_2_240 := s3) (nn63_2_240 := s4) (nn82_1_240 := s5) (hq82_1_240 := eqa) (hjj_260 := (by decide)) (hcj_260 := rfl) (hcase_260 := Or.inr (Or.inl ⟨(by decide), rfl, (by decide), rfl, (by decide), rfl, t4, t5, t6, t7⟩)) (hjj_283 := (by decide)) (hcj_283 := rfl) (hcase_283 := Or.inr (Or.inr ⟨rfl, (by decide), (by decide), sp1⟩)) (hjj_306 := (by decide)) (hcj_306 := rfl) (hcase_306 := Or.inl ⟨rfl, k2, k3, w1, k1, w2, w3⟩)
    · rcases kn with kn | kn | kn
      · exact rm0 l Z a0 hw ws p0 p1 p2 p3 p4 d1 d2 (FP.i2d u0) (FP.i2d u1) d1 (FP.i2d p0) (FP.i2d p1) (FP.i2d p2) (FP.i2d p0) (FP.i2d p0) (2 : Int32) u0 u1 u2 (1 : Int32) (0 : Int32) pa pb u3 h0 n0 Z0 (hl_ra := (by decide)) (hn_ra := (by decide)) (hvv := rfl) (hv6 := kr) (hv21 := (by rw [kb]; decide)) (hv30 := (by decide)) (hv40 := kn) (hv48 := epa) (hpw_49 := ed1) (hv60 := epb) (hpw_61 := ed2) (hv72 := eu0) (hv81 := eu1) (hv90 := eu2) (hv148 := eu3) (hjj_260 := (by decide)) (hcj_260 := rfl) (hyj_260 := rfl) (hd91_260 := sp0) (hjj_283 := (by decide)) (hcj_283 := rfl) (hyj_283 := rfl) (hd91_283 := sp1) (hjj_306 := (by decide)) (hcj_306 := rfl) (hyj_306 := rfl) (hd91_306 := sp2)
      · obtain ⟨qa, eqa⟩ : ∃ z, FP.ddiv (FP.dsub (FP.dsub (FP.i2d p2) (FP.dmul (FP.i2d u0) (FP.i2d p0))) (FP.dmul (FP.i2d u1) (FP.i2d p1))) d1 = z := ⟨_, rfl⟩
        obtain ⟨⟨s1, s2, s3, s4, s5⟩, ⟨k1, k2, k3⟩, ⟨o1, o2, o3⟩, ⟨g1', g2', g3'⟩, ⟨w1, w2, w3⟩⟩ := own_S rp2 rr0 rr1 ru0 ru1 rd1 hx1 bp2 (by omega) (by omega) bu0 bu1 eqa
        exact rm1 l Z a0 hw ws p0 p1 p2 p3 p4 d1 d2 (FP.i2d u0) (FP.i2d u1) d1 (FP.i2d p0) (FP.i2d p1) qa (FP.i2d p0) (FP.i2d p0) d1 (FP.i2d u0) (FP.i2d u1) qa (FP.i2d p2) (FP.i2d p0) (FP.i2d p1) (FP.i2d p0) (FP.i2d p1) qa (2 : Int32) (0 : Int32) (1 : Int32) u0 u1 u2 (1 : Int32) (0 : Int32) pa pb u3 h0 n0 Z0 (hl_ra := (by decide)) (hn_ra := (by decide)) (hvv := rfl) (hv6 := kr) (hv21 := (by rw [kb]; decide)) (hv30 := (by decide)) (hv40 := kn) (hv48 := epa) (hpw_49 := ed1) (hv60 := epb) (hpw_61 := ed2) (hv72 := eu0) (hv81 := eu1) (hv90 := eu2) (hv148 := eu3) (hcase_216 := Or.inr (Or.inr ⟨rfl, rfl, rfl, rfl, rfl, (by decide), (by decide), rfl⟩)) (hn_ra_240 := (by decide)) (hca_240 := rfl) (hn_tx_240 := (by decide)) (hcx_240 := rfl) (hn_ty_240 := (by decide)) (hcy_240 := rfl) (hl_ra_240 := (by decide)) (hy_240 := rfl) (nn62_240 := s1) (nn63_240 := s2) (nn62_1_240 := s3) (nn63_1_240 := s4) (nn82_240 := s5) (hq82_240 := eqa) (hjj_260 := (by decide)) (hcj_260 := rfl) (hcase_260 := Or.inr ⟨rfl, (by decide), sp0⟩) (hjj_283 := (by decide)) (hcj_283 := rfl) (hcase_283 := Or.inr ⟨rfl, (by decide), sp1⟩) (hjj_306 := (by decide)) (hcj_306 := rfl) (hcase_306 := Or.inl ⟨rfl, k2, k3, w1, k1, w2, w3⟩)
      · obtain ⟨qb, eqb⟩ : ∃ z, FP.ddiv (FP.dsub (FP.i2d p1) (FP.dmul (FP.i2d u3) (FP.i2d p0))) d2 = z := ⟨_, rfl⟩
        obtain ⟨t1, t2, t3, t4, t5, t6, t7, m2, rm, bm⟩ := own_T rp1 rp0 ru3 rd2 hx2 bp1 bp0 bu3 eqb
        obtain ⟨qa, eqa⟩ : ∃ z, FP.ddiv (FP.dsub (FP.dsub (FP.i2d p2) (FP.dmul (FP.i2d u0) (FP.i2d p0))) (FP.dmul (FP.i2d u1) qb)) d1 = z := ⟨_, rfl⟩
        obtain ⟨⟨s1, s2, s3, s4, s5⟩, ⟨k1, k2, k3⟩, ⟨o1, o2, o3⟩, ⟨g1', g2', g3'⟩, ⟨w1, w2, w3⟩⟩ := own_S rp2 rr0 rm ru0 ru1 rd1 hx1 bp2 (by omega) bm bu0 bu1 eqa
        exact rm2 l Z a0 hw ws p0 p1 p2 p3 p4 d1 d2 (FP.i2d u0) (FP.i2d u1) d1 (FP.i2d p0) qb qa qb (FP.i2d p0) d1 (FP.i2d u0) (FP.i2d u1) qa (FP.i2d p2) (FP.i2d p0) qb (FP.i2d p0) qb qa qb (FP.i2d p1) (FP.i2d p0) (FP.i2d p0) qb (FP.i2d p2) (2 : Int32) (0 : Int32) (1 : Int32) u0 u1 u2 (1 : Int32) (0 : Int32) pa pb u3 h0 n0 Z0 (hl_ra := (by decide)) (hn_ra := (by decide)) (hvv := rfl) (hv6 := kr) (hv21 := (by rw [kb]; decide)) (hv30 := (by decide)) (hv40 := kn) (hv48 := epa) (hpw_49 := ed1) (hv60 := epb) (hpw_61 := ed2) (hv72 := eu0) (hv81 := eu1) (hv90 := eu2) (hv148 := eu3) (hcase_216 := Or.inr (Or.inr ⟨rfl, rfl, rfl, rfl, rfl, (by decide), (by decide), rfl⟩)) (hc29_233 := (by decide)) (hn_rb_240 := (by decide)) (hcb_240 := rfl) (hn_ra_240 := (by decide)) (hca_240 := rfl) (hn_rc_240 := (by decide)) (hcc_240 := rfl) (hn_tx_240 := (by decide)) (hcx_240 := rfl) (hn_ty_240 := (by decide)) (hcy_240 := rfl) (hl_rb_240 := (by decide)) (hl_ra_240 := (by decide)) (hz_240 := rfl) (hy_240 := rfl) (nn62_240 := t1) (nn63_240 := t2) (nn82_240 := t3) (hq82_240 := eqb) (nn62_1_240 := s1) (nn63_1_240 := s2) (nn62_2_240 := s3) (nn63_2_240 := s4) (nn82_1_240 := s5) (hq82_1_240 := eqa) (hjj_260 := (by decide)) (hcj_260 := rfl) (hcase_260 := Or.inr (Or.inr ⟨rfl, (by decide), (by decide), sp0⟩)) (hjj_283 := (by decide)) (hcj_283 := rfl) (hcase_283 := Or.inr (Or.inl ⟨(by decide), rfl, (by decide), rfl, (by decide), rfl, t4, t5, t6, t7⟩)) (hjj_306 := (by decide)) (hcj_306 := rfl) (hcase_306 := Or.inl ⟨rfl, k2, k3, w1, k1, w2, w3⟩)
set_option maxRecDepth 65536 in
set_option maxHeartbeats 40000000 in
theorem comes_1 {Post : Tables → Env → Array Value → State → Outcome → State → Prop} (hpost : ∀ tb e args s v u, (limb_1_1.after args s (.returned v) u = true ∧ limb_1_2.after args s (.returned v) u = true ∧ True) → FrameEnd s (.returned v) u (Jvm.fieldLocs frame_1_writes args s ++ Jvm.arrayLocs frame_1_arrays args s ++ Jvm.staticLocs frame_1_statics s) 32 512 → Post tb e args s (.returned v) u) :
    ArmFor flags0 classFile x code maxLocals ret World_1 tables_1 room_1 Calls_1 rest_1 Pre_1 Post := by
  intro l hfl _ _ p e ha hc hk s m args below hf hA hF happ hP
  obtain ⟨hcalls, hrest, hpre⟩ := hP
  obtain ⟨-, -, -, hnamed, -, -, -, hat⟩ := (Spec.applies_iff hf).mp happ
  obtain ⟨hg, hn⟩ := and_e (Cond.before_iff.mp (show (Jvm.Cond.and given_1 narrow_1).before args s = true from hpre))
  obtain ⟨g1, g2⟩ := and_e hg
  obtain ⟨g3, g4⟩ := and_e g2
  obtain ⟨g5, g6⟩ := and_e g4
  obtain ⟨g7, g8⟩ := and_e g6
  obtain ⟨g9, g10⟩ := and_e g8
  obtain ⟨w0, w1, w2, w3, w4, rfl⟩ : ∃ w0 w1 w2 w3 w4 : Value, args = #[w0, w1, w2, w3, w4] := by
    have hs : args.size = 5 := by simpa [Cond.value, given_1] using g1
    obtain ⟨L⟩ := args
    match L, hs with
    | [w0, w1, w2, w3, w4], _ => exact ⟨w0, w1, w2, w3, w4, rfl⟩
  have hw := fun d (hd : d ∈ tables_1) => atoms_spec (ws := Jvm.Cond.code x code maxLocals ret :: tables_1) hat d (List.mem_cons_of_mem _ hd)
  have hfit : Fit s := fun {y c} hc i hi => by
    obtain ⟨ha, rfl⟩ := Array.getElem?_eq_some_iff.mp hc
    have q := List.all_eq_true.mp ((Array.all_eq_true_iff_forall_mem.mp hF) _ (Array.getElem_mem ha)) i (List.mem_range.mpr hi)
    simpa [Array.getElem?_eq_getElem hi] using q
  obtain ⟨i0, ei0⟩ := is_v g3
  obtain rfl : w0 = (.int i0) := Option.some.inj ei0
  obtain ⟨i1, ei1⟩ := is_v g5
  obtain rfl : w1 = (.int i1) := Option.some.inj ei1
  obtain ⟨i2, ei2⟩ := is_v g7
  obtain rfl : w2 = (.int i2) := Option.some.inj ei2
  obtain ⟨i3, ei3⟩ := is_v g9
  obtain rfl : w3 = (.int i3) := Option.some.inj ei3
  obtain ⟨i4, ei4⟩ := is_v g10
  obtain rfl : w4 = (.int i4) := Option.some.inj ei4
  obtain ⟨n, o, h1, h2, h3, _, L, rfl, ⟨rfl, N⟩, hq⟩ := own_law l s _ hw tables_1 i0 i1 i2 i3 i4 s.heap s.heap.size (Nat.le_refl _)  p e ha hc hk s m _ below hf ((Spec.applies_iff_loose hf).mp happ).1 ⟨rfl, State.Warmed39.refl s, rfl⟩ trivial
  refine ⟨n, _, h1, h2, h3, hpost _ _ _ _ _ _ ⟨Cond.after_iff.mpr rfl, Cond.after_iff.mpr (eq_i res_at (Term.int_eval (1)) rfl), trivial⟩ ⟨hq.1, hq.2.1, (hq.2.2.sift fun y hy => Or.inr (N y hy)).mono (by decide) (by decide)⟩⟩
theorem main_1_1 : Claimed_1_1 := comes_1 fun _ _ _ _ _ _ h hF => ⟨h.1, hF⟩
theorem main_1_2 : Claimed_1_2 := comes_1 fun _ _ _ _ _ _ h hF => ⟨h.2.1, hF⟩
end Jvm.Pilot.@@N@@
namespace Jvm.Pilot.@@N@@
open Jvm Jvm.ClassFile Sem Op Lib Jvm.Free Jvm.Stand Jvm.Pilot.@@N@@.Jvm.D
/-! MADE BY PROGRAM (witnessworld.py) out of the Statement's table words and the real class files: 11 classes; the members and pool entries that the words name. The judged class is class 1, her method 1. -/
namespace start1
open Jvm.ClassFile
def u (s : String) : CpInfo := .utf8 (stringToUtf16 s)
/-- a pool by its gaps: so many unusable entries, then the entry; so many at the end -/
def gap : Nat → List CpInfo → List CpInfo
  | 0, r => r
  | n + 1, r => .unusable :: gap n r
def poolList (es : List (Nat × CpInfo)) (last : Nat) : List CpInfo := es.foldr (fun e r => gap e.1 (e.2 :: r)) (gap last [])
def pool (es : List (Nat × CpInfo)) (last : Nat) : Array CpInfo := ⟨poolList es last⟩
def fileOf (pool : Array CpInfo) (this : Nat) (attrs : Array Attribute := #[]) (ms : Array MethodInfo := #[]) (fl : Nat := 33) (sup : Nat := 0) (ifs : Array Nat := #[]) (fds : Array FieldInfo := #[]) : ClassFile where
  minorVersion := 0
  majorVersion := 65
  constantPool := pool
  accessFlags := fl
  thisClass := this
  superClass := sup
  interfaces := ifs
  fields := fds
  methods := ms
  attributes := attrs
def plain (name : String) (sup : Option ClassId) : Class where
  name := name
  kind := .ordinary
  loader := none
  accessFlags := 33
  super := sup
  interfaces := #[]
  cf := none
  fields := #[]
  methods := #[]
  instanceTypes := #[]
  staticTypes := #[]
  resolved := #[]
  callSites := []
  init := .initialized
  statics := none
  mirror := none

def pool0 : Array CpInfo := pool [(5, u "<init>"), (0, u "()V"), (1, .class_ 10), (1, u "java/lang/Object")] 113

def k0c0 : Code := { maxStack := 0, maxLocals := 1, code := object_method_1_code, exceptionTable := #[], attributes := #[] }
def k0m0 : Method := { name := "<init>", desc := "()V", sig := { parameters := [], returnType := none }, accessFlags := 1, code := some k0c0 }
/-- java/lang/Object -/
def k0 : Class := { plain "java/lang/Object" none with
  accessFlags := 33
  interfaces := #[]
  cf := some (fileOf pool0 8 #[] #[{ accessFlags := 1, nameIndex := 5, descriptorIndex := 6, attributes := #[] }] 33 0 #[] #[])
  fields := #[]
  methods := #[k0m0]
  instanceTypes := #[]
  staticTypes := #[]
  resolved := Array.replicate 124 none
  statics := none }

def pool1 : Array CpInfo := pool [(2, .class_ 4), (0, .nameAndType 5 6), (0, u "java/lang/Object"), (0, u "<init>"), (0, u "()V"), (0, .methodref 8 9), (0, .class_ 10), (0, .nameAndType 11 12), (0, u "com/example/leeway/leeway/lp/BasisInverseSolveTransposedPinLaw"), (0, u "pivot"), (0, u "(I)D"), (0, .class_ 14), (0, u "com/example/leeway/leeway/lp/BasisInverse"), (0, .methodref 13 3), (0, .methodref 13 17), (0, .nameAndType 18 19), (0, u "replace"), (0, u "(I[I[D)V"), (0, .methodref 13 21), (0, .nameAndType 22 23), (0, u "solveTransposed"), (0, u "([D)V"), (0, .methodref 8 25), (0, .nameAndType 26 27), (0, u "column"), (0, u "(IIIII[D[D[D[D)Z"), (0, .double 13830554455654793216), (1, .double 4611686018427387904), (1, .double 13835058055282163712), (3, u "law"), (0, u "(IIIII)Z")] 7

def k1m0 : Method := { name := "<init>", desc := "()V", sig := { parameters := [], returnType := none }, accessFlags := 1, code := none }
def k1c1 : Code := { maxStack := 9, maxLocals := 20, code := code, exceptionTable := #[], attributes := #[] }
def k1m1 : Method := { name := "law", desc := "(IIIII)Z", sig := { parameters := [.int, .int, .int, .int, .int], returnType := some .boolean }, accessFlags := 9, code := some k1c1 }
def k1c2 : Code := { maxStack := 2, maxLocals := 1, code := method_3_code, exceptionTable := #[], attributes := #[] }
def k1m2 : Method := { name := "pivot", desc := "(I)D", sig := { parameters := [.int], returnType := some .double }, accessFlags := 10, code := some k1c2 }
def k1c3 : Code := { maxStack := 6, maxLocals := 11, code := method_4_code, exceptionTable := #[], attributes := #[] }
def k1m3 : Method := { name := "column", desc := "(IIIII[D[D[D[D)Z", sig := { parameters := [.int, .int, .int, .int, .int, (.array .double), (.array .double), (.array .double), (.array .double)], returnType := some .boolean }, accessFlags := 10, code := some k1c3 }
/-- com/example/leeway/leeway/lp/BasisInverseSolveTransposedPinLaw -/
def k1 : Class := { plain "com/example/leeway/leeway/lp/BasisInverseSolveTransposedPinLaw" (some 0) with
  accessFlags := 49
  interfaces := #[]
  cf := some (fileOf pool1 8 #[] #[{ accessFlags := 1, nameIndex := 5, descriptorIndex := 6, attributes := #[] }, { accessFlags := 9, nameIndex := 36, descriptorIndex := 37, attributes := #[] }, { accessFlags := 10, nameIndex := 11, descriptorIndex := 12, attributes := #[] }, { accessFlags := 10, nameIndex := 26, descriptorIndex := 27, attributes := #[] }] 49 2 #[] #[])
  fields := #[]
  methods := #[k1m0, k1m1, k1m2, k1m3]
  instanceTypes := #[]
  staticTypes := #[]
  resolved := Array.replicate 45 none
  statics := none }

def pool2 : Array CpInfo := pool [(1, .methodref 2 3), (0, .class_ 4), (0, .nameAndType 5 6), (0, u "java/lang/Object"), (0, u "<init>"), (0, u "()V"), (0, .fieldref 8 9), (0, .class_ 10), (0, .nameAndType 11 12), (0, u "com/example/leeway/leeway/lp/BasisInverse"), (0, u "pivotRows"), (0, u "[I"), (0, .fieldref 8 14), (0, .nameAndType 15 16), (0, u "pivots"), (0, u "[D"), (0, .fieldref 8 18), (0, .nameAndType 19 12), (0, u "termStart"), (0, .fieldref 8 21), (0, .nameAndType 22 12), (0, u "termRows"), (0, .fieldref 8 24), (0, .nameAndType 25 16), (0, u "termValues"), (0, .fieldref 8 27), (0, .nameAndType 28 29), (0, u "count"), (0, u "I"), (21, .methodref 8 52), (0, .nameAndType 53 54), (0, u "keep"), (0, u "(IID)I"), (0, .methodref 8 56), (0, .nameAndType 57 58), (0, u "close"), (0, u "(IDI)V"), (13, u "DROP"), (0, u "D"), (5, u "replace"), (4, u "(I[I[D)V"), (2, u "solveTransposed"), (0, u "([D)V")] 2

def k2c0 : Code := { maxStack := 2, maxLocals := 1, code := prog_85_method_1_code, exceptionTable := #[], attributes := #[] }
def k2m0 : Method := { name := "<init>", desc := "()V", sig := { parameters := [], returnType := none }, accessFlags := 0, code := some k2c0 }
def k2c1 : Code := { maxStack := 5, maxLocals := 8, code := prog_85_method_5_code, exceptionTable := #[], attributes := #[] }
def k2m1 : Method := { name := "replace", desc := "(I[I[D)V", sig := { parameters := [.int, (.array .int), (.array .double)], returnType := none }, accessFlags := 0, code := some k2c1 }
def k2c2 : Code := { maxStack := 4, maxLocals := 5, code := prog_85_method_6_code, exceptionTable := #[], attributes := #[] }
def k2m2 : Method := { name := "keep", desc := "(IID)I", sig := { parameters := [.int, .int, .double], returnType := some .int }, accessFlags := 2, code := some k2c2 }
def k2c3 : Code := { maxStack := 4, maxLocals := 6, code := prog_85_method_7_code, exceptionTable := #[], attributes := #[] }
def k2m3 : Method := { name := "close", desc := "(IDI)V", sig := { parameters := [.int, .double, .int], returnType := none }, accessFlags := 2, code := some k2c3 }
def k2c4 : Code := { maxStack := 7, maxLocals := 7, code := prog_85_method_9_code, exceptionTable := #[], attributes := #[] }
def k2m4 : Method := { name := "solveTransposed", desc := "([D)V", sig := { parameters := [(.array .double)], returnType := none }, accessFlags := 0, code := some k2c4 }
/-- com/example/leeway/leeway/lp/BasisInverse -/
def k2 : Class := { plain "com/example/leeway/leeway/lp/BasisInverse" (some 0) with
  accessFlags := 48
  interfaces := #[]
  cf := some (fileOf pool2 8 #[] #[{ accessFlags := 0, nameIndex := 5, descriptorIndex := 6, attributes := #[] }, { accessFlags := 0, nameIndex := 79, descriptorIndex := 84, attributes := #[] }, { accessFlags := 2, nameIndex := 53, descriptorIndex := 54, attributes := #[] }, { accessFlags := 2, nameIndex := 57, descriptorIndex := 58, attributes := #[] }, { accessFlags := 0, nameIndex := 87, descriptorIndex := 88, attributes := #[] }] 48 2 #[] #[{ accessFlags := 26, nameIndex := 72, descriptorIndex := 73, attributes := #[] }, { accessFlags := 2, nameIndex := 11, descriptorIndex := 12, attributes := #[] }, { accessFlags := 2, nameIndex := 15, descriptorIndex := 16, attributes := #[] }, { accessFlags := 2, nameIndex := 19, descriptorIndex := 12, attributes := #[] }, { accessFlags := 2, nameIndex := 22, descriptorIndex := 12, attributes := #[] }, { accessFlags := 2, nameIndex := 25, descriptorIndex := 16, attributes := #[] }, { accessFlags := 2, nameIndex := 28, descriptorIndex := 29, attributes := #[] }])
  fields := #[{ name := "DROP", type := .double, accessFlags := 26, slot := 0, constantValue := 0 }, { name := "pivotRows", type := (.array .int), accessFlags := 2, slot := 0, constantValue := 0 }, { name := "pivots", type := (.array .double), accessFlags := 2, slot := 1, constantValue := 0 }, { name := "termStart", type := (.array .int), accessFlags := 2, slot := 2, constantValue := 0 }, { name := "termRows", type := (.array .int), accessFlags := 2, slot := 3, constantValue := 0 }, { name := "termValues", type := (.array .double), accessFlags := 2, slot := 4, constantValue := 0 }, { name := "count", type := .int, accessFlags := 2, slot := 5, constantValue := 0 }]
  methods := #[k2m0, k2m1, k2m2, k2m3, k2m4]
  instanceTypes := #[(.array .int), (.array .double), (.array .int), (.array .int), (.array .double), .int]
  staticTypes := #[.double]
  resolved := Array.replicate 91 none
  statics := none }

def pool3 : Array CpInfo := pool [(1, u "java/lang/Cloneable"), (0, .class_ 1), (0, u "java/lang/Object"), (0, .class_ 3)] 3

/-- java/lang/Cloneable -/
def k3 : Class := { plain "java/lang/Cloneable" (some 0) with
  accessFlags := 1537
  interfaces := #[]
  cf := some (fileOf pool3 2 #[] #[] 1537 4 #[] #[])
  fields := #[]
  methods := #[]
  instanceTypes := #[]
  staticTypes := #[]
  resolved := Array.replicate 8 none
  statics := none }

def pool4 : Array CpInfo := pool [(1, u "java/io/Serializable"), (0, .class_ 1), (0, u "java/lang/Object"), (0, .class_ 3)] 3

/-- java/io/Serializable -/
def k4 : Class := { plain "java/io/Serializable" (some 0) with
  accessFlags := 1537
  interfaces := #[]
  cf := some (fileOf pool4 2 #[] #[] 1537 4 #[] #[])
  fields := #[]
  methods := #[]
  instanceTypes := #[]
  staticTypes := #[]
  resolved := Array.replicate 8 none
  statics := none }

/-- the primitive byte -/
def k5 : Class := { plain "byte" none with kind := .primitive 'B', accessFlags := 0x411 }
/-- [B -/
def k6 : Class := { plain "[B" (some 0) with kind := .array 5 .byte, interfaces := #[3, 4], accessFlags := 1041 }

/-- the primitive double -/
def k7 : Class := { plain "double" none with kind := .primitive 'D', accessFlags := 0x411 }
/-- [D -/
def k8 : Class := { plain "[D" (some 0) with kind := .array 7 .double, interfaces := #[3, 4], accessFlags := 1041 }

/-- the primitive int -/
def k9 : Class := { plain "int" none with kind := .primitive 'I', accessFlags := 0x411 }
/-- [I -/
def k10 : Class := { plain "[I" (some 0) with kind := .array 9 .int, interfaces := #[3, 4], accessFlags := 1041 }

def heap : Heap := #[]
def classes : Array Class := #[k0, k1, k2, k3, k4, k5, k6, k7, k8, k9, k10]
def interned : List (Array UInt16 × Addr) := []
def slotsUsed : Nat := 0
def theMethod : MethodId := ⟨1, 1⟩
def args0 : Array Value := #[.int 5, .int 7, .int 3, .int 2, .int 1]
def aboutOver (below : List Frame) : State where
  vm := { classes := classes, interned := interned.toArray }
  heap := heap
  slotsUsed := slotsUsed
  threads := #[{ frames := .invoking theMethod args0 :: below }]
def below0 : List Frame := [.native { method := ⟨0, 0⟩, args := #[] }]
def about1 : State := aboutOver below0
def p0 : Program := .bare "" "" ""
def e0 : Env := launch0.env 0 0 0
theorem w_frames : about1.frames = Frame.invoking theMethod args0 :: below0 := rfl
set_option maxRecDepth 65536 in
theorem w_args : argsFit about1.vm theMethod args0 = true := by decide +kernel
set_option maxRecDepth 65536 in
theorem w_heap : heapFits about1 = true := by decide +kernel
set_option maxRecDepth 65536 in
theorem w_runnable : about1.curStatus? = some .runnable := by decide +kernel
set_option maxRecDepth 65536 in
theorem w_alone : about1.alone = true := by decide +kernel
set_option maxRecDepth 65536 in
theorem w_named : about1.methodNamed? x = some theMethod := by decide +kernel
set_option maxRecDepth 65536 in
theorem w_hears : about1.hears theMethod below0 = true := by decide +kernel
set_option maxRecDepth 65536 in
theorem w_ripe : about1.ripe theMethod args0 below0 = true := by decide +kernel
theorem w_running : about1.status = .running := rfl
set_option maxRecDepth 65536 in
theorem w_room : about1.hasRoom e0.platform room_1 = true :=
  launch0.hasRoom_least _ room_1 (by decide +kernel) (by decide +kernel) (by decide +kernel) (by decide +kernel) (by decide +kernel) (by decide +kernel)
theorem allAtoms_all (ts : List Jvm.Cond) (a : Array Jvm.Value) (st : Jvm.State) : (allAtoms ts).before a st = ts.all (fun c => c.before a st) := by
  induction ts with
  | nil => rfl
  | cons c t ih =>
    show (Jvm.Cond.and c (allAtoms t)).before a st = _
    rw [Jvm.Cond.before_and, ih, List.all_cons]
def words1 : List Jvm.Cond := Jvm.Cond.code x code maxLocals ret :: tables_1
/-- a 'code' word, met by the world's own term for the bytes: nothing is compared byte by byte -/
theorem code_word {y : MethodName} {bytes : ByteArray} {mx : Nat} {rt : Option FieldType} {a : Array Value} {s : State} {m : MethodId} {meth : Method} {c : Code} (h1 : s.methodNamed? y = some m) (h2 : s.vm.method? m = some meth) (h3 : meth.code = some c) (h4 : c.code = bytes)
    (h5 : (c.maxLocals == mx && c.exceptionTable.isEmpty && decide (c.maxStack ≤ mostOperands) && decide (meth.sig.returnType = rt) && !meth.locks && decide (parseMethodDescriptor y.desc = some meth.sig)) = true) : (Jvm.Cond.code y bytes mx rt).before a s = true := by
  simp only [Bool.and_eq_true, beq_iff_eq, Bool.not_eq_true', decide_eq_true_eq] at h5
  obtain ⟨⟨⟨⟨⟨g1, g2⟩, g3⟩, g4⟩, g5⟩, g6⟩ := h5
  simp [Cond.before, Cond.holds, Cond.value, h1, h2, h3, h4, g1, g2, g3, g4, g5, g6]
def isCode : Jvm.Cond → Bool
  | .code _ _ _ _ => true
  | _ => false
theorem all_split {L : List Jvm.Cond} {P : Jvm.Cond → Bool} (h1 : L.all (fun c => isCode c || P c) = true) (h2 : ∀ c ∈ L.filter isCode, P c = true) : L.all P = true := by
  refine List.all_eq_true.mpr fun c hc => ?_
  have h := List.all_eq_true.mp h1 c hc
  rcases Bool.eq_false_or_eq_true (isCode c) with hi | hi
  · exact h2 c (List.mem_filter.mpr ⟨hc, hi⟩)
  · simpa [hi] using h
set_option maxRecDepth 65536 in
theorem w_c0 : (Jvm.Cond.code x code maxLocals ret).before args0 about1 = true := code_word (m := ⟨1, 1⟩) (meth := k1m1) (c := k1c1) (by decide +kernel) rfl rfl rfl (by decide +kernel)
set_option maxRecDepth 65536 in
theorem w_c1 : (Jvm.Cond.code ({ cls := "com/example/leeway/leeway/lp/BasisInverseSolveTransposedPinLaw", name := "pivot", desc := "(I)D" } : Jvm.MethodName) method_3_code (1 : Nat) (Option.some Jvm.ClassFile.FieldType.double)).before args0 about1 = true := code_word (m := ⟨1, 2⟩) (meth := k1m2) (c := k1c2) (by decide +kernel) rfl rfl rfl (by decide +kernel)
set_option maxRecDepth 65536 in
theorem w_c2 : (Jvm.Cond.code ({ cls := "com/example/leeway/leeway/lp/BasisInverse", name := "<init>", desc := "()V" } : Jvm.MethodName) prog_85_method_1_code (1 : Nat) (Option.none : Option Jvm.ClassFile.FieldType)).before args0 about1 = true := code_word (m := ⟨2, 0⟩) (meth := k2m0) (c := k2c0) (by decide +kernel) rfl rfl rfl (by decide +kernel)
set_option maxRecDepth 65536 in
theorem w_c3 : (Jvm.Cond.code ({ cls := "java/lang/Object", name := "<init>", desc := "()V" } : Jvm.MethodName) object_method_1_code (1 : Nat) (Option.none : Option Jvm.ClassFile.FieldType)).before args0 about1 = true := code_word (m := ⟨0, 0⟩) (meth := k0m0) (c := k0c0) (by decide +kernel) rfl rfl rfl (by decide +kernel)
set_option maxRecDepth 65536 in
theorem w_c4 : (Jvm.Cond.code ({ cls := "com/example/leeway/leeway/lp/BasisInverse", name := "solveTransposed", desc := "([D)V" } : Jvm.MethodName) prog_85_method_9_code (7 : Nat) (Option.none : Option Jvm.ClassFile.FieldType)).before args0 about1 = true := code_word (m := ⟨2, 4⟩) (meth := k2m4) (c := k2c4) (by decide +kernel) rfl rfl rfl (by decide +kernel)
set_option maxRecDepth 65536 in
theorem w_c5 : (Jvm.Cond.code ({ cls := "com/example/leeway/leeway/lp/BasisInverseSolveTransposedPinLaw", name := "column", desc := "(IIIII[D[D[D[D)Z" } : Jvm.MethodName) method_4_code (11 : Nat) (Option.some Jvm.ClassFile.FieldType.boolean)).before args0 about1 = true := code_word (m := ⟨1, 3⟩) (meth := k1m3) (c := k1c3) (by decide +kernel) rfl rfl rfl (by decide +kernel)
set_option maxRecDepth 65536 in
theorem w_c6 : (Jvm.Cond.code ({ cls := "com/example/leeway/leeway/lp/BasisInverse", name := "replace", desc := "(I[I[D)V" } : Jvm.MethodName) prog_85_method_5_code (8 : Nat) (Option.none : Option Jvm.ClassFile.FieldType)).before args0 about1 = true := code_word (m := ⟨2, 1⟩) (meth := k2m1) (c := k2c1) (by decide +kernel) rfl rfl rfl (by decide +kernel)
set_option maxRecDepth 65536 in
theorem w_c7 : (Jvm.Cond.code ({ cls := "com/example/leeway/leeway/lp/BasisInverse", name := "keep", desc := "(IID)I" } : Jvm.MethodName) prog_85_method_6_code (5 : Nat) (Option.some Jvm.ClassFile.FieldType.int)).before args0 about1 = true := code_word (m := ⟨2, 2⟩) (meth := k2m2) (c := k2c2) (by decide +kernel) rfl rfl rfl (by decide +kernel)
set_option maxRecDepth 65536 in
theorem w_c8 : (Jvm.Cond.code ({ cls := "com/example/leeway/leeway/lp/BasisInverse", name := "close", desc := "(IDI)V" } : Jvm.MethodName) prog_85_method_7_code (6 : Nat) (Option.none : Option Jvm.ClassFile.FieldType)).before args0 about1 = true := code_word (m := ⟨2, 3⟩) (meth := k2m3) (c := k2c3) (by decide +kernel) rfl rfl rfl (by decide +kernel)
def codes1 : List Jvm.Cond := [Jvm.Cond.code x code maxLocals ret, Jvm.Cond.code ({ cls := "com/example/leeway/leeway/lp/BasisInverseSolveTransposedPinLaw", name := "pivot", desc := "(I)D" } : Jvm.MethodName) method_3_code (1 : Nat) (Option.some Jvm.ClassFile.FieldType.double), Jvm.Cond.code ({ cls := "com/example/leeway/leeway/lp/BasisInverse", name := "<init>", desc := "()V" } : Jvm.MethodName) prog_85_method_1_code (1 : Nat) (Option.none : Option Jvm.ClassFile.FieldType), Jvm.Cond.code ({ cls := "java/lang/Object", name := "<init>", desc := "()V" } : Jvm.MethodName) object_method_1_code (1 : Nat) (Option.none : Option Jvm.ClassFile.FieldType), Jvm.Cond.code ({ cls := "com/example/leeway/leeway/lp/BasisInverse", name := "solveTransposed", desc := "([D)V" } : Jvm.MethodName) prog_85_method_9_code (7 : Nat) (Option.none : Option Jvm.ClassFile.FieldType), Jvm.Cond.code ({ cls := "com/example/leeway/leeway/lp/BasisInverseSolveTransposedPinLaw", name := "column", desc := "(IIIII[D[D[D[D)Z" } : Jvm.MethodName) method_4_code (11 : Nat) (Option.some Jvm.ClassFile.FieldType.boolean), Jvm.Cond.code ({ cls := "com/example/leeway/leeway/lp/BasisInverse", name := "replace", desc := "(I[I[D)V" } : Jvm.MethodName) prog_85_method_5_code (8 : Nat) (Option.none : Option Jvm.ClassFile.FieldType), Jvm.Cond.code ({ cls := "com/example/leeway/leeway/lp/BasisInverse", name := "keep", desc := "(IID)I" } : Jvm.MethodName) prog_85_method_6_code (5 : Nat) (Option.some Jvm.ClassFile.FieldType.int), Jvm.Cond.code ({ cls := "com/example/leeway/leeway/lp/BasisInverse", name := "close", desc := "(IDI)V" } : Jvm.MethodName) prog_85_method_7_code (6 : Nat) (Option.none : Option Jvm.ClassFile.FieldType)]
set_option maxRecDepth 65536 in
theorem codes_eq : words1.filter isCode = codes1 := rfl
theorem w_codes : ∀ c ∈ words1.filter isCode, c.before args0 about1 = true := by
  rw [codes_eq]
  intro c hc
  simp only [codes1, List.mem_cons, List.not_mem_nil, or_false] at hc
  rcases hc with rfl | rfl | rfl | rfl | rfl | rfl | rfl | rfl | rfl
  · exact w_c0
  · exact w_c1
  · exact w_c2
  · exact w_c3
  · exact w_c4
  · exact w_c5
  · exact w_c6
  · exact w_c7
  · exact w_c8
set_option maxRecDepth 65536 in
theorem w_t1 : (words1.take 24).all (fun c => isCode c || c.before args0 about1) = true := by decide +kernel
set_option maxRecDepth 65536 in
theorem w_t2 : ((words1.drop 24).take 24).all (fun c => isCode c || c.before args0 about1) = true := by decide +kernel
set_option maxRecDepth 65536 in
theorem w_t3 : ((words1.drop 24).drop 24).all (fun c => isCode c || c.before args0 about1) = true := by decide +kernel
theorem w_tables : (allAtoms (Jvm.Cond.code x code maxLocals ret :: tables_1)).before args0 about1 = true := by
  rw [allAtoms_all]
  show words1.all (fun c => c.before args0 about1) = true
  refine all_split ?_ w_codes
  rw [← List.take_append_drop 24 words1, List.all_append, w_t1, ← List.take_append_drop 24 (words1.drop 24), List.all_append, w_t2, w_t3]
  rfl
set_option maxRecDepth 65536 in
theorem w_case : (Jvm.Cond.and given_1 narrow_1).before args0 about1 = true := by decide +kernel
theorem w_applies : (headSpec (Jvm.Cond.code x code maxLocals ret :: tables_1) room_1).applies x e0.platform about1 = true :=
  (Spec.applies_iff w_frames).mpr ⟨w_running, w_runnable, w_alone, w_named, w_hears, w_ripe, w_room, w_tables⟩
theorem atStart : AtStart classFile x code maxLocals ret World_1 tables_1 room_1 Calls_1 rest_1 Pre_1 launch0 p0 e0 about1 theMethod args0 below0 :=
  ⟨lists_1, trivial, launch0.admits_env _ _ _, launch0.least_env, fairChoices_fair.cas, fairChoices_fair.clock, w_frames, w_args, w_heap, w_applies, trivial, trivial, w_case⟩
end start1
theorem witness_1 : WitnessClaimed_1 := ⟨start1.p0, start1.e0, start1.about1, start1.theMethod, start1.args0, start1.below0, start1.atStart⟩
end Jvm.Pilot.@@N@@
