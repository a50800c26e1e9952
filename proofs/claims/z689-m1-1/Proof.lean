import JvmDerived
import JvmDerived.Pilot.@@N@@Statement
import JvmDerived.Pilot.@@N@@Code
set_option linter.unusedVariables false
set_option linter.unusedSimpArgs false
@@BLOCK:NumsL.lean.txt@@
namespace Jvm.RoadKit
open Sem ClassFile Op Lib Jvm.Stand Jvm.Free Jvm.LawKit
section New
variable {p : Program} {l : Launch} {e : Env} {R : Room} {s : State} {m : MethodId} {args : Array Value} {below : List Frame} {meth : Method} {c : Code} {T : State} {locs : List Loc} {cells slots : Nat}
theorem retI (X : Stand p l e R s m args below meth c T locs cells slots) (hx : p.tables.exec = Jvm.exec) {pc : Nat} {Ls : Array Slot} {z : Int32} {rest : List Value} (hret : meth.sig.returnType = some .int) (hd : decode c.code pc = .ok (.ireturn, 1)) {fs : List Frame}
    (hl : ∀ (f : JFrame) (acts : List Action), f.method = m → f.locked = none → f.entered = [] → (doReturn e (T.setTop f) acts (some (.int z))).1 = T.setFrames fs) : Steps p.tables e below (T.setTop (mkF m pc Ls (.int z :: rest))) (T.setFrames fs) := by
  have hm' : T.vm.method? m = some meth := X.method'
  have hn : narrow .int (.int z) = .int z := rfl
  show Steps p.tables e below (T.setTop { method := m, pc := pc, locals := Ls, stack := _ :: rest, locked := none }) _
  jvm_step X.here [X.here.top, hx, hd, hm', hret, hn]
  first | (intro acts; rw [hl _ acts rfl rfl rfl]) | rw [hl _ _ rfl rfl rfl]
  exact Steps.refl _
end New
end Jvm.RoadKit
namespace Jvm.OwnFP
open Jvm.FP
/-- a double's value in units of 2^-1074 -/
def zv (a : UInt64) : Int := Core.zval Core.b64 (Core.val64 a)
/-- how many units make one -/
def U : Int := (Core.one64 : Int)
theorem U_pos : 0 < U := by have := Core.one64_pos; unfold U; omega
theorem U_pow (k : Nat) (h : k ≤ 1074) : U = 2 ^ (1074 - k) * 2 ^ k := by
  have e : (2 : Int) ^ (1074 - k) * 2 ^ k = 2 ^ 1074 := by rw [← Int.pow_add]; congr 1; omega
  rw [e]; unfold U Core.one64; rw [Int.natCast_pow]; rfl
theorem pow_pos (k : Nat) : (0 : Int) < 2 ^ k := Int.pow_pos (by decide)
theorem notNan {a : UInt64} (h : Core.DFin a) : Core.val64 a ≠ .nan := by obtain ⟨s, c, q, h⟩ := h; rw [h]; exact Core.Datum.noConfusion
theorem fin_parts {a : UInt64} (h : Core.DFin a) : ∃ (s : Bool) (c i : Nat), Core.val64 a = .fin s c ((i : Int) - 1074) ∧ Core.fits Core.b64 (.fin s c ((i : Int) - 1074)) ∧ zv a = Core.signed s (c * 2 ^ i) := by
  obtain ⟨s, c, q, h⟩ := h
  have hf := Core.val64_fits a
  rw [h] at hf
  have hq : -1074 ≤ q := by have := hf.2.1; rw [Core.qmin_b64] at this; exact this
  obtain ⟨i, hi⟩ : ∃ i : Nat, q = (i : Int) - 1074 := ⟨(q + 1074).toNat, by omega⟩
  subst hi
  refine ⟨s, c, i, h, hf, ?_⟩
  unfold zv Core.zval; rw [h]
  show Core.signed s (c * 2 ^ ((i : Int) - 1074 - Core.b64.qmin).toNat) = _
  rw [Core.qmin_b64, show ((i : Int) - 1074 - -1074).toNat = i by omega]
/-- rounding a quotient is monotone: at most a number of the format -/
theorem ratio_le {s : Bool} {A B : Nat} {e e0 : Int} {V : Core.Datum} (hB : 0 < B) (hV : Core.fits Core.b64 V) (hn : V ≠ .nan) (h0 : e0 ≤ Core.b64.qmin) (h0e : e0 ≤ e)
    (h : Core.signed s (Core.inUnits A e e0) ≤ Core.zval Core.b64 V * ((2 ^ (Core.b64.qmin - e0).toNat * B : Nat) : Int)) :
    Core.zval Core.b64 (Core.roundRatio Core.b64 s A B e) ≤ Core.zval Core.b64 V := by
  have hle := Core.zmag_roundRatio_le Core.good_b64 (s := s) (A := A) hB hV hn h0 h0e
  have hge := Core.zmag_roundRatio_ge Core.good_b64 (s := s) (A := A) hB hV h0 h0e
  have hP : 0 < 2 ^ (Core.b64.qmin - e0).toNat * B := Nat.mul_pos (Nat.two_pow_pos _) hB
  rw [Nat.mul_assoc] at hle hge
  unfold Core.zval at h ⊢
  rw [Core.sgn_roundRatio]
  rw [← Core.signed_mul] at h
  have hz : Core.zmag Core.b64 V * (2 ^ (Core.b64.qmin - e0).toNat * B) = 0 → Core.zmag Core.b64 V = 0 := fun q => by
    rcases Nat.mul_eq_zero.mp q with q | q
    · exact q
    · omega
  generalize Core.zmag Core.b64 V * (2 ^ (Core.b64.qmin - e0).toNat * B) = vP at *
  generalize Core.sgn V = t at *
  generalize Core.zmag Core.b64 V = z at *
  generalize Core.zmag Core.b64 (Core.roundRatio Core.b64 s A B e) = r at *
  generalize Core.inUnits A e e0 = x at *
  cases s <;> cases t <;> simp only [Core.signed, if_true, Bool.false_eq_true, if_false] at h ⊢
  · have := hle (by omega); omega
  · have := hle (by omega); have := hz (by omega); omega
  · omega
  · have := hge (by omega); omega
theorem ratio_ge {s : Bool} {A B : Nat} {e e0 : Int} {V : Core.Datum} (hB : 0 < B) (hV : Core.fits Core.b64 V) (hn : V ≠ .nan) (h0 : e0 ≤ Core.b64.qmin) (h0e : e0 ≤ e)
    (h : Core.zval Core.b64 V * ((2 ^ (Core.b64.qmin - e0).toNat * B : Nat) : Int) ≤ Core.signed s (Core.inUnits A e e0)) :
    Core.zval Core.b64 V ≤ Core.zval Core.b64 (Core.roundRatio Core.b64 s A B e) := by
  have h1 := ratio_le (s := !s) (V := Core.negate V) hB (Core.negate_fits hV) (Core.negate_ne_nan hn) h0 h0e (by
    rw [Core.zval_negate, Int.neg_mul, Core.signed_not]; exact Int.neg_le_neg h)
  rw [Core.zval_negate, ← Core.negate_roundRatio, Core.zval_negate] at h1
  omega
theorem signed_pos_parts {t : Bool} {n : Nat} (h : 0 < Core.signed t n) : t = false ∧ 0 < n := by
  cases t <;> simp [Core.signed] at h ⊢ <;> omega
/-- the quotient as a rounded ratio -/
theorem ddiv_parts {a b : UInt64} (ha : Core.DFin a) (hb : Core.DFin b) (pb : 0 < zv b) :
    ∃ (s : Bool) (c d i j : Nat), zv a = Core.signed s (c * 2 ^ i) ∧ zv b = ((d * 2 ^ j : Nat) : Int) ∧ 0 < d ∧ Core.val64 (FP.ddiv a b) = Core.roundRatio Core.b64 s c d ((i : Int) - (j : Int)) := by
  obtain ⟨s, c, i, h1, f1, z1⟩ := fin_parts ha
  obtain ⟨t, d, j, h2, f2, z2⟩ := fin_parts hb
  rw [z2] at pb
  obtain ⟨rfl, hd⟩ := signed_pos_parts pb
  have hd' : 0 < d := Nat.pos_of_mul_pos_right hd
  refine ⟨s, c, d, i, j, z1, z2, hd', ?_⟩
  show Core.val64 (Core.ddiv a b) = _
  rw [Core.val64_ddiv, h1, h2]
  show (if d = 0 then _ else Core.roundRatio Core.b64 (s != false) c d ((i : Int) - 1074 - ((j : Int) - 1074))) = _
  rw [if_neg (by omega), show ((i : Int) - 1074 - ((j : Int) - 1074)) = (i : Int) - j by omega]
  cases s <;> rfl
theorem div_key {s : Bool} {c d i j : Nat} : Core.signed s (Core.inUnits c ((i : Int) - j) (-1074 - (j : Int))) = Core.signed s (c * 2 ^ i) * U ∧ ((2 ^ (Core.b64.qmin - (-1074 - (j : Int))).toNat * d : Nat) : Int) = ((d * 2 ^ j : Nat) : Int) := by
  constructor
  · unfold Core.inUnits
    rw [show ((i : Int) - j - (-1074 - (j : Int))).toNat = i + 1074 by omega, Nat.pow_add, ← Nat.mul_assoc, Core.signed_mul]
    rfl
  · rw [Core.qmin_b64, show (-1074 - (-1074 - (j : Int))).toNat = j by omega, Nat.mul_comm]
theorem ddiv_le {a b V : UInt64} (ha : Core.DFin a) (hb : Core.DFin b) (pb : 0 < zv b) (hV : Core.val64 V ≠ .nan) (h : zv a * U ≤ zv V * zv b) : zv (FP.ddiv a b) ≤ zv V := by
  obtain ⟨s, c, d, i, j, z1, z2, hd, hr⟩ := ddiv_parts ha hb pb
  have e : zv (FP.ddiv a b) = Core.zval Core.b64 (Core.roundRatio Core.b64 s c d ((i : Int) - (j : Int))) := by unfold zv; rw [hr]
  rw [e]
  refine ratio_le (e0 := -1074 - (j : Int)) hd (Core.val64_fits V) hV (by rw [Core.qmin_b64]; omega) (by omega) ?_
  rw [(div_key (d := d)).1, (div_key (s := s) (c := c) (i := i)).2, ← z1, ← z2]; exact h
theorem ddiv_ge {a b V : UInt64} (ha : Core.DFin a) (hb : Core.DFin b) (pb : 0 < zv b) (hV : Core.val64 V ≠ .nan) (h : zv V * zv b ≤ zv a * U) : zv V ≤ zv (FP.ddiv a b) := by
  obtain ⟨s, c, d, i, j, z1, z2, hd, hr⟩ := ddiv_parts ha hb pb
  have e : zv (FP.ddiv a b) = Core.zval Core.b64 (Core.roundRatio Core.b64 s c d ((i : Int) - (j : Int))) := by unfold zv; rw [hr]
  rw [e]
  refine ratio_ge (e0 := -1074 - (j : Int)) hd (Core.val64_fits V) hV (by rw [Core.qmin_b64]; omega) (by omega) ?_
  rw [(div_key (d := d)).1, (div_key (s := s) (c := c) (i := i)).2, ← z1, ← z2]; exact h
theorem ddiv_nn {a b : UInt64} (ha : Core.DFin a) (hb : Core.DFin b) (pb : 0 < zv b) : Core.val64 (FP.ddiv a b) ≠ .nan := by
  obtain ⟨s, c, d, i, j, z1, z2, hd, hr⟩ := ddiv_parts ha hb pb
  rw [hr]; exact Core.roundRatio_ne_nan _ _ _ _ _
/-- two quotients of one value -/
theorem ddiv_congr {a b a' b' : UInt64} (ha : Core.DFin a) (hb : Core.DFin b) (pb : 0 < zv b) (ha' : Core.DFin a') (hb' : Core.DFin b') (pb' : 0 < zv b') (hs : Core.sgn (Core.val64 a) = Core.sgn (Core.val64 a')) (h : zv a * zv b' = zv a' * zv b) : FP.ddiv a b = FP.ddiv a' b' := by
  obtain ⟨s, c, i, h1, f1, z1⟩ := fin_parts ha
  obtain ⟨s', c', i', h1', f1', z1'⟩ := fin_parts ha'
  obtain ⟨t, d, j, h2, f2, z2⟩ := fin_parts hb
  obtain ⟨t', d', j', h2', f2', z2'⟩ := fin_parts hb'
  rw [z2] at pb; rw [z2'] at pb'
  obtain ⟨rfl, hd⟩ := signed_pos_parts pb
  obtain ⟨rfl, hd'⟩ := signed_pos_parts pb'
  have hd1 : 0 < d := Nat.pos_of_mul_pos_right hd
  have hd1' : 0 < d' := Nat.pos_of_mul_pos_right hd'
  have es : s = s' := by rw [h1, h1'] at hs; exact hs
  subst es
  show Core.of64 (Core.quotient Core.b64 (Core.val64 a) (Core.val64 b)) = Core.of64 (Core.quotient Core.b64 (Core.val64 a') (Core.val64 b'))
  congr 1
  rw [h1, h2, h1', h2']
  show (if d = 0 then _ else Core.roundRatio Core.b64 (s != false) c d ((i : Int) - 1074 - ((j : Int) - 1074))) = (if d' = 0 then _ else Core.roundRatio Core.b64 (s != false) c' d' ((i' : Int) - 1074 - ((j' : Int) - 1074)))
  rw [if_neg (by omega), if_neg (by omega)]
  apply Core.roundRatio_congr hd1 hd1'
  have hn : (c * 2 ^ i) * (d' * 2 ^ j') = (c' * 2 ^ i') * (d * 2 ^ j) := by
    rw [z1, z1', z2, z2'] at h
    have : ∀ n : Nat, Core.signed false n = (n : Int) := fun _ => rfl
    rw [this, this, ← Core.signed_mul, ← Core.signed_mul] at h
    have := congrArg Int.natAbs h
    rwa [Core.natAbs_signed, Core.natAbs_signed] at this
  generalize hE : (i : Int) - 1074 - ((j : Int) - 1074) = E
  generalize hE' : (i' : Int) - 1074 - ((j' : Int) - 1074) = E'
  have k1 : c * d' * 2 ^ (i + j') = c' * d * 2 ^ (i' + j) := by
    rw [Nat.pow_add, Nat.pow_add]
    calc c * d' * (2 ^ i * 2 ^ j') = (c * 2 ^ i) * (d' * 2 ^ j') := by ac_rfl
      _ = (c' * 2 ^ i') * (d * 2 ^ j) := hn
      _ = c' * d * (2 ^ i' * 2 ^ j) := by ac_rfl
  by_cases hle : i' + j ≤ i + j'
  · have e1 : (E - E').toNat = i + j' - (i' + j) := by omega
    have e2 : (E' - E).toNat = 0 := by omega
    rw [e1, e2]
    have : 2 ^ (i + j') = 2 ^ (i + j' - (i' + j)) * 2 ^ (i' + j) := by rw [← Nat.pow_add]; congr 1; omega
    rw [this, ← Nat.mul_assoc] at k1
    simpa using Nat.eq_of_mul_eq_mul_right (Nat.two_pow_pos _) k1
  · have e1 : (E - E').toNat = 0 := by omega
    have e2 : (E' - E).toNat = i' + j - (i + j') := by omega
    rw [e1, e2]
    have : 2 ^ (i' + j) = 2 ^ (i' + j - (i + j')) * 2 ^ (i + j') := by rw [← Nat.pow_add]; congr 1; omega
    rw [this, ← Nat.mul_assoc] at k1
    simpa using Nat.eq_of_mul_eq_mul_right (Nat.two_pow_pos _) k1
theorem dmul_parts {a b : UInt64} (ha : Core.DFin a) (hb : Core.DFin b) :
    ∃ (s : Bool) (n : Nat) (e : Int), Core.val64 (FP.dmul a b) = Core.round Core.b64 (.fin s n e) ∧ -2148 ≤ e ∧ Core.signed s (Core.inUnits n e (-2148)) = zv a * zv b := by
  obtain ⟨s, c, i, h1, f1, z1⟩ := fin_parts ha
  obtain ⟨t, d, j, h2, f2, z2⟩ := fin_parts hb
  obtain ⟨p1, p2, p3⟩ := Core.product_units f1 f2
  refine ⟨s != t, c * d, (i : Int) - 1074 + ((j : Int) - 1074), ?_, by omega, ?_⟩
  · show Core.val64 (Core.dmul a b) = _
    rw [Core.val64_dmul, h1, h2, p1]
  · rw [z1, z2]
    unfold Core.inUnits
    rw [show ((i : Int) - 1074 + ((j : Int) - 1074) - (-2148)).toNat = i + j by omega, Nat.pow_add,
      show c * d * (2 ^ i * 2 ^ j) = (c * 2 ^ i) * (d * 2 ^ j) by ac_rfl, Core.signed_xor]
theorem mul_key : ((2 ^ (Core.b64.qmin - (-2148 : Int)).toNat : Nat) : Int) = U := by
  rw [Core.qmin_b64]; rfl
theorem dmul_le {a b V : UInt64} (ha : Core.DFin a) (hb : Core.DFin b) (hV : Core.val64 V ≠ .nan) (h : zv a * zv b ≤ zv V * U) : zv (FP.dmul a b) ≤ zv V := by
  obtain ⟨s, n, e, h1, h2, h3⟩ := dmul_parts ha hb
  have e1 : zv (FP.dmul a b) = Core.zval Core.b64 (Core.round Core.b64 (.fin s n e)) := by unfold zv; rw [h1]
  rw [e1]
  refine Core.zval_round_le Core.good_b64 (e0 := -2148) (Core.val64_fits V) hV (by rw [Core.qmin_b64]; decide) h2 ?_
  rw [h3, mul_key]; exact h
theorem dmul_ge {a b V : UInt64} (ha : Core.DFin a) (hb : Core.DFin b) (hV : Core.val64 V ≠ .nan) (h : zv V * U ≤ zv a * zv b) : zv V ≤ zv (FP.dmul a b) := by
  obtain ⟨s, n, e, h1, h2, h3⟩ := dmul_parts ha hb
  have e1 : zv (FP.dmul a b) = Core.zval Core.b64 (Core.round Core.b64 (.fin s n e)) := by unfold zv; rw [h1]
  rw [e1]
  refine Core.zval_round_ge Core.good_b64 (e0 := -2148) (Core.val64_fits V) hV (by rw [Core.qmin_b64]; decide) h2 ?_
  rw [h3, mul_key]; exact h
theorem dmul_nn {a b : UInt64} (ha : Core.DFin a) (hb : Core.DFin b) : Core.val64 (FP.dmul a b) ≠ .nan := by
  obtain ⟨s, n, e, h1, h2, h3⟩ := dmul_parts ha hb
  rw [h1]; exact Core.roundRatio_ne_nan _ _ _ _ _
theorem dadd_le {a b V : UInt64} (ha : Core.DFin a) (hb : Core.DFin b) (hV : Core.val64 V ≠ .nan) (h : zv a + zv b ≤ zv V) : zv (FP.dadd a b) ≤ zv V := by
  have := Core.sum_le Core.good_b64 ha hb (Core.val64_fits a) (Core.val64_fits b) (Core.val64_fits V) hV h
  unfold zv; show Core.zval Core.b64 (Core.val64 (Core.dadd a b)) ≤ _
  rw [Core.val64_dadd]; exact this
theorem dadd_ge {a b V : UInt64} (ha : Core.DFin a) (hb : Core.DFin b) (hV : Core.val64 V ≠ .nan) (h : zv V ≤ zv a + zv b) : zv V ≤ zv (FP.dadd a b) := by
  have := Core.sum_ge Core.good_b64 ha hb (Core.val64_fits a) (Core.val64_fits b) (Core.val64_fits V) hV h
  unfold zv; show _ ≤ Core.zval Core.b64 (Core.val64 (Core.dadd a b))
  rw [Core.val64_dadd]; exact this
theorem dadd_nn {a b : UInt64} (ha : Core.DFin a) (hb : Core.DFin b) : Core.val64 (FP.dadd a b) ≠ .nan := by
  have := Core.dadd_out (notNaN_of ha) hb
  exact (Core.notNaN_iff _).mp this
where notNaN_of {a : UInt64} (h : Core.DFin a) : Core.dIsNaN a = false := (Core.notNaN_iff a).mpr (notNan h)
theorem zv_dneg (a : UInt64) : zv (FP.dneg a) = - zv a := by
  unfold zv; rw [FP.val64_dneg, Core.zval_negate]
theorem fin_dneg {a : UInt64} (h : Core.DFin a) : Core.DFin (FP.dneg a) := by
  obtain ⟨s, c, q, h⟩ := h
  refine ⟨!s, c, q, ?_⟩
  rw [FP.val64_dneg, h]; rfl
theorem dsub_dadd {a b : UInt64} (hb : Core.DFin b) : FP.dsub a b = FP.dadd a (FP.dneg b) := by
  have h1 : FP.dneg b = Core.dneg b := FP.dneg_core ((Core.notNaN_iff b).mpr (notNan hb))
  rw [h1]; exact Core.dsub_eq a b
theorem dsub_le {a b V : UInt64} (ha : Core.DFin a) (hb : Core.DFin b) (hV : Core.val64 V ≠ .nan) (h : zv a - zv b ≤ zv V) : zv (FP.dsub a b) ≤ zv V := by
  rw [dsub_dadd hb]; exact dadd_le ha (fin_dneg hb) hV (by rw [zv_dneg]; omega)
theorem dsub_ge {a b V : UInt64} (ha : Core.DFin a) (hb : Core.DFin b) (hV : Core.val64 V ≠ .nan) (h : zv V ≤ zv a - zv b) : zv V ≤ zv (FP.dsub a b) := by
  rw [dsub_dadd hb]; exact dadd_ge ha (fin_dneg hb) hV (by rw [zv_dneg]; omega)
theorem dsub_nn {a b : UInt64} (ha : Core.DFin a) (hb : Core.DFin b) : Core.val64 (FP.dsub a b) ≠ .nan := by
  rw [dsub_dadd hb]; exact dadd_nn ha (fin_dneg hb)
/-- finite, if it lies between two finite ones -/
theorem fin_between {a V W : UInt64} (n : Core.val64 a ≠ .nan) (hV : Core.DFin V) (hW : Core.DFin W) (h1 : zv V ≤ zv a) (h2 : zv a ≤ zv W) : Core.DFin a := by
  have hv := hV.zval_lt; have hw := hW.zval_lt
  unfold zv Core.zval at h1 h2
  cases e : Core.val64 a with
  | nan => exact absurd e n
  | fin s c q => exact ⟨s, c, q, e⟩
  | inf s =>
    exfalso
    rw [e] at h1 h2
    have t : Core.zmag Core.b64 (.inf s) = Core.b64.tails * 2 ^ (Core.b64.exps - 2) := rfl
    rw [t] at h1 h2
    generalize Core.b64.tails * 2 ^ (Core.b64.exps - 2) = top at *
    generalize Core.zmag Core.b64 (Core.val64 V) = v at *
    generalize Core.zmag Core.b64 (Core.val64 W) = w at *
    generalize Core.sgn (Core.val64 V) = sv at *
    generalize Core.sgn (Core.val64 W) = sw at *
    cases s <;> cases sv <;> cases sw <;> simp [Core.signed, Core.sgn] at h1 h2 <;> omega
theorem signed_of (n : Int) : Core.signed (decide (n < 0)) n.natAbs = n := by
  unfold Core.signed
  by_cases q : n < 0
  · simp [q]; omega
  · simp [q]; omega
/-- n * 2^E units are a double -/
theorem repE (n : Int) (E : Nat) (hn : n.natAbs < 2 ^ 53) (hE : E ≤ 2045) : ∃ V, Core.DFin V ∧ zv V = n * 2 ^ E := by
  have hq : Core.b64.qmax = 971 := by decide
  obtain ⟨c', q', h1, h2⟩ := Core.round_exact Core.good_b64 (decide (n < 0)) (c := n.natAbs) (q := (E : Int) - 1074) hn (by rw [Core.qmin_b64]; omega) (by rw [hq]; omega)
  have h3 : Core.val64 (Core.of64 (Core.round Core.b64 (.fin (decide (n < 0)) n.natAbs ((E : Int) - 1074)))) = .fin (decide (n < 0)) c' q' := by
    rw [Core.val64_of64 (Core.round_fits Core.good_b64 _), h1]
  refine ⟨_, ⟨_, _, _, h3⟩, ?_⟩
  unfold zv Core.zval
  rw [h3]
  show Core.signed (decide (n < 0)) (Core.inUnits c' q' Core.b64.qmin) = _
  rw [h2]
  unfold Core.inUnits
  rw [Core.qmin_b64, show ((E : Int) - 1074 - -1074).toNat = E by omega, Core.signed_mul, signed_of, Int.natCast_pow]
  rfl
/-- n / 2^k is a double -/
theorem rep (n : Int) (k : Nat) (hn : n.natAbs ≤ 2 ^ 53) (hk : k ≤ 1000) : ∃ V, Core.DFin V ∧ zv V * 2 ^ k = n * U := by
  by_cases h : n.natAbs < 2 ^ 53
  · obtain ⟨V, fV, zV⟩ := repE n (1074 - k) h (by omega)
    exact ⟨V, fV, by rw [zV, U_pow k (by omega), Int.mul_assoc]⟩
  · by_cases hs : n < 0
    · obtain ⟨V, fV, zV⟩ := repE (-1) (53 + (1074 - k)) (by decide) (by omega)
      exact ⟨V, fV, by rw [zV, U_pow k (by omega), show n = -1 * 2 ^ 53 by omega, Int.pow_add]; ac_rfl⟩
    · obtain ⟨V, fV, zV⟩ := repE 1 (53 + (1074 - k)) (by decide) (by omega)
      exact ⟨V, fV, by rw [zV, U_pow k (by omega), show n = 1 * 2 ^ 53 by omega, Int.pow_add]; ac_rfl⟩
/-- and so are, with the infinities, the numbers up to 2^53 * 2^E -/
theorem repI (n : Int) (E : Nat) (hn : n.natAbs ≤ 2 ^ 53) (hE : E ≤ 2045) : ∃ V, Core.val64 V ≠ .nan ∧ zv V = n * 2 ^ E := by
  by_cases h : n.natAbs < 2 ^ 53
  · obtain ⟨V, fV, zV⟩ := repE n E h hE; exact ⟨V, notNan fV, zV⟩
  · by_cases hE2 : E + 53 ≤ 2045
    · by_cases hs : n < 0
      · obtain ⟨V, fV, zV⟩ := repE (-1) (53 + E) (by decide) (by omega)
        exact ⟨V, notNan fV, by rw [zV, show n = -1 * 2 ^ 53 by omega, Int.pow_add, Int.mul_assoc]⟩
      · obtain ⟨V, fV, zV⟩ := repE 1 (53 + E) (by decide) (by omega)
        exact ⟨V, notNan fV, by rw [zV, show n = 1 * 2 ^ 53 by omega, Int.pow_add, Int.mul_assoc]⟩
    · by_cases hE3 : E = 2045
      · subst hE3
        have v1 : Core.val64 9218868437227405312 = .inf false := by decide +kernel
        have v2 : Core.val64 18442240474082181120 = .inf true := by decide +kernel
        have z1 : Core.zmag Core.b64 (.inf false) = 2 ^ 53 * 2 ^ 2045 := by decide +kernel
        by_cases hs : n < 0
        · refine ⟨18442240474082181120, by rw [v2]; exact Core.Datum.noConfusion, ?_⟩
          unfold zv Core.zval; rw [v2]
          show Core.signed true (Core.zmag Core.b64 (.inf false)) = _
          rw [z1, Core.signed_mul, show n = -2 ^ 53 by omega, Int.natCast_pow]; rfl
        · refine ⟨9218868437227405312, by rw [v1]; exact Core.Datum.noConfusion, ?_⟩
          unfold zv Core.zval; rw [v1]
          show Core.signed false (Core.zmag Core.b64 (.inf false)) = _
          rw [z1, Core.signed_mul, show n = 2 ^ 53 by omega, Int.natCast_pow]; rfl
      · by_cases hs : n < 0
        · obtain ⟨V, fV, zV⟩ := repE (-2 ^ 52) (1 + E) (by decide) (by omega)
          exact ⟨V, notNan fV, by rw [zV, show n = -2 ^ 52 * 2 ^ 1 by omega, Int.pow_add, Int.mul_assoc]⟩
        · obtain ⟨V, fV, zV⟩ := repE (2 ^ 52) (1 + E) (by decide) (by omega)
          exact ⟨V, notNan fV, by rw [zV, show n = 2 ^ 52 * 2 ^ 1 by omega, Int.pow_add, Int.mul_assoc]⟩
theorem dmul_eq {a b V : UInt64} (ha : Core.DFin a) (hb : Core.DFin b) (hV : Core.val64 V ≠ .nan) (h : zv a * zv b = zv V * U) : zv (FP.dmul a b) = zv V := by
  have := dmul_le ha hb hV (Int.le_of_eq h); have := dmul_ge ha hb hV (Int.le_of_eq h.symm); omega
/-! ## values n / 2^k -/
/-- finite, and worth n / 2^k -/
def DS (n : Int) (k : Nat) (a : UInt64) : Prop := Core.DFin a ∧ zv a * 2 ^ k = n * U
def Le (a : UInt64) (n : Int) (k : Nat) : Prop := zv a * 2 ^ k ≤ n * U
def Ge (a : UInt64) (n : Int) (k : Nat) : Prop := n * U ≤ zv a * 2 ^ k
theorem DS.le {n : Int} {k : Nat} {a : UInt64} (h : DS n k a) : Le a n k := Int.le_of_eq h.2
theorem DS.ge {n : Int} {k : Nat} {a : UInt64} (h : DS n k a) : Ge a n k := Int.le_of_eq h.2.symm
theorem DS.int {i : Int} {a : UInt64} (h : Core.DInt i a) : DS i 0 a := by
  refine ⟨?_, ?_⟩
  · unfold Core.DInt at h
    cases e : Core.val64 a with
    | nan => rw [e] at h; exact h.elim
    | inf => rw [e] at h; exact h.elim
    | fin s c q => exact ⟨s, c, q, e⟩
  · show zv a * 2 ^ 0 = i * U
    rw [Int.pow_zero, Int.mul_one]; exact Core.DInt_zval h
theorem DS.i2d (x : Int32) : DS x.toInt 0 (FP.i2d x) := DS.int (Core.i2d_int x)
theorem DS.l2d {x : Int64} (h : x.toInt.natAbs ≤ 2 ^ 53) : DS x.toInt 0 (FP.l2d x) := DS.int (Core.l2d_int h)
theorem mul_cancel {a b c : Int} (hc : 0 < c) (h : a * c = b * c) : a = b := Int.eq_of_mul_eq_mul_right (by omega) h
theorem le_cancel {a b c : Int} (hc : 0 < c) (h : a * c ≤ b * c) : a ≤ b := Int.le_of_mul_le_mul_right h hc
theorem DS.up {n : Int} {k : Nat} {a : UInt64} (h : DS n k a) (j : Nat) : DS (n * 2 ^ j) (k + j) a := ⟨h.1, by
  rw [Int.pow_add, ← Int.mul_assoc, h.2]; grind⟩
theorem Le.up {n : Int} {k : Nat} {a : UInt64} (h : Le a n k) (j : Nat) : Le a (n * 2 ^ j) (k + j) := by
  unfold Le at *
  have := Int.mul_le_mul_of_nonneg_right h (Int.le_of_lt (pow_pos j))
  rw [Int.pow_add]; grind
theorem Ge.up {n : Int} {k : Nat} {a : UInt64} (h : Ge a n k) (j : Nat) : Ge a (n * 2 ^ j) (k + j) := by
  unfold Ge at *
  have := Int.mul_le_mul_of_nonneg_right h (Int.le_of_lt (pow_pos j))
  rw [Int.pow_add]; grind
/-- what lies between two bounds n / 2^k is finite -/
theorem fin_of {a : UInt64} {n m : Int} {k j : Nat} (nn : Core.val64 a ≠ .nan) (h1 : Ge a n k) (h2 : Le a m j) (bn : n.natAbs ≤ 2 ^ 53) (bm : m.natAbs ≤ 2 ^ 53) (hk : k ≤ 1000) (hj : j ≤ 1000) : Core.DFin a := by
  obtain ⟨V, fV, zV⟩ := rep n k bn hk
  obtain ⟨W, fW, zW⟩ := rep m j bm hj
  refine fin_between nn fV fW ?_ ?_
  · exact le_cancel (pow_pos k) (by unfold Ge at h1; omega)
  · exact le_cancel (pow_pos j) (by unfold Le at h2; omega)
theorem DS.of {a : UInt64} {n : Int} {k : Nat} (nn : Core.val64 a ≠ .nan) (h1 : Ge a n k) (h2 : Le a n k) (bn : n.natAbs ≤ 2 ^ 53) (hk : k ≤ 1000) : DS n k a :=
  ⟨fin_of nn h1 h2 bn bn hk hk, by unfold Ge at h1; unfold Le at h2; omega⟩
/-! the operations against bounds -/
theorem add_Le {a b : UInt64} {n m q : Int} {k : Nat} (fa : Core.DFin a) (fb : Core.DFin b) (ha : Le a n k) (hb : Le b m k) (h : n + m ≤ q) (bq : q.natAbs ≤ 2 ^ 53) (hk : k ≤ 1000) : Le (FP.dadd a b) q k := by
  obtain ⟨V, fV, zV⟩ := rep q k bq hk
  have h1 : zv (FP.dadd a b) ≤ zv V := dadd_le fa fb (notNan fV) (le_cancel (pow_pos k) (by
    unfold Le at ha hb
    rw [Int.add_mul, zV]
    have := Int.mul_le_mul_of_nonneg_right h (Int.le_of_lt U_pos)
    rw [Int.add_mul] at this; omega))
  unfold Le; rw [← zV]; exact Int.mul_le_mul_of_nonneg_right h1 (Int.le_of_lt (pow_pos k))
theorem add_Ge {a b : UInt64} {n m q : Int} {k : Nat} (fa : Core.DFin a) (fb : Core.DFin b) (ha : Ge a n k) (hb : Ge b m k) (h : q ≤ n + m) (bq : q.natAbs ≤ 2 ^ 53) (hk : k ≤ 1000) : Ge (FP.dadd a b) q k := by
  obtain ⟨V, fV, zV⟩ := rep q k bq hk
  have h1 : zv V ≤ zv (FP.dadd a b) := dadd_ge fa fb (notNan fV) (le_cancel (pow_pos k) (by
    unfold Ge at ha hb
    rw [Int.add_mul, zV]
    have := Int.mul_le_mul_of_nonneg_right h (Int.le_of_lt U_pos)
    rw [Int.add_mul] at this; omega))
  unfold Ge; rw [← zV]; exact Int.mul_le_mul_of_nonneg_right h1 (Int.le_of_lt (pow_pos k))
theorem DS.add {a b : UInt64} {n m : Int} {k : Nat} (ha : DS n k a) (hb : DS m k b) (bq : (n + m).natAbs ≤ 2 ^ 53) (hk : k ≤ 1000) : DS (n + m) k (FP.dadd a b) :=
  DS.of (dadd_nn ha.1 hb.1) (add_Ge ha.1 hb.1 ha.ge hb.ge (Int.le_refl _) bq hk) (add_Le ha.1 hb.1 ha.le hb.le (Int.le_refl _) bq hk) bq hk
theorem DS.neg {a : UInt64} {n : Int} {k : Nat} (ha : DS n k a) : DS (-n) k (FP.dneg a) := ⟨fin_dneg ha.1, by rw [zv_dneg, Int.neg_mul, ha.2, Int.neg_mul]⟩
theorem DS.sub {a b : UInt64} {n m : Int} {k : Nat} (ha : DS n k a) (hb : DS m k b) (bq : (n - m).natAbs ≤ 2 ^ 53) (hk : k ≤ 1000) : DS (n - m) k (FP.dsub a b) := by
  rw [dsub_dadd hb.1, show n - m = n + -m by omega]; exact ha.add hb.neg (by rw [← Int.sub_eq_add_neg]; exact bq) hk
theorem DS.mul {a b : UInt64} {n m : Int} {k j : Nat} (ha : DS n k a) (hb : DS m j b) (bq : (n * m).natAbs ≤ 2 ^ 53) (hk : k + j ≤ 1000) : DS (n * m) (k + j) (FP.dmul a b) := by
  obtain ⟨V, fV, zV⟩ := rep (n * m) (k + j) bq hk
  have e : zv a * zv b = zv V * U := by
    have h1 := ha.2; have h2 := hb.2
    refine mul_cancel (pow_pos (k + j)) ?_
    calc zv a * zv b * 2 ^ (k + j) = (zv a * 2 ^ k) * (zv b * 2 ^ j) := by rw [Int.pow_add]; grind
      _ = (n * U) * (m * U) := by rw [h1, h2]
      _ = (n * m * U) * U := by grind
      _ = zv V * U * 2 ^ (k + j) := by rw [← zV]; grind
  have g1 := dmul_le ha.1 hb.1 (notNan fV) (Int.le_of_eq e)
  have g2 := dmul_ge ha.1 hb.1 (notNan fV) (Int.le_of_eq e.symm)
  have g : zv (FP.dmul a b) = zv V := by omega
  exact ⟨fin_between (dmul_nn ha.1 hb.1) fV fV (by omega) (by omega), by rw [g, zV]⟩
theorem DS.pos {b : UInt64} {m : Int} {j : Nat} (hb : DS m j b) (hm : 0 < m) : 0 < zv b := by
  have h1 : 0 < zv b * 2 ^ j := by rw [hb.2]; exact Int.mul_pos hm U_pos
  exact Int.pos_of_mul_pos_left h1 (pow_pos j)
/-- a quotient against a bound q / 2^l -/
theorem div_Le {a b : UInt64} {n m q : Int} {k j l : Nat} (ha : DS n k a) (hb : DS m j b) (hm : 0 < m) (h : n * 2 ^ j * 2 ^ l ≤ q * m * 2 ^ k) (bq : q.natAbs ≤ 2 ^ 53) (hl : l ≤ 1000) : Le (FP.ddiv a b) q l := by
  obtain ⟨V, fV, zV⟩ := rep q l bq hl
  have h1 : zv (FP.ddiv a b) ≤ zv V := ddiv_le ha.1 hb.1 (hb.pos hm) (notNan fV) (by
    refine le_cancel (pow_pos (k + j + l)) ?_
    have e1 : zv a * U * 2 ^ (k + j + l) = (n * 2 ^ j * 2 ^ l) * (U * U) := by
      calc zv a * U * 2 ^ (k + j + l) = (zv a * 2 ^ k) * U * 2 ^ j * 2 ^ l := by rw [Int.pow_add, Int.pow_add]; grind
        _ = _ := by rw [ha.2]; grind
    have e2 : zv V * zv b * 2 ^ (k + j + l) = (q * m * 2 ^ k) * (U * U) := by
      calc zv V * zv b * 2 ^ (k + j + l) = (zv V * 2 ^ l) * (zv b * 2 ^ j) * 2 ^ k := by rw [Int.pow_add, Int.pow_add]; grind
        _ = _ := by rw [zV, hb.2]; grind
    rw [e1, e2]
    exact Int.mul_le_mul_of_nonneg_right h (Int.le_of_lt (Int.mul_pos U_pos U_pos)))
  unfold Le; rw [← zV]; exact Int.mul_le_mul_of_nonneg_right h1 (Int.le_of_lt (pow_pos l))
theorem div_Ge {a b : UInt64} {n m q : Int} {k j l : Nat} (ha : DS n k a) (hb : DS m j b) (hm : 0 < m) (h : q * m * 2 ^ k ≤ n * 2 ^ j * 2 ^ l) (bq : q.natAbs ≤ 2 ^ 53) (hl : l ≤ 1000) : Ge (FP.ddiv a b) q l := by
  obtain ⟨V, fV, zV⟩ := rep q l bq hl
  have h1 : zv V ≤ zv (FP.ddiv a b) := ddiv_ge ha.1 hb.1 (hb.pos hm) (notNan fV) (by
    refine le_cancel (pow_pos (k + j + l)) ?_
    have e1 : zv a * U * 2 ^ (k + j + l) = (n * 2 ^ j * 2 ^ l) * (U * U) := by
      calc zv a * U * 2 ^ (k + j + l) = (zv a * 2 ^ k) * U * 2 ^ j * 2 ^ l := by rw [Int.pow_add, Int.pow_add]; grind
        _ = _ := by rw [ha.2]; grind
    have e2 : zv V * zv b * 2 ^ (k + j + l) = (q * m * 2 ^ k) * (U * U) := by
      calc zv V * zv b * 2 ^ (k + j + l) = (zv V * 2 ^ l) * (zv b * 2 ^ j) * 2 ^ k := by rw [Int.pow_add, Int.pow_add]; grind
        _ = _ := by rw [zV, hb.2]; grind
    rw [e1, e2]
    exact Int.mul_le_mul_of_nonneg_right h (Int.le_of_lt (Int.mul_pos U_pos U_pos)))
  unfold Ge; rw [← zV]; exact Int.mul_le_mul_of_nonneg_right h1 (Int.le_of_lt (pow_pos l))
theorem DS.div {a b : UInt64} {n m q : Int} {k j l : Nat} (ha : DS n k a) (hb : DS m j b) (hm : 0 < m) (h : n * 2 ^ j * 2 ^ l = q * m * 2 ^ k) (bq : q.natAbs ≤ 2 ^ 53) (hl : l ≤ 1000) : DS q l (FP.ddiv a b) :=
  DS.of (ddiv_nn ha.1 hb.1 (hb.pos hm)) (div_Ge ha hb hm (Int.le_of_eq h.symm) bq hl) (div_Le ha hb hm (Int.le_of_eq h) bq hl) bq hl
/-! comparisons -/
theorem cmp_zv {a b : UInt64} (ha : Core.val64 a ≠ .nan) (hb : Core.val64 b ≠ .nan) : FP.dcmp a b = some (compare (zv a) (zv b)) := Core.dcmp_zval ha hb
theorem cmpV_of {a b : UInt64} (ha : Core.val64 a ≠ .nan) (hb : Core.val64 b ≠ .nan) (o : ClassFile.CmpOp) : Op.cmpValue (FP.dcmp a b) o = if zv a < zv b then -1 else if zv a = zv b then 0 else 1 := by
  rw [cmp_zv ha hb, Core.compare_ite]
  split
  · rfl
  · split <;> rfl
theorem cmp_gt {a b : UInt64} (ha : Core.val64 a ≠ .nan) (hb : Core.val64 b ≠ .nan) (h : zv b < zv a) (o : ClassFile.CmpOp) : Op.cmpValue (FP.dcmp a b) o = 1 := by
  rw [cmpV_of ha hb, if_neg (by omega), if_neg (by omega)]
theorem cmp_lt {a b : UInt64} (ha : Core.val64 a ≠ .nan) (hb : Core.val64 b ≠ .nan) (h : zv a < zv b) (o : ClassFile.CmpOp) : Op.cmpValue (FP.dcmp a b) o = -1 := by
  rw [cmpV_of ha hb, if_pos h]
theorem cmp_eq {a b : UInt64} (ha : Core.val64 a ≠ .nan) (hb : Core.val64 b ≠ .nan) (h : zv a = zv b) (o : ClassFile.CmpOp) : Op.cmpValue (FP.dcmp a b) o = 0 := by
  rw [cmpV_of ha hb, if_neg (by omega), if_pos h]
theorem zv_zero : zv FP.dconst0 = 0 := Core.zval64_zero
theorem cmp_neg {a b : UInt64} {k : Int32} {o : ClassFile.CmpOp} (h : Op.cmpValue (FP.dcmp a b) o = k) (ha : Core.val64 a ≠ .nan) (hb : Core.val64 b ≠ .nan) : k < 0 ↔ zv a < zv b := by
  rw [← h, cmpV_of ha hb]; split
  · exact ⟨fun _ => by assumption, fun _ => by decide⟩
  · split
    · exact ⟨fun h => absurd h (by decide), fun h => absurd h (by assumption)⟩
    · exact ⟨fun h => absurd h (by decide), fun h => absurd h (by assumption)⟩
theorem cmp_pos {a b : UInt64} {k : Int32} {o : ClassFile.CmpOp} (h : Op.cmpValue (FP.dcmp a b) o = k) (ha : Core.val64 a ≠ .nan) (hb : Core.val64 b ≠ .nan) : 0 < k ↔ zv b < zv a := by
  rw [← h, cmpV_of ha hb]; split
  · exact ⟨fun h => absurd h (by decide), fun h => by omega⟩
  · split
    · exact ⟨fun h => absurd h (by decide), fun h => by omega⟩
    · exact ⟨fun h => by omega, fun _ => by decide⟩
theorem cmp_nul {a b : UInt64} {k : Int32} {o : ClassFile.CmpOp} (h : Op.cmpValue (FP.dcmp a b) o = k) (ha : Core.val64 a ≠ .nan) (hb : Core.val64 b ≠ .nan) : k = 0 ↔ zv a = zv b := by
  rw [← h, cmpV_of ha hb]; split
  · exact ⟨fun h => absurd h (by decide), fun h => by omega⟩
  · split
    · exact ⟨fun _ => by assumption, fun _ => rfl⟩
    · exact ⟨fun h => absurd h (by decide), fun h => by omega⟩
theorem lt_of {a b : UInt64} {n m : Int} {k : Nat} (h1 : Le a n k) (h2 : Ge b m k) (h : n < m) : zv a < zv b := by
  unfold Le at h1; unfold Ge at h2
  have : n * U < m * U := Int.mul_lt_mul_of_pos_right h U_pos
  exact Int.lt_of_mul_lt_mul_right (a := 2 ^ k) (by omega) (Int.le_of_lt (pow_pos k))
theorem le_of {a b : UInt64} {n m : Int} {k : Nat} (h1 : Le a n k) (h2 : Ge b m k) (h : n ≤ m) : zv a ≤ zv b := by
  unfold Le at h1; unfold Ge at h2
  have : n * U ≤ m * U := Int.mul_le_mul_of_nonneg_right h (Int.le_of_lt U_pos)
  exact Int.le_of_mul_le_mul_right (a := 2 ^ k) (by omega) (pow_pos k)
theorem DS.cmp {a b : UInt64} {n m : Int} {k : Nat} (ha : DS n k a) (hb : DS m k b) (o : ClassFile.CmpOp) : Op.cmpValue (FP.dcmp a b) o = if n < m then -1 else if n = m then 0 else 1 := by
  rw [cmpV_of (notNan ha.1) (notNan hb.1)]
  by_cases h1 : n < m
  · rw [if_pos h1, if_pos (lt_of ha.le hb.ge h1)]
  · by_cases h2 : n = m
    · have e : zv a = zv b := by
        subst h2; have := le_of ha.le hb.ge (Int.le_refl _); have := le_of hb.le ha.ge (Int.le_refl _); omega
      rw [if_neg h1, if_pos h2, if_neg (by omega), if_pos e]
    · have := lt_of hb.le ha.ge (show m < n by omega)
      rw [if_neg h1, if_neg h2, if_neg (by omega), if_neg (by omega)]
theorem DS.zero : DS 0 0 FP.dconst0 := ⟨⟨false, 0, _, Core.val64_dconst0⟩, by
  have : zv FP.dconst0 = 0 := Core.zval64_zero
  rw [this]; simp⟩
theorem DS.one : DS 1 0 FP.dconst1 := DS.int Core.dint_one
theorem zv_one : zv FP.dconst1 = U := by have := DS.one.2; rwa [Int.pow_zero, Int.mul_one, Int.one_mul] at this
theorem DS.noNaN {n : Int} {k : Nat} {a : UInt64} (h : DS n k a) : Jvm.Free.Fl.NoNaN64 a := (Jvm.Free.Fl.fin64_core.mpr h.1).noNaN
theorem noNaN_of {a : UInt64} (h : Core.val64 a ≠ .nan) : Jvm.Free.Fl.NoNaN64 a := Jvm.Free.Fl.noNaN64_no.mpr ((Core.notNaN_iff a).mpr h)
end Jvm.OwnFP
namespace Jvm.OwnFP
open Jvm.FP
theorem sgn_pos {a : UInt64} (h : 0 < zv a) : Core.sgn (Core.val64 a) = false := by
  unfold zv Core.zval at h
  cases e : Core.sgn (Core.val64 a) with
  | false => rfl
  | true => rw [e] at h; simp only [Core.signed, if_true] at h; omega
/-- one quotient by two roads -/
theorem DS.div_same {a a' b b' : UInt64} {n d : Int} {k j : Nat} (ha : DS n k a) (ha' : DS n k a') (hb : DS d j b) (hb' : DS d j b') (hn : 0 < n) (hd : 0 < d) : FP.ddiv a b = FP.ddiv a' b' := by
  have e1 : zv a = zv a' := mul_cancel (pow_pos k) (by rw [ha.2, ha'.2])
  have e2 : zv b = zv b' := mul_cancel (pow_pos j) (by rw [hb.2, hb'.2])
  refine ddiv_congr ha.1 hb.1 (hb.pos hd) ha'.1 hb'.1 (hb'.pos hd) ?_ (by rw [e1, e2])
  rw [sgn_pos (ha.pos hn), sgn_pos (ha'.pos hn)]
end Jvm.OwnFP
namespace Jvm.OwnFP
open Jvm.FP
theorem Le.neg {a : UInt64} {n : Int} {k : Nat} (h : Le a n k) : Ge (FP.dneg a) (-n) k := by unfold Le at h; unfold Ge; rw [zv_dneg, Int.neg_mul, Int.neg_mul]; omega
theorem Ge.neg {a : UInt64} {n : Int} {k : Nat} (h : Ge a n k) : Le (FP.dneg a) (-n) k := by unfold Ge at h; unfold Le; rw [zv_dneg, Int.neg_mul, Int.neg_mul]; omega
theorem sub_Le {a b : UInt64} {n m q : Int} {k : Nat} (fa : Core.DFin a) (fb : Core.DFin b) (ha : Le a n k) (hb : Ge b m k) (h : n - m ≤ q) (bq : q.natAbs ≤ 2 ^ 53) (hk : k ≤ 1000) : Le (FP.dsub a b) q k := by
  rw [dsub_dadd fb]; exact add_Le fa (fin_dneg fb) ha hb.neg (by omega) bq hk
theorem sub_Ge {a b : UInt64} {n m q : Int} {k : Nat} (fa : Core.DFin a) (fb : Core.DFin b) (ha : Ge a n k) (hb : Le b m k) (h : q ≤ n - m) (bq : q.natAbs ≤ 2 ^ 53) (hk : k ≤ 1000) : Ge (FP.dsub a b) q k := by
  rw [dsub_dadd fb]; exact add_Ge fa (fin_dneg fb) ha hb.neg (by omega) bq hk
/-- one quotient at two scales -/
theorem DS.div_scale {a a' b b' : UInt64} {n d : Int} {k k' : Nat} (ha : DS n k a) (ha' : DS n k' a') (hb : DS d k b) (hb' : DS d k' b') (hn : 0 < n) (hd : 0 < d) : FP.ddiv a b = FP.ddiv a' b' := by
  refine ddiv_congr ha.1 hb.1 (hb.pos hd) ha'.1 hb'.1 (hb'.pos hd) ?_ ?_
  · rw [sgn_pos (ha.pos hn), sgn_pos (ha'.pos hn)]
  · refine mul_cancel (pow_pos (k + k')) ?_
    calc zv a * zv b' * 2 ^ (k + k') = (zv a * 2 ^ k) * (zv b' * 2 ^ k') := by rw [Int.pow_add]; ac_rfl
      _ = (zv a' * 2 ^ k') * (zv b * 2 ^ k) := by rw [ha.2, hb'.2, ha'.2, hb.2]
      _ = zv a' * zv b * 2 ^ (k + k') := by rw [Int.pow_add]; ac_rfl
end Jvm.OwnFP
namespace Jvm.OwnArr
open Jvm Jvm.ClassFile Sem Op Lib Jvm.Free Jvm.Stand Jvm.LawKit Jvm.RoadKit
section
variable {p : Program} {l : Launch} {e : Env} {R : Room} {s : State} {m : MethodId} {args : Array Value} {below : List Frame} {meth : Method} {c : Code} {T : State} {locs : List Loc} {cells slots : Nat} {Z : State} {h h' : Heap} {a b : Addr} {ty : FieldType} {n : Nat} {f : Nat → Value}
/-- the array at a has n places of the kind ty; place j holds f j -/
def Ag (Z : State) (h : Heap) (a : Addr) (ty : FieldType) (n : Nat) (f : Nat → Value) : Prop := ∃ cl : Cell, Arr Z h a cl ty ∧ cl.slots.size = n ∧ ∀ j, j < n → cl.slots[j]? = some (f j)
theorem Ag.lt (F : Ag Z h a ty n f) : a < h.size := by obtain ⟨c, A, -⟩ := F; exact A.lt
theorem Ag.ext (F : Ag Z h a ty n f) (E : Ext h h') : Ag Z h' a ty n f := by obtain ⟨c, A, r⟩ := F; exact ⟨c, A.ext E, r⟩
theorem Ag.other {sl : Nat} {v : Value} (F : Ag Z h b ty n f) (W : Wr h h' a sl v) (q : b ≠ a) : Ag Z h' b ty n f := by obtain ⟨c, A, r⟩ := F; exact ⟨c, A.other W q, r⟩
theorem Ag.keep {ws : List Addr} (F : Ag Z h a ty n f) (K : Keep h h' ws) (q : a ∉ ws) : Ag Z h' a ty n f := by obtain ⟨c, A, r⟩ := F; exact ⟨c, ⟨K.2.1 a c A.1 q, A.2⟩, r⟩
theorem Ag.congr {g : Nat → Value} (F : Ag Z h a ty n f) (q : ∀ j, j < n → f j = g j) : Ag Z h a ty n g := by obtain ⟨c, A, S, H⟩ := F; exact ⟨c, A, S, fun j hj => by rw [H j hj, q j hj]⟩
theorem Ag.set {j : Nat} {v : Value} (F : Ag Z h a ty n f) (W : Wr h h' a j v) : Ag Z h' a ty n (fun i => if i = j then v else f i) := by
  obtain ⟨c, A, S, H⟩ := F
  refine ⟨c.setSlot j v, A.same W, by rw [sz_set]; exact S, fun i hi => ?_⟩
  show (c.slots.setIfInBounds j v)[i]? = some (if i = j then v else f i)
  by_cases q : i = j
  · subst q; rw [if_pos rfl, Array.getElem?_setIfInBounds_self_of_lt (by omega)]
  · rw [if_neg q, Array.getElem?_setIfInBounds_ne (Ne.symm q)]; exact H i hi
theorem Ag.new {k : ClassId} {z : Int32} (A : Arr Z h a (newA k ty z) ty) {N : Nat} (hz : z.toInt = (N : Int)) : Ag Z h a ty N (fun _ => defaultValue ty) := by
  have e : z.toNatClampNeg = N := by rw [Int32.toNatClampNeg]; omega
  refine ⟨_, A, by rw [sz_new, e], fun j hj => ?_⟩
  show (Array.replicate z.toNatClampNeg (defaultValue ty))[j]? = _
  rw [e]; simp [hj]
theorem nat32 {j : Int32} {J : Nat} (hj : j.toInt = (J : Int)) : j.toNatClampNeg = J := by rw [Int32.toNatClampNeg]; omega
theorem inb {cl : Cell} {j : Int32} {J : Nat} (hj : j.toInt = (J : Int)) (S : cl.slots.size = n) (hn : J < n) : ¬ (j < 0 ∨ cl.slots.size ≤ j.toNatClampNeg) := by
  rw [nat32 hj, S]
  rintro (q | q)
  · have := Int32.lt_iff_toInt_lt.mp q; rw [Int32.toInt_zero] at this; omega
  · omega
theorem ldD (X : Stand p l e R s m args below meth c T locs cells slots) (hx : p.tables.exec = Jvm.exec) (hZ : Z.Warmed39 s.vm) (eT : T.heap = h) (F : Ag Z h a .double n f) {j : Int32} {J : Nat} (hj : j.toInt = (J : Int)) (hn : J < n) {x : UInt64} (hv : f J = .double x) {g : JFrame} (hg : g.method = m) {rest : List Value} (hs : g.stack = .int j :: .ref a :: rest) (hd : decode c.code g.pc = .ok (.daload, 1)) {target : State}
    (hr : Steps p.tables e below (T.setTop { g with pc := g.pc + 1, stack := .double x :: rest }) target) : Steps p.tables e below (T.setTop g) target := by
  obtain ⟨cl, A, S, H⟩ := F
  exact X.daload hx (by rw [eT]; exact A.1) (State.isArrayOf_alike hZ.alike A.2.1) A.2.2 (inb hj S hn) (by rw [nat32 hj, H J hn, hv]) hg hs hd _ hr
theorem ldI (X : Stand p l e R s m args below meth c T locs cells slots) (hx : p.tables.exec = Jvm.exec) (hZ : Z.Warmed39 s.vm) (eT : T.heap = h) (F : Ag Z h a .int n f) {j : Int32} {J : Nat} (hj : j.toInt = (J : Int)) (hn : J < n) {x : Int32} (hv : f J = .int x) {g : JFrame} (hg : g.method = m) {rest : List Value} (hs : g.stack = .int j :: .ref a :: rest) (hd : decode c.code g.pc = .ok (.iaload, 1)) {target : State}
    (hr : Steps p.tables e below (T.setTop { g with pc := g.pc + 1, stack := .int x :: rest }) target) : Steps p.tables e below (T.setTop g) target := by
  obtain ⟨cl, A, S, H⟩ := F
  exact X.iaload hx (by rw [eT]; exact A.1) (State.isArrayOf_alike hZ.alike A.2.1) A.2.2 (inb hj S hn) (by rw [nat32 hj, H J hn, hv]) hg hs hd _ hr
theorem ldJ (X : Stand p l e R s m args below meth c T locs cells slots) (hx : p.tables.exec = Jvm.exec) (hZ : Z.Warmed39 s.vm) (eT : T.heap = h) (F : Ag Z h a .long n f) {j : Int32} {J : Nat} (hj : j.toInt = (J : Int)) (hn : J < n) {x : Int64} (hv : f J = .long x) {g : JFrame} (hg : g.method = m) {rest : List Value} (hs : g.stack = .int j :: .ref a :: rest) (hd : decode c.code g.pc = .ok (.laload, 1)) {target : State}
    (hr : Steps p.tables e below (T.setTop { g with pc := g.pc + 1, stack := .long x :: rest }) target) : Steps p.tables e below (T.setTop g) target := by
  obtain ⟨cl, A, S, H⟩ := F
  exact X.laload hx (by rw [eT]; exact A.1) (State.isArrayOf_alike hZ.alike A.2.1) A.2.2 (inb hj S hn) (by rw [nat32 hj, H J hn, hv]) hg hs hd _ hr
theorem lenA (X : Stand p l e R s m args below meth c T locs cells slots) (hx : p.tables.exec = Jvm.exec) (hZ : Z.Warmed39 s.vm) (eT : T.heap = h) (F : Ag Z h a ty n f) {z : Int32} (hz : z.toInt = (n : Int)) {g : JFrame} (hg : g.method = m) {rest : List Value} (hs : g.stack = .ref a :: rest) (hd : decode c.code g.pc = .ok (.arraylength, 1)) {target : State}
    (hr : Steps p.tables e below (T.setTop { g with pc := g.pc + 1, stack := .int z :: rest }) target) : Steps p.tables e below (T.setTop g) target := by
  obtain ⟨cl, A, S, H⟩ := F
  have q : cl.slots.size.toInt32 = z := by
    have h1 := Int32.toInt_lt z
    apply Int32.toInt_inj.mp
    rw [S, hz]; exact Int32.toInt_ofNat_small (by omega)
  exact X.arraylength hx (by rw [eT]; exact A.1) (State.isArrayOf_alike hZ.alike A.2.1) hg hs hd _ (by rw [q]; exact hr)
theorem stDA (X : Stand p l e R s m args below meth c T locs cells slots) (hx : p.tables.exec = Jvm.exec) (hZ : Z.Warmed39 s.vm) (eT : T.heap = h) (F : Ag Z h a .double n f) {j : Int32} {J : Nat} (hj : j.toInt = (J : Int)) (hn : J < n) {x : UInt64} {g : JFrame} (hg : g.method = m) {rest : List Value} (hs : g.stack = .double x :: .int j :: .ref a :: rest) (hd : decode c.code g.pc = .ok (.dastore, 1)) :
    ∃ T' h', Stand p l e R s m args below meth c T' (locs ++ [⟨a, J⟩]) cells slots ∧ T'.heap = h' ∧ Wr h h' a J (.double x) ∧ ∀ target, Steps p.tables e below (T'.setTop { g with pc := g.pc + 1, stack := rest }) target → Steps p.tables e below (T.setTop g) target := by
  obtain ⟨cl, A, S, H⟩ := F
  have q := stD X hx hZ eT A (inb hj S hn) hg hs hd
  rw [nat32 hj] at q; exact q
theorem stIA (X : Stand p l e R s m args below meth c T locs cells slots) (hx : p.tables.exec = Jvm.exec) (hZ : Z.Warmed39 s.vm) (eT : T.heap = h) (F : Ag Z h a .int n f) {j : Int32} {J : Nat} (hj : j.toInt = (J : Int)) (hn : J < n) {x : Int32} {g : JFrame} (hg : g.method = m) {rest : List Value} (hs : g.stack = .int x :: .int j :: .ref a :: rest) (hd : decode c.code g.pc = .ok (.iastore, 1)) :
    ∃ T' h', Stand p l e R s m args below meth c T' (locs ++ [⟨a, J⟩]) cells slots ∧ T'.heap = h' ∧ Wr h h' a J (.int x) ∧ ∀ target, Steps p.tables e below (T'.setTop { g with pc := g.pc + 1, stack := rest }) target → Steps p.tables e below (T.setTop g) target := by
  obtain ⟨cl, A, S, H⟩ := F
  have q := stI X hx hZ eT A (inb hj S hn) hg hs hd
  rw [nat32 hj] at q; exact q
theorem stJA (X : Stand p l e R s m args below meth c T locs cells slots) (hx : p.tables.exec = Jvm.exec) (hZ : Z.Warmed39 s.vm) (eT : T.heap = h) (F : Ag Z h a .long n f) {j : Int32} {J : Nat} (hj : j.toInt = (J : Int)) (hn : J < n) {x : Int64} {g : JFrame} (hg : g.method = m) {rest : List Value} (hs : g.stack = .long x :: .int j :: .ref a :: rest) (hd : decode c.code g.pc = .ok (.lastore, 1)) :
    ∃ T' h', Stand p l e R s m args below meth c T' (locs ++ [⟨a, J⟩]) cells slots ∧ T'.heap = h' ∧ Wr h h' a J (.long x) ∧ ∀ target, Steps p.tables e below (T'.setTop { g with pc := g.pc + 1, stack := rest }) target → Steps p.tables e below (T.setTop g) target := by
  obtain ⟨cl, A, S, H⟩ := F
  have q := stJ X hx hZ eT A (inb hj S hn) hg hs hd
  rw [nat32 hj] at q; exact q
end
end Jvm.OwnArr
namespace Jvm.Pilot.@@N@@
open Jvm Jvm.ClassFile Sem Op Lib Jvm.Free Jvm.Stand Jvm.LawKit Jvm.RoadKit Bundle Jvm.Pilot.@@N@@.Jvm.D
open Jvm.OwnFP Jvm.FP
theorem pn_com_example_topsail_topsail_exec_AnswerRankedPinLaw : plainName "com/example/topsail/topsail/exec/AnswerRankedPinLaw" = true := by first | (simp [plainName, overriddenIn]; done) | decide +kernel
theorem pn_com_example_topsail_topsail_exec_Answer : plainName "com/example/topsail/topsail/exec/Answer" = true := by first | (simp [plainName, overriddenIn]; done) | decide +kernel
theorem pd___V : parseMethodDescriptor "()V" = some ⟨[], none⟩ := by decide +kernel
theorem pd___I_D_V : parseMethodDescriptor "([I[D)V" = some ⟨[(.array .int), (.array .double)], none⟩ := by decide +kernel
theorem pd___I_Lcom_example_topsail_topsail_exec_Answer_ : parseMethodDescriptor "([I)Lcom/example/topsail/topsail/exec/Answer;" = some ⟨[(.array .int)], some (.object "com/example/topsail/topsail/exec/Answer")⟩ := by decide +kernel
theorem pd___Z : parseMethodDescriptor "()Z" = some ⟨[], some .boolean⟩ := by decide +kernel
theorem pd__I_D : parseMethodDescriptor "(I)D" = some ⟨[.int], some .double⟩ := by decide +kernel
theorem d1_0 : decode prog_5_method_1_code 0 = .ok (.aload_n 0, 1) := by decide +kernel
theorem d1_1 : decode prog_5_method_1_code 1 = .ok (.invokespecial 1, 3) := by decide +kernel
theorem d1_4 : decode prog_5_method_1_code 4 = .ok (.aload_n 0, 1) := by decide +kernel
theorem d1_5 : decode prog_5_method_1_code 5 = .ok (.aload_n 1, 1) := by decide +kernel
theorem d1_6 : decode prog_5_method_1_code 6 = .ok (.putfield 7, 3) := by decide +kernel
theorem d1_9 : decode prog_5_method_1_code 9 = .ok (.aload_n 0, 1) := by decide +kernel
theorem d1_10 : decode prog_5_method_1_code 10 = .ok (.aload_n 2, 1) := by decide +kernel
theorem d1_11 : decode prog_5_method_1_code 11 = .ok (.putfield 13, 3) := by decide +kernel
theorem d1_14 : decode prog_5_method_1_code 14 = .ok (.return_, 1) := by decide +kernel
theorem ef_in0 (m : MethodId) (a1 : Addr) (po : Addr) : entryFrame m #[(.ref a1), (.ref po), .null] 3 = (mkF m 0 #[.val (.ref a1), .val (.ref po), .val .null] []) := by first | (simp [entryFrame, mkF, argsToLocals, Value.category]; done) | rfl
def Q_in0 (Z : State) (a1 : Addr) (po : Addr) (h0 : Heap) (n0 : Nat) (v : Option Value) (h : Heap) (L : List Loc) : Prop := v = none ∧ Fr n0 L ∧ Keep h0 h [a1] ∧ Exa Z h a1 "com/example/topsail/topsail/exec/Answer" ∧ Fld Z h a1 "com/example/topsail/topsail/exec/Answer" "objects" "[I" (.ref po) ∧ Fld Z h a1 "com/example/topsail/topsail/exec/Answer" "grades" "[D" .null
set_option maxRecDepth 65536 in
set_option maxHeartbeats 2000000 in
theorem rm_in0 (l : Launch) (Z : State) (a0 : Array Value) (hw : ∀ d ∈ tables_1, d.before a0 Z = true) (ws : List Jvm.Cond) (a1 : Addr) (po : Addr) (h0 : Heap) (n0 : Nat) (Z0 : n0 ≤ h0.size) (E_a1 : Exa Z h0 a1 "com/example/topsail/topsail/exec/Answer") (F_0 : Fld Z h0 a1 "com/example/topsail/topsail/exec/Answer" "objects" "[I" .null) (F_1 : Fld Z h0 a1 "com/example/topsail/topsail/exec/Answer" "grades" "[D" .null) (g_a1 : n0 ≤ a1) :
    MetFree l (⟨"com/example/topsail/topsail/exec/Answer", "<init>", "([I[D)V"⟩ : MethodName) (head1 (Jvm.Cond.code (⟨"com/example/topsail/topsail/exec/Answer", "<init>", "([I[D)V"⟩ : MethodName) prog_5_method_1_code 3 none :: ws) ({ frames := 1, cells := 0, slots := 0, locals := 12 } : Room)) (fun aa UU => aa = #[(.ref a1), (.ref po), .null] ∧ Z.Warmed39 UU.vm ∧ UU.heap = h0) (fun _ _ _ _ _ => True) (fun _ UU oo UU' => ∃ v L, oo = .returned v ∧ Q_in0 Z a1 po h0 n0 v UU'.heap L ∧ FrameEnd UU oo UU' L ({ frames := 1, cells := 0, slots := 0, locals := 12 } : Room).cells ({ frames := 1, cells := 0, slots := 0, locals := 12 } : Room).slots) := by
  refine MetFree.of_bodySF (plainFor_of_name pn_com_example_topsail_topsail_exec_Answer) hisR ?_
  intro p e s m args below meth c s₁ Bd hml0 hP hK
  obtain ⟨rfl, hZ, hh⟩ := hP
  have hx := Bd.exec
  have hby := Bd.bytes
  have hml : c.maxLocals = 3 := hml0
  have hown : s.vm.findClass "com/example/topsail/topsail/exec/Answer" = some m.cls := findClass_of_methodNamed Bd.named
  have hnaM := (name_of_methodNamed Bd.named Bd.method).1
  have X0 : Stand p l e ({ frames := 1, cells := 0, slots := 0, locals := 12 } : Room) s m #[(.ref a1), (.ref po), .null] below meth c s₁ [] 0 0 := Stand.of_body Bd
  have e0 : s₁.heap = h0 := by rw [← hh, Bd.state]; rfl
  have N0 := Fr.nil n0
  have pre0 : ∀ t, Steps p.tables e below (s₁.setTop (entryFrame m #[(.ref a1), (.ref po), .null] 3)) t → Steps p.tables e below (s₁.setTop (entryFrame m #[(.ref a1), (.ref po), .null] 3)) t := fun t k => k
  have c0 : ∀ t, Steps p.tables e below (s₁.setTop (mkF m 0 #[.val (.ref a1), .val (.ref po), .val .null] [])) t → Steps p.tables e below (s₁.setTop (entryFrame m #[(.ref a1), (.ref po), .null] 3)) t := fun t k => castTop (ef_in0 m a1 po) k
  have K0 := Keep.refl h0 [a1]
  have c1 : ∀ t, Steps p.tables e below (s₁.setTop (mkF m 1 #[.val (.ref a1), .val (.ref po), .val .null] [(.ref a1)])) t → Steps p.tables e below (s₁.setTop (entryFrame m #[(.ref a1), (.ref po), .null] 3)) t := fun t k => c0 t (by
    show Steps p.tables e below (s₁.setTop (mkF m 0 #[.val (.ref a1), .val (.ref po), .val .null] [])) _
    refine XS.aloadN X0.here hx rfl (hb hby d1_0) rfl rfl ?_
    show Steps p.tables e below (s₁.setTop (mkF m 1 #[.val (.ref a1), .val (.ref po), .val .null] [(.ref a1)])) _
    exact k)
  obtain ⟨T2, X2, e2, st2⟩ := initO X0 hx hZ hown (hw _ (List.mem_of_getElem? (i := 8) rfl)) (hw _ (List.mem_of_getElem? (i := 9) rfl)) (hw _ (List.mem_of_getElem? (i := 10) rfl)) e0 (g := (mkF m 1 #[.val (.ref a1), .val (.ref po), .val .null] [(.ref a1)])) rfl (by rw [hml]; rfl) rfl (hb hby d1_1) (by decide) (W := 0) (by show 2 * 0 + _ ≤ _; exact Nat.le_of_eq rfl) (by decide)
  have c3 : ∀ t, Steps p.tables e below (T2.setTop (mkF m 4 #[.val (.ref a1), .val (.ref po), .val .null] [])) t → Steps p.tables e below (s₁.setTop (entryFrame m #[(.ref a1), (.ref po), .null] 3)) t := fun t k => c1 t (st2 _ k)
  have c4 : ∀ t, Steps p.tables e below (T2.setTop (mkF m 6 #[.val (.ref a1), .val (.ref po), .val .null] [(.ref po), (.ref a1)])) t → Steps p.tables e below (s₁.setTop (entryFrame m #[(.ref a1), (.ref po), .null] 3)) t := fun t k => c3 t (by
    show Steps p.tables e below (T2.setTop (mkF m 4 #[.val (.ref a1), .val (.ref po), .val .null] [])) _
    refine XS.aloadN X2.here hx rfl (hb hby d1_4) rfl rfl ?_
    show Steps p.tables e below (T2.setTop (mkF m 5 #[.val (.ref a1), .val (.ref po), .val .null] [(.ref a1)])) _
    refine XS.aloadN X2.here hx rfl (hb hby d1_5) rfl rfl ?_
    show Steps p.tables e below (T2.setTop (mkF m 6 #[.val (.ref a1), .val (.ref po), .val .null] [(.ref po), (.ref a1)])) _
    exact k)
  obtain ⟨T5, h5, X5, e5, W5, st5⟩ := putF X2 hx hZ hown (host := "") (Or.inl (hw _ (List.mem_of_getElem? (i := 11) rfl))) Via.refl e2 F_0 E_a1 (Or.inr ⟨(hw _ (List.mem_of_getElem? (i := 12) rfl)), rfl, hnaM⟩) (hw _ (List.mem_of_getElem? (i := 3) rfl)) (ty := (.array .int)) (by decide) rfl rfl (g := (mkF m 6 #[.val (.ref a1), .val (.ref po), .val .null] [(.ref po), (.ref a1)])) rfl rfl (hb hby d1_6)
  have F6 : Fld Z h5 a1 "com/example/topsail/topsail/exec/Answer" "objects" "[I" (.ref po) := F_0.same W5
  have F7 : Exa Z h5 a1 "com/example/topsail/topsail/exec/Answer" := (E_a1.wr W5)
  have F8 : Fld Z h5 a1 "com/example/topsail/topsail/exec/Answer" "grades" "[D" .null := (F_1.other W5 (Or.inr (slot_ne (Or.inr (hw _ (List.mem_of_getElem? (i := 14) rfl))) (Or.inr (hw _ (List.mem_of_getElem? (i := 12) rfl))) (by decide) (t := (.array .double)) (t' := (.array .int)) (by decide) (by decide))))
  have N5 := Fr.snoc X5 N0 g_a1
  have K9 : Keep h0 h5 [a1] := K0.wr W5 (Or.inl (List.mem_of_getElem? (i := 0) rfl))
  have c10 : ∀ t, Steps p.tables e below (T5.setTop (mkF m 9 #[.val (.ref a1), .val (.ref po), .val .null] [])) t → Steps p.tables e below (s₁.setTop (entryFrame m #[(.ref a1), (.ref po), .null] 3)) t := fun t k => c4 t (st5 _ k)
  have c11 : ∀ t, Steps p.tables e below (T5.setTop (mkF m 11 #[.val (.ref a1), .val (.ref po), .val .null] [.null, (.ref a1)])) t → Steps p.tables e below (s₁.setTop (entryFrame m #[(.ref a1), (.ref po), .null] 3)) t := fun t k => c10 t (by
    show Steps p.tables e below (T5.setTop (mkF m 9 #[.val (.ref a1), .val (.ref po), .val .null] [])) _
    refine XS.aloadN X5.here hx rfl (hb hby d1_9) rfl rfl ?_
    show Steps p.tables e below (T5.setTop (mkF m 10 #[.val (.ref a1), .val (.ref po), .val .null] [(.ref a1)])) _
    refine XS.aloadN X5.here hx rfl (hb hby d1_10) rfl rfl ?_
    show Steps p.tables e below (T5.setTop (mkF m 11 #[.val (.ref a1), .val (.ref po), .val .null] [.null, (.ref a1)])) _
    exact k)
  obtain ⟨T12, h12, X12, e12, W12, st12⟩ := putF X5 hx hZ hown (host := "") (Or.inl (hw _ (List.mem_of_getElem? (i := 13) rfl))) Via.refl e5 F8 F7 (Or.inr ⟨(hw _ (List.mem_of_getElem? (i := 14) rfl)), rfl, hnaM⟩) (hw _ (List.mem_of_getElem? (i := 3) rfl)) (ty := (.array .double)) (by decide) rfl rfl (g := (mkF m 11 #[.val (.ref a1), .val (.ref po), .val .null] [.null, (.ref a1)])) rfl rfl (hb hby d1_11)
  have F13 : Fld Z h12 a1 "com/example/topsail/topsail/exec/Answer" "grades" "[D" .null := F8.same W12
  have F14 : Exa Z h12 a1 "com/example/topsail/topsail/exec/Answer" := (F7.wr W12)
  have F15 : Fld Z h12 a1 "com/example/topsail/topsail/exec/Answer" "objects" "[I" (.ref po) := (F6.other W12 (Or.inr (slot_ne (Or.inr (hw _ (List.mem_of_getElem? (i := 12) rfl))) (Or.inr (hw _ (List.mem_of_getElem? (i := 14) rfl))) (by decide) (t := (.array .int)) (t' := (.array .double)) (by decide) (by decide))))
  have N12 := Fr.snoc X12 N5 g_a1
  have K16 : Keep h0 h12 [a1] := K9.wr W12 (Or.inl (List.mem_of_getElem? (i := 0) rfl))
  have c17 : ∀ t, Steps p.tables e below (T12.setTop (mkF m 14 #[.val (.ref a1), .val (.ref po), .val .null] [])) t → Steps p.tables e below (s₁.setTop (entryFrame m #[(.ref a1), (.ref po), .null] 3)) t := fun t k => c11 t (st12 _ k)
  obtain ⟨fs, hr, hrun, hended, hW, hsame⟩ := X12.leave (v := none) (fun _ => rfl)
  refine ⟨_, _, pre0 _ (c17 _ (X12.returnOut hx Bd.returns (hb hby d1_14) hr)), hrun, hended, _, _, rfl, ?_, ⟨_, rfl⟩, hW, hsame.mono (by decide) (by decide)⟩
  show Q_in0 Z a1 po h0 n0 _ T12.heap _
  rw [e12]
  exact ⟨rfl, N12, K16, F14, F15, F13⟩
theorem ef_in1 (m : MethodId) (a1 : Addr) (po : Addr) (pg : Addr) : entryFrame m #[(.ref a1), (.ref po), (.ref pg)] 3 = (mkF m 0 #[.val (.ref a1), .val (.ref po), .val (.ref pg)] []) := by first | (simp [entryFrame, mkF, argsToLocals, Value.category]; done) | rfl
def Q_in1 (Z : State) (a1 : Addr) (po : Addr) (pg : Addr) (h0 : Heap) (n0 : Nat) (v : Option Value) (h : Heap) (L : List Loc) : Prop := v = none ∧ Fr n0 L ∧ Keep h0 h [a1] ∧ Exa Z h a1 "com/example/topsail/topsail/exec/Answer" ∧ Fld Z h a1 "com/example/topsail/topsail/exec/Answer" "objects" "[I" (.ref po) ∧ Fld Z h a1 "com/example/topsail/topsail/exec/Answer" "grades" "[D" (.ref pg)
set_option maxRecDepth 65536 in
set_option maxHeartbeats 2000000 in
theorem rm_in1 (l : Launch) (Z : State) (a0 : Array Value) (hw : ∀ d ∈ tables_1, d.before a0 Z = true) (ws : List Jvm.Cond) (a1 : Addr) (po : Addr) (pg : Addr) (h0 : Heap) (n0 : Nat) (Z0 : n0 ≤ h0.size) (E_a1 : Exa Z h0 a1 "com/example/topsail/topsail/exec/Answer") (F_0 : Fld Z h0 a1 "com/example/topsail/topsail/exec/Answer" "objects" "[I" .null) (F_1 : Fld Z h0 a1 "com/example/topsail/topsail/exec/Answer" "grades" "[D" .null) (g_a1 : n0 ≤ a1) :
    MetFree l (⟨"com/example/topsail/topsail/exec/Answer", "<init>", "([I[D)V"⟩ : MethodName) (head1 (Jvm.Cond.code (⟨"com/example/topsail/topsail/exec/Answer", "<init>", "([I[D)V"⟩ : MethodName) prog_5_method_1_code 3 none :: ws) ({ frames := 1, cells := 0, slots := 0, locals := 12 } : Room)) (fun aa UU => aa = #[(.ref a1), (.ref po), (.ref pg)] ∧ Z.Warmed39 UU.vm ∧ UU.heap = h0) (fun _ _ _ _ _ => True) (fun _ UU oo UU' => ∃ v L, oo = .returned v ∧ Q_in1 Z a1 po pg h0 n0 v UU'.heap L ∧ FrameEnd UU oo UU' L ({ frames := 1, cells := 0, slots := 0, locals := 12 } : Room).cells ({ frames := 1, cells := 0, slots := 0, locals := 12 } : Room).slots) := by
  refine MetFree.of_bodySF (plainFor_of_name pn_com_example_topsail_topsail_exec_Answer) hisR ?_
  intro p e s m args below meth c s₁ Bd hml0 hP hK
  obtain ⟨rfl, hZ, hh⟩ := hP
  have hx := Bd.exec
  have hby := Bd.bytes
  have hml : c.maxLocals = 3 := hml0
  have hown : s.vm.findClass "com/example/topsail/topsail/exec/Answer" = some m.cls := findClass_of_methodNamed Bd.named
  have hnaM := (name_of_methodNamed Bd.named Bd.method).1
  have X0 : Stand p l e ({ frames := 1, cells := 0, slots := 0, locals := 12 } : Room) s m #[(.ref a1), (.ref po), (.ref pg)] below meth c s₁ [] 0 0 := Stand.of_body Bd
  have e0 : s₁.heap = h0 := by rw [← hh, Bd.state]; rfl
  have N0 := Fr.nil n0
  have pre0 : ∀ t, Steps p.tables e below (s₁.setTop (entryFrame m #[(.ref a1), (.ref po), (.ref pg)] 3)) t → Steps p.tables e below (s₁.setTop (entryFrame m #[(.ref a1), (.ref po), (.ref pg)] 3)) t := fun t k => k
  have c0 : ∀ t, Steps p.tables e below (s₁.setTop (mkF m 0 #[.val (.ref a1), .val (.ref po), .val (.ref pg)] [])) t → Steps p.tables e below (s₁.setTop (entryFrame m #[(.ref a1), (.ref po), (.ref pg)] 3)) t := fun t k => castTop (ef_in1 m a1 po pg) k
  have K0 := Keep.refl h0 [a1]
  have c1 : ∀ t, Steps p.tables e below (s₁.setTop (mkF m 1 #[.val (.ref a1), .val (.ref po), .val (.ref pg)] [(.ref a1)])) t → Steps p.tables e below (s₁.setTop (entryFrame m #[(.ref a1), (.ref po), (.ref pg)] 3)) t := fun t k => c0 t (by
    show Steps p.tables e below (s₁.setTop (mkF m 0 #[.val (.ref a1), .val (.ref po), .val (.ref pg)] [])) _
    refine XS.aloadN X0.here hx rfl (hb hby d1_0) rfl rfl ?_
    show Steps p.tables e below (s₁.setTop (mkF m 1 #[.val (.ref a1), .val (.ref po), .val (.ref pg)] [(.ref a1)])) _
    exact k)
  obtain ⟨T2, X2, e2, st2⟩ := initO X0 hx hZ hown (hw _ (List.mem_of_getElem? (i := 8) rfl)) (hw _ (List.mem_of_getElem? (i := 9) rfl)) (hw _ (List.mem_of_getElem? (i := 10) rfl)) e0 (g := (mkF m 1 #[.val (.ref a1), .val (.ref po), .val (.ref pg)] [(.ref a1)])) rfl (by rw [hml]; rfl) rfl (hb hby d1_1) (by decide) (W := 0) (by show 2 * 0 + _ ≤ _; exact Nat.le_of_eq rfl) (by decide)
  have c3 : ∀ t, Steps p.tables e below (T2.setTop (mkF m 4 #[.val (.ref a1), .val (.ref po), .val (.ref pg)] [])) t → Steps p.tables e below (s₁.setTop (entryFrame m #[(.ref a1), (.ref po), (.ref pg)] 3)) t := fun t k => c1 t (st2 _ k)
  have c4 : ∀ t, Steps p.tables e below (T2.setTop (mkF m 6 #[.val (.ref a1), .val (.ref po), .val (.ref pg)] [(.ref po), (.ref a1)])) t → Steps p.tables e below (s₁.setTop (entryFrame m #[(.ref a1), (.ref po), (.ref pg)] 3)) t := fun t k => c3 t (by
    show Steps p.tables e below (T2.setTop (mkF m 4 #[.val (.ref a1), .val (.ref po), .val (.ref pg)] [])) _
    refine XS.aloadN X2.here hx rfl (hb hby d1_4) rfl rfl ?_
    show Steps p.tables e below (T2.setTop (mkF m 5 #[.val (.ref a1), .val (.ref po), .val (.ref pg)] [(.ref a1)])) _
    refine XS.aloadN X2.here hx rfl (hb hby d1_5) rfl rfl ?_
    show Steps p.tables e below (T2.setTop (mkF m 6 #[.val (.ref a1), .val (.ref po), .val (.ref pg)] [(.ref po), (.ref a1)])) _
    exact k)
  obtain ⟨T5, h5, X5, e5, W5, st5⟩ := putF X2 hx hZ hown (host := "") (Or.inl (hw _ (List.mem_of_getElem? (i := 11) rfl))) Via.refl e2 F_0 E_a1 (Or.inr ⟨(hw _ (List.mem_of_getElem? (i := 12) rfl)), rfl, hnaM⟩) (hw _ (List.mem_of_getElem? (i := 3) rfl)) (ty := (.array .int)) (by decide) rfl rfl (g := (mkF m 6 #[.val (.ref a1), .val (.ref po), .val (.ref pg)] [(.ref po), (.ref a1)])) rfl rfl (hb hby d1_6)
  have F6 : Fld Z h5 a1 "com/example/topsail/topsail/exec/Answer" "objects" "[I" (.ref po) := F_0.same W5
  have F7 : Exa Z h5 a1 "com/example/topsail/topsail/exec/Answer" := (E_a1.wr W5)
  have F8 : Fld Z h5 a1 "com/example/topsail/topsail/exec/Answer" "grades" "[D" .null := (F_1.other W5 (Or.inr (slot_ne (Or.inr (hw _ (List.mem_of_getElem? (i := 14) rfl))) (Or.inr (hw _ (List.mem_of_getElem? (i := 12) rfl))) (by decide) (t := (.array .double)) (t' := (.array .int)) (by decide) (by decide))))
  have N5 := Fr.snoc X5 N0 g_a1
  have K9 : Keep h0 h5 [a1] := K0.wr W5 (Or.inl (List.mem_of_getElem? (i := 0) rfl))
  have c10 : ∀ t, Steps p.tables e below (T5.setTop (mkF m 9 #[.val (.ref a1), .val (.ref po), .val (.ref pg)] [])) t → Steps p.tables e below (s₁.setTop (entryFrame m #[(.ref a1), (.ref po), (.ref pg)] 3)) t := fun t k => c4 t (st5 _ k)
  have c11 : ∀ t, Steps p.tables e below (T5.setTop (mkF m 11 #[.val (.ref a1), .val (.ref po), .val (.ref pg)] [(.ref pg), (.ref a1)])) t → Steps p.tables e below (s₁.setTop (entryFrame m #[(.ref a1), (.ref po), (.ref pg)] 3)) t := fun t k => c10 t (by
    show Steps p.tables e below (T5.setTop (mkF m 9 #[.val (.ref a1), .val (.ref po), .val (.ref pg)] [])) _
    refine XS.aloadN X5.here hx rfl (hb hby d1_9) rfl rfl ?_
    show Steps p.tables e below (T5.setTop (mkF m 10 #[.val (.ref a1), .val (.ref po), .val (.ref pg)] [(.ref a1)])) _
    refine XS.aloadN X5.here hx rfl (hb hby d1_10) rfl rfl ?_
    show Steps p.tables e below (T5.setTop (mkF m 11 #[.val (.ref a1), .val (.ref po), .val (.ref pg)] [(.ref pg), (.ref a1)])) _
    exact k)
  obtain ⟨T12, h12, X12, e12, W12, st12⟩ := putF X5 hx hZ hown (host := "") (Or.inl (hw _ (List.mem_of_getElem? (i := 13) rfl))) Via.refl e5 F8 F7 (Or.inr ⟨(hw _ (List.mem_of_getElem? (i := 14) rfl)), rfl, hnaM⟩) (hw _ (List.mem_of_getElem? (i := 3) rfl)) (ty := (.array .double)) (by decide) rfl rfl (g := (mkF m 11 #[.val (.ref a1), .val (.ref po), .val (.ref pg)] [(.ref pg), (.ref a1)])) rfl rfl (hb hby d1_11)
  have F13 : Fld Z h12 a1 "com/example/topsail/topsail/exec/Answer" "grades" "[D" (.ref pg) := F8.same W12
  have F14 : Exa Z h12 a1 "com/example/topsail/topsail/exec/Answer" := (F7.wr W12)
  have F15 : Fld Z h12 a1 "com/example/topsail/topsail/exec/Answer" "objects" "[I" (.ref po) := (F6.other W12 (Or.inr (slot_ne (Or.inr (hw _ (List.mem_of_getElem? (i := 12) rfl))) (Or.inr (hw _ (List.mem_of_getElem? (i := 14) rfl))) (by decide) (t := (.array .int)) (t' := (.array .double)) (by decide) (by decide))))
  have N12 := Fr.snoc X12 N5 g_a1
  have K16 : Keep h0 h12 [a1] := K9.wr W12 (Or.inl (List.mem_of_getElem? (i := 0) rfl))
  have c17 : ∀ t, Steps p.tables e below (T12.setTop (mkF m 14 #[.val (.ref a1), .val (.ref po), .val (.ref pg)] [])) t → Steps p.tables e below (s₁.setTop (entryFrame m #[(.ref a1), (.ref po), (.ref pg)] 3)) t := fun t k => c11 t (st12 _ k)
  obtain ⟨fs, hr, hrun, hended, hW, hsame⟩ := X12.leave (v := none) (fun _ => rfl)
  refine ⟨_, _, pre0 _ (c17 _ (X12.returnOut hx Bd.returns (hb hby d1_14) hr)), hrun, hended, _, _, rfl, ?_, ⟨_, rfl⟩, hW, hsame.mono (by decide) (by decide)⟩
  show Q_in1 Z a1 po pg h0 n0 _ T12.heap _
  rw [e12]
  exact ⟨rfl, N12, K16, F14, F15, F13⟩
theorem d3_0 : decode prog_5_method_2_code 0 = .ok (.new 8, 3) := by decide +kernel
theorem d3_3 : decode prog_5_method_2_code 3 = .ok (.dup, 1) := by decide +kernel
theorem d3_4 : decode prog_5_method_2_code 4 = .ok (.aload_n 0, 1) := by decide +kernel
theorem d3_5 : decode prog_5_method_2_code 5 = .ok (.invokevirtual 17, 3) := by decide +kernel
theorem d3_8 : decode prog_5_method_2_code 8 = .ok (.checkcast 18, 3) := by decide +kernel
theorem d3_11 : decode prog_5_method_2_code 11 = .ok (.aconst_null, 1) := by decide +kernel
theorem d3_12 : decode prog_5_method_2_code 12 = .ok (.invokespecial 22, 3) := by decide +kernel
theorem d3_15 : decode prog_5_method_2_code 15 = .ok (.areturn, 1) := by decide +kernel
theorem ef_un (m : MethodId) (ar : Addr) (xs : Nat → Int32) (n : Nat) : entryFrame m #[(.ref ar)] 1 = (mkF m 0 #[.val (.ref ar)] []) := by first | (simp [entryFrame, mkF, argsToLocals, Value.category]; done) | rfl
def Q_un (Z : State) (ar : Addr) (xs : Nat → Int32) (n : Nat) (h0 : Heap) (n0 : Nat) (v : Option Value) (h : Heap) (L : List Loc) : Prop := ∃ r : Addr, v = some (.ref r) ∧ Fr n0 L ∧ Keep h0 h [] ∧ Exa Z h r "com/example/topsail/topsail/exec/Answer" ∧ Fld Z h r "com/example/topsail/topsail/exec/Answer" "grades" "[D" .null
set_option maxRecDepth 65536 in
set_option maxHeartbeats 2000000 in
theorem rm_un (l : Launch) (Z : State) (a0 : Array Value) (hw : ∀ d ∈ tables_1, d.before a0 Z = true) (ws : List Jvm.Cond) (ar : Addr) (xs : Nat → Int32) (n : Nat) (h0 : Heap) (n0 : Nat) (Z0 : n0 ≤ h0.size) (A_0 : OwnArr.Ag Z h0 ar .int n (fun i => .int (xs i))) (E_ar : Exa Z h0 ar "[I") (hn : n ≤ 1) :
    MetFree l (⟨"com/example/topsail/topsail/exec/Answer", "unranked", "([I)Lcom/example/topsail/topsail/exec/Answer;"⟩ : MethodName) (head1 (Jvm.Cond.code (⟨"com/example/topsail/topsail/exec/Answer", "unranked", "([I)Lcom/example/topsail/topsail/exec/Answer;"⟩ : MethodName) prog_5_method_2_code 1 (some (.object "com/example/topsail/topsail/exec/Answer")) :: ws) ({ frames := 2, cells := 2, slots := 3, locals := 30 } : Room)) (fun aa UU => aa = #[(.ref ar)] ∧ Z.Warmed39 UU.vm ∧ UU.heap = h0) (fun _ _ _ _ _ => True) (fun _ UU oo UU' => ∃ v L, oo = .returned v ∧ Q_un Z ar xs n h0 n0 v UU'.heap L ∧ FrameEnd UU oo UU' L ({ frames := 2, cells := 2, slots := 3, locals := 30 } : Room).cells ({ frames := 2, cells := 2, slots := 3, locals := 30 } : Room).slots) := by
  refine MetFree.of_bodySF (plainFor_of_name pn_com_example_topsail_topsail_exec_Answer) hisR ?_
  intro p e s m args below meth c s₁ Bd hml0 hP hK
  obtain ⟨rfl, hZ, hh⟩ := hP
  have hx := Bd.exec
  have hby := Bd.bytes
  have hml : c.maxLocals = 1 := hml0
  have hown : s.vm.findClass "com/example/topsail/topsail/exec/Answer" = some m.cls := findClass_of_methodNamed Bd.named
  have hnaM := (name_of_methodNamed Bd.named Bd.method).1
  have X0 : Stand p l e ({ frames := 2, cells := 2, slots := 3, locals := 30 } : Room) s m #[(.ref ar)] below meth c s₁ [] 0 0 := Stand.of_body Bd
  have e0 : s₁.heap = h0 := by rw [← hh, Bd.state]; rfl
  have N0 := Fr.nil n0
  have pre0 : ∀ t, Steps p.tables e below (s₁.setTop (entryFrame m #[(.ref ar)] 1)) t → Steps p.tables e below (s₁.setTop (entryFrame m #[(.ref ar)] 1)) t := fun t k => k
  have c0 : ∀ t, Steps p.tables e below (s₁.setTop (mkF m 0 #[.val (.ref ar)] [])) t → Steps p.tables e below (s₁.setTop (entryFrame m #[(.ref ar)] 1)) t := fun t k => castTop (ef_un m ar xs n) k
  have K0 := Keep.refl h0 []
  obtain ⟨T1, h1, X1, e1, E1, A1, D1, -, st1⟩ := newO X0 hx hZ hown (hw _ (List.mem_of_getElem? (i := 18) rfl)) (hw _ (List.mem_of_getElem? (i := 3) rfl)) (hw _ (List.mem_of_getElem? (i := 4) rfl)) e0 (g := (mkF m 0 #[.val (.ref ar)] [])) rfl (hb hby d3_0) (by decide) (by decide)
  obtain ⟨ob, g1⟩ : ∃ z, z = h0.size := ⟨_, rfl⟩
  rw [← g1] at A1 D1 st1
  have F2 : OwnArr.Ag Z h1 ar .int n (fun i => .int (xs i)) := (A_0.ext E1)
  have F3 : Exa Z h1 ar "[I" := (E_ar.ext E1)
  have F4 : Fld Z h1 ob "com/example/topsail/topsail/exec/Answer" "objects" "[I" .null := (D1 (Or.inr (hw _ (List.mem_of_getElem? (i := 12) rfl))) (ty := (.array .int)) (by decide))
  have F5 : Fld Z h1 ob "com/example/topsail/topsail/exec/Answer" "grades" "[D" .null := (D1 (Or.inr (hw _ (List.mem_of_getElem? (i := 14) rfl))) (ty := (.array .double)) (by decide))
  have K6 : Keep h0 h1 [] := K0.ext E1
  have c7 : ∀ t, Steps p.tables e below (T1.setTop (mkF m 3 #[.val (.ref ar)] [(.ref ob)])) t → Steps p.tables e below (s₁.setTop (entryFrame m #[(.ref ar)] 1)) t := fun t k => c0 t (st1 _ k)
  have c8 : ∀ t, Steps p.tables e below (T1.setTop (mkF m 5 #[.val (.ref ar)] [(.ref ar), (.ref ob), (.ref ob)])) t → Steps p.tables e below (s₁.setTop (entryFrame m #[(.ref ar)] 1)) t := fun t k => c7 t (by
    show Steps p.tables e below (T1.setTop (mkF m 3 #[.val (.ref ar)] [(.ref ob)])) _
    refine XS.dup X1.here hx rfl (hb hby d3_3) rfl rfl ?_
    show Steps p.tables e below (T1.setTop (mkF m 4 #[.val (.ref ar)] [(.ref ob), (.ref ob)])) _
    refine XS.aloadN X1.here hx rfl (hb hby d3_4) rfl rfl ?_
    show Steps p.tables e below (T1.setTop (mkF m 5 #[.val (.ref ar)] [(.ref ar), (.ref ob), (.ref ob)])) _
    exact k)
  obtain ⟨cl9, Ac9, Sc9, Hc9⟩ := id F2
  have FC9 : FitC Z cl9 := fitC_of Ac9 (fun i hi v hv => by rw [Hc9 i (by omega)] at hv; cases hv; rfl)
  obtain ⟨T9, h9, X9, e9, E9, A9, Ex9, st9⟩ := cloneA X1 hx hZ hown (hw _ (List.mem_of_getElem? (i := 19) rfl)) (hw _ (List.mem_of_getElem? (i := 20) rfl)) (hw _ (List.mem_of_getElem? (i := 24) rfl)) (hw _ (List.mem_of_getElem? (i := 22) rfl)) (hw _ (List.mem_of_getElem? (i := 23) rfl)) (hw _ (List.mem_of_getElem? (i := 25) rfl)) e1 Ac9 F3 FC9 (g := (mkF m 5 #[.val (.ref ar)] [(.ref ar), (.ref ob), (.ref ob)])) rfl (by rw [hml]; rfl) rfl (hb hby d3_5) (by decide) (W := 2) (by show 2 * 0 + _ ≤ _; exact Nat.le_of_eq rfl) (by decide) (cap := 1) (by rw [Sc9]; exact hn) (by decide) (by decide)
  obtain ⟨cp, g9⟩ : ∃ z, z = h1.size := ⟨_, rfl⟩
  rw [← g9] at A9 Ex9 st9
  have F10 : OwnArr.Ag Z h9 ar .int n (fun i => .int (xs i)) := (F2.ext E9)
  have F11 : Exa Z h9 ar "[I" := (F3.ext E9)
  have F12 : Exa Z h9 ob "com/example/topsail/topsail/exec/Answer" := (A1.ext E9)
  have F13 : Fld Z h9 ob "com/example/topsail/topsail/exec/Answer" "objects" "[I" .null := (F4.ext E9)
  have F14 : Fld Z h9 ob "com/example/topsail/topsail/exec/Answer" "grades" "[D" .null := (F5.ext E9)
  have K15 : Keep h0 h9 [] := K6.ext E9
  have c16 : ∀ t, Steps p.tables e below (T9.setTop (mkF m 8 #[.val (.ref ar)] [(.ref cp), (.ref ob), (.ref ob)])) t → Steps p.tables e below (s₁.setTop (entryFrame m #[(.ref ar)] 1)) t := fun t k => c8 t (st9 _ k)
  obtain ⟨T17, X17, e17, st17⟩ := castY X9 hx hZ hown (hw _ (List.mem_of_getElem? (i := 26) rfl)) e9 (Ins.self Ex9) (g := (mkF m 8 #[.val (.ref ar)] [(.ref cp), (.ref ob), (.ref ob)])) rfl rfl (hb hby d3_8)
  have c18 : ∀ t, Steps p.tables e below (T17.setTop (mkF m 11 #[.val (.ref ar)] [(.ref cp), (.ref ob), (.ref ob)])) t → Steps p.tables e below (s₁.setTop (entryFrame m #[(.ref ar)] 1)) t := fun t k => c16 t (st17 _ k)
  have c19 : ∀ t, Steps p.tables e below (T17.setTop (mkF m 12 #[.val (.ref ar)] [.null, (.ref cp), (.ref ob), (.ref ob)])) t → Steps p.tables e below (s₁.setTop (entryFrame m #[(.ref ar)] 1)) t := fun t k => c18 t (by
    show Steps p.tables e below (T17.setTop (mkF m 11 #[.val (.ref ar)] [(.ref cp), (.ref ob), (.ref ob)])) _
    refine XS.aconstNull X17.here hx rfl (hb hby d3_11) ?_
    show Steps p.tables e below (T17.setTop (mkF m 12 #[.val (.ref ar)] [.null, (.ref cp), (.ref ob), (.ref ob)])) _
    exact k)
  obtain ⟨_, _, ⟨T20, L20, k20', n20⟩, -, X20, ⟨Lc20, hQ20, l20, y20, z20⟩, st20⟩ := X17.specialBack hx (y := (⟨"com/example/topsail/topsail/exec/Answer", "<init>", "([I[D)V"⟩ : MethodName)) rfl hown (mvT hZ (hw _ (List.mem_of_getElem? (i := 28) rfl))) (mvT hZ (hw _ (List.mem_of_getElem? (i := 6) rfl))) (mvT hZ (hw _ (List.mem_of_getElem? (i := 7) rfl))) (by decide) (backOf (W := 1) (rm_in0 l Z a0 hw [] ob cp h9 n0 (Nat.le_trans (Nat.le_trans Z0 E1.1) E9.1) F12 F13 F14 (Nat.le_trans Z0 (Nat.le_of_eq g1.symm))) hZ (hw _ (List.mem_of_getElem? (i := 7) rfl)) (hw _ (List.mem_of_getElem? (i := 4) rfl)) (by decide) (by decide)) (g := (mkF m 12 #[.val (.ref ar)] [.null, (.ref cp), (.ref ob), (.ref ob)])) rfl (by rw [hml]; rfl) (Steps.refl _) (a := ob) (argsL := [(.ref cp), .null]) (rest := [(.ref ob)]) (lenOf pd___I_D_V rfl) rfl (by show 2 * 0 + _ ≤ _; exact Nat.le_of_eq rfl) (hb hby d3_12) (fun _ _ => ⟨rfl, e17, (by decide : 2 + 0 ≤ _), (by decide : 3 + 0 ≤ _)⟩)
  dsimp only [Pt.U, Pt.locs, Pt.cells, Pt.slots] at X20 l20 y20 z20 st20 hQ20
  subst l20 y20 z20
  obtain ⟨rfl, N20, K20, G20_0, G20_1, G20_2⟩ := hQ20
  have M20 := Fr.app N0 N20
  have F21 : OwnArr.Ag Z T20.heap ar .int n (fun i => .int (xs i)) := (F10.keep K20 (ninS (Nat.ne_of_lt (Nat.lt_of_lt_of_le E_ar.lt (Nat.le_of_eq g1.symm))) nin0))
  have F22 : Exa Z T20.heap ar "[I" := (F11.keep K20)
  have F23 : Exa Z T20.heap ob "com/example/topsail/topsail/exec/Answer" := (F12.keep K20)
  have F24 : Exa Z T20.heap cp "[I" := (Ex9.keep K20)
  have KK20 : Keep h0 T20.heap [] := K15.trans K20 (fun x hx => by cases List.mem_singleton.mp hx; exact (Or.inr (Nat.le_trans K0.1 (Nat.le_of_eq g1.symm))))
  have c25 : ∀ t, Steps p.tables e below (T20.setTop (mkF m 15 #[.val (.ref ar)] [(.ref ob)])) t → Steps p.tables e below (s₁.setTop (entryFrame m #[(.ref ar)] 1)) t := fun t k => c19 t (st20.trans k)
  obtain ⟨fs, hr, hrun, hended, hW, hsame⟩ := X20.leave (v := (some (.ref ob))) (fun h => by rw [Bd.returns] at h; cases h)
  refine ⟨_, _, pre0 _ (c25 _ (retOut X20 hx (t := (.object "com/example/topsail/topsail/exec/Answer")) (i := .areturn) Bd.returns rfl (Or.inr (Or.inr (Or.inr (Or.inr ⟨rfl, rfl, rfl⟩)))) (hb hby d3_15) hr)), hrun, hended, _, _, rfl, ?_, ⟨_, rfl⟩, hW, hsame.mono (by decide) (by decide)⟩
  show Q_un Z ar xs n h0 n0 _ T20.heap _
  exact ⟨_, rfl, M20, KK20, G20_0, G20_2⟩
theorem d4_0 : decode prog_5_method_6_code 0 = .ok (.aload_n 0, 1) := by decide +kernel
theorem d4_1 : decode prog_5_method_6_code 1 = .ok (.getfield 13, 3) := by decide +kernel
theorem d4_4 : decode prog_5_method_6_code 4 = .ok (.ifnull 7, 3) := by decide +kernel
theorem d4_11 : decode prog_5_method_6_code 11 = .ok (.iconst 0, 1) := by decide +kernel
theorem d4_12 : decode prog_5_method_6_code 12 = .ok (.ireturn, 1) := by decide +kernel
theorem ef_rk0 (m : MethodId) (a1 : Addr) : entryFrame m #[(.ref a1)] 1 = (mkF m 0 #[.val (.ref a1)] []) := by first | (simp [entryFrame, mkF, argsToLocals, Value.category]; done) | rfl
def Q_rk0 (Z : State) (a1 : Addr) (h0 : Heap) (n0 : Nat) (v : Option Value) (h : Heap) (L : List Loc) : Prop := v = some (.int 0) ∧ Fr n0 L ∧ h = h0
set_option maxRecDepth 65536 in
set_option maxHeartbeats 2000000 in
theorem rm_rk0 (l : Launch) (Z : State) (a0 : Array Value) (hw : ∀ d ∈ tables_1, d.before a0 Z = true) (ws : List Jvm.Cond) (a1 : Addr) (h0 : Heap) (n0 : Nat) (Z0 : n0 ≤ h0.size) (G_0 : Fld Z h0 a1 "com/example/topsail/topsail/exec/Answer" "grades" "[D" .null) :
    MetFree l (⟨"com/example/topsail/topsail/exec/Answer", "ranked", "()Z"⟩ : MethodName) (head1 (Jvm.Cond.code (⟨"com/example/topsail/topsail/exec/Answer", "ranked", "()Z"⟩ : MethodName) prog_5_method_6_code 1 (some .boolean) :: ws) ({ frames := 0, cells := 0, slots := 0, locals := 0 } : Room)) (fun aa UU => aa = #[(.ref a1)] ∧ Z.Warmed39 UU.vm ∧ UU.heap = h0) (fun _ _ _ _ _ => True) (fun _ UU oo UU' => ∃ v L, oo = .returned v ∧ Q_rk0 Z a1 h0 n0 v UU'.heap L ∧ FrameEnd UU oo UU' L ({ frames := 0, cells := 0, slots := 0, locals := 0 } : Room).cells ({ frames := 0, cells := 0, slots := 0, locals := 0 } : Room).slots) := by
  refine MetFree.of_bodySF (plainFor_of_name pn_com_example_topsail_topsail_exec_Answer) hisR ?_
  intro p e s m args below meth c s₁ Bd hml0 hP hK
  obtain ⟨rfl, hZ, hh⟩ := hP
  have hx := Bd.exec
  have hby := Bd.bytes
  have hml : c.maxLocals = 1 := hml0
  have hown : s.vm.findClass "com/example/topsail/topsail/exec/Answer" = some m.cls := findClass_of_methodNamed Bd.named
  have hnaM := (name_of_methodNamed Bd.named Bd.method).1
  have X0 : Stand p l e ({ frames := 0, cells := 0, slots := 0, locals := 0 } : Room) s m #[(.ref a1)] below meth c s₁ [] 0 0 := Stand.of_body Bd
  have e0 : s₁.heap = h0 := by rw [← hh, Bd.state]; rfl
  have N0 := Fr.nil n0
  have pre0 : ∀ t, Steps p.tables e below (s₁.setTop (entryFrame m #[(.ref a1)] 1)) t → Steps p.tables e below (s₁.setTop (entryFrame m #[(.ref a1)] 1)) t := fun t k => k
  have c0 : ∀ t, Steps p.tables e below (s₁.setTop (mkF m 0 #[.val (.ref a1)] [])) t → Steps p.tables e below (s₁.setTop (entryFrame m #[(.ref a1)] 1)) t := fun t k => castTop (ef_rk0 m a1) k
  have c1 : ∀ t, Steps p.tables e below (s₁.setTop (mkF m 1 #[.val (.ref a1)] [(.ref a1)])) t → Steps p.tables e below (s₁.setTop (entryFrame m #[(.ref a1)] 1)) t := fun t k => c0 t (by
    show Steps p.tables e below (s₁.setTop (mkF m 0 #[.val (.ref a1)] [])) _
    refine XS.aloadN X0.here hx rfl (hb hby d4_0) rfl rfl ?_
    show Steps p.tables e below (s₁.setTop (mkF m 1 #[.val (.ref a1)] [(.ref a1)])) _
    exact k)
  obtain ⟨T2, X2, e2, st2⟩ := getF X0 hx hZ hown (host := "") (Or.inl (hw _ (List.mem_of_getElem? (i := 13) rfl))) Via.refl e0 G_0 (g := (mkF m 1 #[.val (.ref a1)] [(.ref a1)])) rfl rfl (hb hby d4_1)
  have c3 : ∀ t, Steps p.tables e below (T2.setTop (mkF m 4 #[.val (.ref a1)] [.null])) t → Steps p.tables e below (s₁.setTop (entryFrame m #[(.ref a1)] 1)) t := fun t k => c1 t (st2 _ k)
  have c4 : ∀ t, Steps p.tables e below (T2.setTop (mkF m 12 #[.val (.ref a1)] [(.int (0 : Int32))])) t → Steps p.tables e below (s₁.setTop (entryFrame m #[(.ref a1)] 1)) t := fun t k => c3 t (by
    show Steps p.tables e below (T2.setTop (mkF m 4 #[.val (.ref a1)] [.null])) _
    refine XS.ifnullYes X2.here hx rfl (pc0 := 4) (pc' := 11) rfl (hb hby d4_4) rfl (by decide) (by decide) ?_
    show Steps p.tables e below (T2.setTop (mkF m 11 #[.val (.ref a1)] [])) _
    refine XS.iconst X2.here hx rfl (hb hby d4_11) ?_
    show Steps p.tables e below (T2.setTop (mkF m 12 #[.val (.ref a1)] [(.int (0 : Int32))])) _
    exact k)
  obtain ⟨fs, hr, hrun, hended, hW, hsame⟩ := X2.leave (v := (some (.int (0 : Int32)))) (fun h => by rw [Bd.returns] at h; cases h)
  refine ⟨_, _, pre0 _ (c4 _ (retN X2 hx (t := .boolean) Bd.returns (by simp) (hb hby d4_12) hr)), hrun, hended, _, _, rfl, ?_, ⟨_, rfl⟩, hW, hsame.mono (by decide) (by decide)⟩
  show Q_rk0 Z a1 h0 n0 _ T2.heap _
  rw [e2]
  exact ⟨rfl, N0, rfl⟩
theorem d4_7 : decode prog_5_method_6_code 7 = .ok (.iconst 1, 1) := by decide +kernel
theorem d4_8 : decode prog_5_method_6_code 8 = .ok (.goto 4, 3) := by decide +kernel
theorem ef_rk1 (m : MethodId) (a1 : Addr) (pg : Addr) : entryFrame m #[(.ref a1)] 1 = (mkF m 0 #[.val (.ref a1)] []) := by first | (simp [entryFrame, mkF, argsToLocals, Value.category]; done) | rfl
def Q_rk1 (Z : State) (a1 : Addr) (pg : Addr) (h0 : Heap) (n0 : Nat) (v : Option Value) (h : Heap) (L : List Loc) : Prop := v = some (.int 1) ∧ Fr n0 L ∧ h = h0
set_option maxRecDepth 65536 in
set_option maxHeartbeats 2000000 in
theorem rm_rk1 (l : Launch) (Z : State) (a0 : Array Value) (hw : ∀ d ∈ tables_1, d.before a0 Z = true) (ws : List Jvm.Cond) (a1 : Addr) (pg : Addr) (h0 : Heap) (n0 : Nat) (Z0 : n0 ≤ h0.size) (G_0 : Fld Z h0 a1 "com/example/topsail/topsail/exec/Answer" "grades" "[D" (.ref pg)) :
    MetFree l (⟨"com/example/topsail/topsail/exec/Answer", "ranked", "()Z"⟩ : MethodName) (head1 (Jvm.Cond.code (⟨"com/example/topsail/topsail/exec/Answer", "ranked", "()Z"⟩ : MethodName) prog_5_method_6_code 1 (some .boolean) :: ws) ({ frames := 0, cells := 0, slots := 0, locals := 0 } : Room)) (fun aa UU => aa = #[(.ref a1)] ∧ Z.Warmed39 UU.vm ∧ UU.heap = h0) (fun _ _ _ _ _ => True) (fun _ UU oo UU' => ∃ v L, oo = .returned v ∧ Q_rk1 Z a1 pg h0 n0 v UU'.heap L ∧ FrameEnd UU oo UU' L ({ frames := 0, cells := 0, slots := 0, locals := 0 } : Room).cells ({ frames := 0, cells := 0, slots := 0, locals := 0 } : Room).slots) := by
  refine MetFree.of_bodySF (plainFor_of_name pn_com_example_topsail_topsail_exec_Answer) hisR ?_
  intro p e s m args below meth c s₁ Bd hml0 hP hK
  obtain ⟨rfl, hZ, hh⟩ := hP
  have hx := Bd.exec
  have hby := Bd.bytes
  have hml : c.maxLocals = 1 := hml0
  have hown : s.vm.findClass "com/example/topsail/topsail/exec/Answer" = some m.cls := findClass_of_methodNamed Bd.named
  have hnaM := (name_of_methodNamed Bd.named Bd.method).1
  have X0 : Stand p l e ({ frames := 0, cells := 0, slots := 0, locals := 0 } : Room) s m #[(.ref a1)] below meth c s₁ [] 0 0 := Stand.of_body Bd
  have e0 : s₁.heap = h0 := by rw [← hh, Bd.state]; rfl
  have N0 := Fr.nil n0
  have pre0 : ∀ t, Steps p.tables e below (s₁.setTop (entryFrame m #[(.ref a1)] 1)) t → Steps p.tables e below (s₁.setTop (entryFrame m #[(.ref a1)] 1)) t := fun t k => k
  have c0 : ∀ t, Steps p.tables e below (s₁.setTop (mkF m 0 #[.val (.ref a1)] [])) t → Steps p.tables e below (s₁.setTop (entryFrame m #[(.ref a1)] 1)) t := fun t k => castTop (ef_rk1 m a1 pg) k
  have c1 : ∀ t, Steps p.tables e below (s₁.setTop (mkF m 1 #[.val (.ref a1)] [(.ref a1)])) t → Steps p.tables e below (s₁.setTop (entryFrame m #[(.ref a1)] 1)) t := fun t k => c0 t (by
    show Steps p.tables e below (s₁.setTop (mkF m 0 #[.val (.ref a1)] [])) _
    refine XS.aloadN X0.here hx rfl (hb hby d4_0) rfl rfl ?_
    show Steps p.tables e below (s₁.setTop (mkF m 1 #[.val (.ref a1)] [(.ref a1)])) _
    exact k)
  obtain ⟨T2, X2, e2, st2⟩ := getF X0 hx hZ hown (host := "") (Or.inl (hw _ (List.mem_of_getElem? (i := 13) rfl))) Via.refl e0 G_0 (g := (mkF m 1 #[.val (.ref a1)] [(.ref a1)])) rfl rfl (hb hby d4_1)
  have c3 : ∀ t, Steps p.tables e below (T2.setTop (mkF m 4 #[.val (.ref a1)] [(.ref pg)])) t → Steps p.tables e below (s₁.setTop (entryFrame m #[(.ref a1)] 1)) t := fun t k => c1 t (st2 _ k)
  have c4 : ∀ t, Steps p.tables e below (T2.setTop (mkF m 12 #[.val (.ref a1)] [(.int (1 : Int32))])) t → Steps p.tables e below (s₁.setTop (entryFrame m #[(.ref a1)] 1)) t := fun t k => c3 t (by
    show Steps p.tables e below (T2.setTop (mkF m 4 #[.val (.ref a1)] [(.ref pg)])) _
    refine XS.ifnullNo X2.here hx rfl (hb hby d4_4) rfl ?_
    show Steps p.tables e below (T2.setTop (mkF m 7 #[.val (.ref a1)] [])) _
    refine XS.iconst X2.here hx rfl (hb hby d4_7) ?_
    show Steps p.tables e below (T2.setTop (mkF m 8 #[.val (.ref a1)] [(.int (1 : Int32))])) _
    refine XS.goto X2.here hx rfl (pc0 := 8) (pc' := 12) rfl (hb hby d4_8) (by decide) (by decide) ?_
    show Steps p.tables e below (T2.setTop (mkF m 12 #[.val (.ref a1)] [(.int (1 : Int32))])) _
    exact k)
  obtain ⟨fs, hr, hrun, hended, hW, hsame⟩ := X2.leave (v := (some (.int (1 : Int32)))) (fun h => by rw [Bd.returns] at h; cases h)
  refine ⟨_, _, pre0 _ (c4 _ (retN X2 hx (t := .boolean) Bd.returns (by simp) (hb hby d4_12) hr)), hrun, hended, _, _, rfl, ?_, ⟨_, rfl⟩, hW, hsame.mono (by decide) (by decide)⟩
  show Q_rk1 Z a1 pg h0 n0 _ T2.heap _
  rw [e2]
  exact ⟨rfl, N0, rfl⟩
theorem d5_0 : decode prog_5_method_7_code 0 = .ok (.aload_n 0, 1) := by decide +kernel
theorem d5_1 : decode prog_5_method_7_code 1 = .ok (.getfield 13, 3) := by decide +kernel
theorem d5_4 : decode prog_5_method_7_code 4 = .ok (.iload_n 1, 1) := by decide +kernel
theorem d5_5 : decode prog_5_method_7_code 5 = .ok (.daload, 1) := by decide +kernel
theorem d5_6 : decode prog_5_method_7_code 6 = .ok (.dreturn, 1) := by decide +kernel
theorem ef_gr (m : MethodId) (a1 : Addr) (pg : Addr) (pd : UInt64) : entryFrame m #[(.ref a1), (.int (0 : Int32))] 2 = (mkF m 0 #[.val (.ref a1), .val (.int (0 : Int32))] []) := by first | (simp [entryFrame, mkF, argsToLocals, Value.category]; done) | rfl
def Q_gr (Z : State) (a1 : Addr) (pg : Addr) (pd : UInt64) (h0 : Heap) (n0 : Nat) (v : Option Value) (h : Heap) (L : List Loc) : Prop := v = some (.double pd) ∧ Fr n0 L ∧ h = h0
set_option maxRecDepth 65536 in
set_option maxHeartbeats 2000000 in
theorem rm_gr (l : Launch) (Z : State) (a0 : Array Value) (hw : ∀ d ∈ tables_1, d.before a0 Z = true) (ws : List Jvm.Cond) (a1 : Addr) (pg : Addr) (pd : UInt64) (h0 : Heap) (n0 : Nat) (Z0 : n0 ≤ h0.size) (G_0 : Fld Z h0 a1 "com/example/topsail/topsail/exec/Answer" "grades" "[D" (.ref pg)) (A_0 : OwnArr.Ag Z h0 pg .double 1 (fun _ => .double pd)) :
    MetFree l (⟨"com/example/topsail/topsail/exec/Answer", "grade", "(I)D"⟩ : MethodName) (head1 (Jvm.Cond.code (⟨"com/example/topsail/topsail/exec/Answer", "grade", "(I)D"⟩ : MethodName) prog_5_method_7_code 2 (some .double) :: ws) ({ frames := 0, cells := 0, slots := 0, locals := 0 } : Room)) (fun aa UU => aa = #[(.ref a1), (.int (0 : Int32))] ∧ Z.Warmed39 UU.vm ∧ UU.heap = h0) (fun _ _ _ _ _ => True) (fun _ UU oo UU' => ∃ v L, oo = .returned v ∧ Q_gr Z a1 pg pd h0 n0 v UU'.heap L ∧ FrameEnd UU oo UU' L ({ frames := 0, cells := 0, slots := 0, locals := 0 } : Room).cells ({ frames := 0, cells := 0, slots := 0, locals := 0 } : Room).slots) := by
  refine MetFree.of_bodySF (plainFor_of_name pn_com_example_topsail_topsail_exec_Answer) hisR ?_
  intro p e s m args below meth c s₁ Bd hml0 hP hK
  obtain ⟨rfl, hZ, hh⟩ := hP
  have hx := Bd.exec
  have hby := Bd.bytes
  have hml : c.maxLocals = 2 := hml0
  have hown : s.vm.findClass "com/example/topsail/topsail/exec/Answer" = some m.cls := findClass_of_methodNamed Bd.named
  have hnaM := (name_of_methodNamed Bd.named Bd.method).1
  have X0 : Stand p l e ({ frames := 0, cells := 0, slots := 0, locals := 0 } : Room) s m #[(.ref a1), (.int (0 : Int32))] below meth c s₁ [] 0 0 := Stand.of_body Bd
  have e0 : s₁.heap = h0 := by rw [← hh, Bd.state]; rfl
  have N0 := Fr.nil n0
  have pre0 : ∀ t, Steps p.tables e below (s₁.setTop (entryFrame m #[(.ref a1), (.int (0 : Int32))] 2)) t → Steps p.tables e below (s₁.setTop (entryFrame m #[(.ref a1), (.int (0 : Int32))] 2)) t := fun t k => k
  have c0 : ∀ t, Steps p.tables e below (s₁.setTop (mkF m 0 #[.val (.ref a1), .val (.int (0 : Int32))] [])) t → Steps p.tables e below (s₁.setTop (entryFrame m #[(.ref a1), (.int (0 : Int32))] 2)) t := fun t k => castTop (ef_gr m a1 pg pd) k
  have c1 : ∀ t, Steps p.tables e below (s₁.setTop (mkF m 1 #[.val (.ref a1), .val (.int (0 : Int32))] [(.ref a1)])) t → Steps p.tables e below (s₁.setTop (entryFrame m #[(.ref a1), (.int (0 : Int32))] 2)) t := fun t k => c0 t (by
    show Steps p.tables e below (s₁.setTop (mkF m 0 #[.val (.ref a1), .val (.int (0 : Int32))] [])) _
    refine XS.aloadN X0.here hx rfl (hb hby d5_0) rfl rfl ?_
    show Steps p.tables e below (s₁.setTop (mkF m 1 #[.val (.ref a1), .val (.int (0 : Int32))] [(.ref a1)])) _
    exact k)
  obtain ⟨T2, X2, e2, st2⟩ := getF X0 hx hZ hown (host := "") (Or.inl (hw _ (List.mem_of_getElem? (i := 13) rfl))) Via.refl e0 G_0 (g := (mkF m 1 #[.val (.ref a1), .val (.int (0 : Int32))] [(.ref a1)])) rfl rfl (hb hby d5_1)
  have c3 : ∀ t, Steps p.tables e below (T2.setTop (mkF m 4 #[.val (.ref a1), .val (.int (0 : Int32))] [(.ref pg)])) t → Steps p.tables e below (s₁.setTop (entryFrame m #[(.ref a1), (.int (0 : Int32))] 2)) t := fun t k => c1 t (st2 _ k)
  have c4 : ∀ t, Steps p.tables e below (T2.setTop (mkF m 6 #[.val (.ref a1), .val (.int (0 : Int32))] [(.double pd)])) t → Steps p.tables e below (s₁.setTop (entryFrame m #[(.ref a1), (.int (0 : Int32))] 2)) t := fun t k => c3 t (by
    show Steps p.tables e below (T2.setTop (mkF m 4 #[.val (.ref a1), .val (.int (0 : Int32))] [(.ref pg)])) _
    refine XS.iloadN X2.here hx rfl (hb hby d5_4) rfl ?_
    show Steps p.tables e below (T2.setTop (mkF m 5 #[.val (.ref a1), .val (.int (0 : Int32))] [(.int (0 : Int32)), (.ref pg)])) _
    refine OwnArr.ldD X2 hx hZ e2 A_0 (j := (0 : Int32)) (J := 0) (by decide) (by decide) (x := pd) rfl (g := (mkF m 5 #[.val (.ref a1), .val (.int (0 : Int32))] [(.int (0 : Int32)), (.ref pg)])) rfl rfl (hb hby d5_5) ?_
    show Steps p.tables e below (T2.setTop (mkF m 6 #[.val (.ref a1), .val (.int (0 : Int32))] [(.double pd)])) _
    exact k)
  obtain ⟨fs, hr, hrun, hended, hW, hsame⟩ := X2.leave (v := (some (.double pd))) (fun h => by rw [Bd.returns] at h; cases h)
  refine ⟨_, _, pre0 _ (c4 _ (retOut X2 hx (t := .double) (i := .dreturn) Bd.returns rfl (Or.inr (Or.inr (Or.inl ⟨rfl, rfl, _, rfl⟩))) (hb hby d5_6) hr)), hrun, hended, _, _, rfl, ?_, ⟨_, rfl⟩, hW, hsame.mono (by decide) (by decide)⟩
  show Q_gr Z a1 pg pd h0 n0 _ T2.heap _
  rw [e2]
  exact ⟨rfl, N0, rfl⟩
theorem ef_0 (m : MethodId) (p1 : Int32) (p2 : Int32) (p3 : Int32) : entryFrame m #[(.int p1), (.int p2), (.int p3)] maxLocals = (mkF m 0 #[.val (.int p1), .val (.int p2), .val (.int p3), .unset, .unset, .unset, .unset, .unset, .unset, .unset, .unset, .unset] []) := by first | (simp [entryFrame, mkF, argsToLocals, Value.category, maxLocals]; done) | rfl
def Q_0 (Z : State) (p1 : Int32) (p2 : Int32) (p3 : Int32) (h0 : Heap) (n0 : Nat) (v : Option Value) (h : Heap) (L : List Loc) : Prop := v = some (.int 1) ∧ Fr n0 L
set_option maxRecDepth 65536 in
set_option maxHeartbeats 2000000 in
theorem rm_0 (l : Launch) (Z : State) (a0 : Array Value) (hw : ∀ d ∈ tables_1, d.before a0 Z = true) (ws : List Jvm.Cond) (p1 : Int32) (p2 : Int32) (p3 : Int32) (h0 : Heap) (n0 : Nat) (Z0 : n0 ≤ h0.size)  :
    MetFree l x (head1 (Jvm.Cond.code x code maxLocals ret :: ws) room_1) (fun aa UU => aa = #[(.int p1), (.int p2), (.int p3)] ∧ Z.Warmed39 UU.vm ∧ UU.heap = h0) (fun _ _ _ _ _ => True) (fun _ UU oo UU' => ∃ v L, oo = .returned v ∧ Q_0 Z p1 p2 p3 h0 n0 v UU'.heap L ∧ FrameEnd UU oo UU' L 24 128) := by
  refine MetFree.of_bodySF (plainFor_of_name pn_com_example_topsail_topsail_exec_AnswerRankedPinLaw) hisR ?_
  intro p e s m args below meth c s₁ Bd hml0 hP hK
  obtain ⟨rfl, hZ, hh⟩ := hP
  have hx := Bd.exec
  have hby := Bd.bytes
  have hml : c.maxLocals = 12 := hml0
  have hown : s.vm.findClass "com/example/topsail/topsail/exec/AnswerRankedPinLaw" = some m.cls := findClass_of_methodNamed Bd.named
  have hnaM := (name_of_methodNamed Bd.named Bd.method).1
  have X0 : Stand p l e room_1 s m #[(.int p1), (.int p2), (.int p3)] below meth c s₁ [] 0 0 := Stand.of_body Bd
  have e0 : s₁.heap = h0 := by rw [← hh, Bd.state]; rfl
  have N0 := Fr.nil n0
  have pre0 : ∀ t, Steps p.tables e below (s₁.setTop (entryFrame m #[(.int p1), (.int p2), (.int p3)] maxLocals)) t → Steps p.tables e below (s₁.setTop (entryFrame m #[(.int p1), (.int p2), (.int p3)] maxLocals)) t := fun t k => k
  have c0 : ∀ t, Steps p.tables e below (s₁.setTop (mkF m 0 #[.val (.int p1), .val (.int p2), .val (.int p3), .unset, .unset, .unset, .unset, .unset, .unset, .unset, .unset, .unset] [])) t → Steps p.tables e below (s₁.setTop (entryFrame m #[(.int p1), (.int p2), (.int p3)] maxLocals)) t := fun t k => castTop (ef_0 m p1 p2 p3) k
  have c1 : ∀ t, Steps p.tables e below (s₁.setTop (mkF m 3 #[.val (.int p1), .val (.int p2), .val (.int p3), .unset, .unset, .unset, .unset, .unset, .unset, .unset, .unset, .unset] [(.int (p3 &&& (1 : Int32)))])) t → Steps p.tables e below (s₁.setTop (entryFrame m #[(.int p1), (.int p2), (.int p3)] maxLocals)) t := fun t k => c0 t (by
    show Steps p.tables e below (s₁.setTop (mkF m 0 #[.val (.int p1), .val (.int p2), .val (.int p3), .unset, .unset, .unset, .unset, .unset, .unset, .unset, .unset, .unset] [])) _
    refine XS.iloadN X0.here hx rfl (hb hby at_0) rfl ?_
    show Steps p.tables e below (s₁.setTop (mkF m 1 #[.val (.int p1), .val (.int p2), .val (.int p3), .unset, .unset, .unset, .unset, .unset, .unset, .unset, .unset, .unset] [(.int p3)])) _
    refine XS.iconst X0.here hx rfl (hb hby at_1) ?_
    show Steps p.tables e below (s₁.setTop (mkF m 2 #[.val (.int p1), .val (.int p2), .val (.int p3), .unset, .unset, .unset, .unset, .unset, .unset, .unset, .unset, .unset] [(.int (1 : Int32)), (.int p3)])) _
    refine XS.iand X0.here hx rfl (hb hby at_2) rfl ?_
    show Steps p.tables e below (s₁.setTop (mkF m 3 #[.val (.int p1), .val (.int p2), .val (.int p3), .unset, .unset, .unset, .unset, .unset, .unset, .unset, .unset, .unset] [(.int (p3 &&& (1 : Int32)))])) _
    exact k)
  by_cases qa : (p3 &&& (1 : Int32)) = 0
  · skip
    have c2 : ∀ t, Steps p.tables e below (s₁.setTop (mkF m 15 #[.val (.int p1), .val (.int p2), .val (.int p3), .val (.int (0 : Int32)), .unset, .unset, .unset, .unset, .unset, .unset, .unset, .unset] [(.int (p3 &&& (2 : Int32)))])) t → Steps p.tables e below (s₁.setTop (entryFrame m #[(.int p1), (.int p2), (.int p3)] maxLocals)) t := fun t k => c1 t (by
      show Steps p.tables e below (s₁.setTop (mkF m 3 #[.val (.int p1), .val (.int p2), .val (.int p3), .unset, .unset, .unset, .unset, .unset, .unset, .unset, .unset, .unset] [(.int (p3 &&& (1 : Int32)))])) _
      refine XS.ifYes X0.here hx rfl (pc0 := 3) (pc' := 10) rfl (hb hby at_3) rfl (XT.i0_eq_t qa) (by decide) (by decide) ?_
      show Steps p.tables e below (s₁.setTop (mkF m 10 #[.val (.int p1), .val (.int p2), .val (.int p3), .unset, .unset, .unset, .unset, .unset, .unset, .unset, .unset, .unset] [])) _
      refine XS.iconst X0.here hx rfl (hb hby at_10) ?_
      show Steps p.tables e below (s₁.setTop (mkF m 11 #[.val (.int p1), .val (.int p2), .val (.int p3), .unset, .unset, .unset, .unset, .unset, .unset, .unset, .unset, .unset] [(.int (0 : Int32))])) _
      refine XS.istoreN X0.here hx rfl (hb hby at_11) rfl (l' := #[.val (.int p1), .val (.int p2), .val (.int p3), .val (.int (0 : Int32)), .unset, .unset, .unset, .unset, .unset, .unset, .unset, .unset]) rfl ?_
      show Steps p.tables e below (s₁.setTop (mkF m 12 #[.val (.int p1), .val (.int p2), .val (.int p3), .val (.int (0 : Int32)), .unset, .unset, .unset, .unset, .unset, .unset, .unset, .unset] [])) _
      refine XS.iloadN X0.here hx rfl (hb hby at_12) rfl ?_
      show Steps p.tables e below (s₁.setTop (mkF m 13 #[.val (.int p1), .val (.int p2), .val (.int p3), .val (.int (0 : Int32)), .unset, .unset, .unset, .unset, .unset, .unset, .unset, .unset] [(.int p3)])) _
      refine XS.iconst X0.here hx rfl (hb hby at_13) ?_
      show Steps p.tables e below (s₁.setTop (mkF m 14 #[.val (.int p1), .val (.int p2), .val (.int p3), .val (.int (0 : Int32)), .unset, .unset, .unset, .unset, .unset, .unset, .unset, .unset] [(.int (2 : Int32)), (.int p3)])) _
      refine XS.iand X0.here hx rfl (hb hby at_14) rfl ?_
      show Steps p.tables e below (s₁.setTop (mkF m 15 #[.val (.int p1), .val (.int p2), .val (.int p3), .val (.int (0 : Int32)), .unset, .unset, .unset, .unset, .unset, .unset, .unset, .unset] [(.int (p3 &&& (2 : Int32)))])) _
      exact k)
    by_cases qb : (p3 &&& (2 : Int32)) = 0
    · skip
      have c3 : ∀ t, Steps p.tables e below (s₁.setTop (mkF m 40 #[.val (.int p1), .val (.int p2), .val (.int p3), .val (.int (0 : Int32)), .val (.int (0 : Int32)), .unset, .unset, .unset, .unset, .unset, .unset, .unset] [(.int (0 : Int32))])) t → Steps p.tables e below (s₁.setTop (entryFrame m #[(.int p1), (.int p2), (.int p3)] maxLocals)) t := fun t k => c2 t (by
        show Steps p.tables e below (s₁.setTop (mkF m 15 #[.val (.int p1), .val (.int p2), .val (.int p3), .val (.int (0 : Int32)), .unset, .unset, .unset, .unset, .unset, .unset, .unset, .unset] [(.int (p3 &&& (2 : Int32)))])) _
        refine XS.ifYes X0.here hx rfl (pc0 := 15) (pc' := 22) rfl (hb hby at_15) rfl (XT.i0_eq_t qb) (by decide) (by decide) ?_
        show Steps p.tables e below (s₁.setTop (mkF m 22 #[.val (.int p1), .val (.int p2), .val (.int p3), .val (.int (0 : Int32)), .unset, .unset, .unset, .unset, .unset, .unset, .unset, .unset] [])) _
        refine XS.iconst X0.here hx rfl (hb hby at_22) ?_
        show Steps p.tables e below (s₁.setTop (mkF m 23 #[.val (.int p1), .val (.int p2), .val (.int p3), .val (.int (0 : Int32)), .unset, .unset, .unset, .unset, .unset, .unset, .unset, .unset] [(.int (0 : Int32))])) _
        refine XS.istore X0.here hx rfl (hb hby at_23) rfl (l' := #[.val (.int p1), .val (.int p2), .val (.int p3), .val (.int (0 : Int32)), .val (.int (0 : Int32)), .unset, .unset, .unset, .unset, .unset, .unset, .unset]) rfl ?_
        show Steps p.tables e below (s₁.setTop (mkF m 25 #[.val (.int p1), .val (.int p2), .val (.int p3), .val (.int (0 : Int32)), .val (.int (0 : Int32)), .unset, .unset, .unset, .unset, .unset, .unset, .unset] [])) _
        refine XS.iloadN X0.here hx rfl (hb hby at_25) rfl ?_
        show Steps p.tables e below (s₁.setTop (mkF m 26 #[.val (.int p1), .val (.int p2), .val (.int p3), .val (.int (0 : Int32)), .val (.int (0 : Int32)), .unset, .unset, .unset, .unset, .unset, .unset, .unset] [(.int (0 : Int32))])) _
        refine XS.ifYes X0.here hx rfl (pc0 := 26) (pc' := 39) rfl (hb hby at_26) rfl (XT.i0_eq_t (by decide)) (by decide) (by decide) ?_
        show Steps p.tables e below (s₁.setTop (mkF m 39 #[.val (.int p1), .val (.int p2), .val (.int p3), .val (.int (0 : Int32)), .val (.int (0 : Int32)), .unset, .unset, .unset, .unset, .unset, .unset, .unset] [])) _
        refine XS.iconst X0.here hx rfl (hb hby at_39) ?_
        show Steps p.tables e below (s₁.setTop (mkF m 40 #[.val (.int p1), .val (.int p2), .val (.int p3), .val (.int (0 : Int32)), .val (.int (0 : Int32)), .unset, .unset, .unset, .unset, .unset, .unset, .unset] [(.int (0 : Int32))])) _
        exact k)
      obtain ⟨T4, h4, kA4, X4, e4, E4, A4, Ex4, st4⟩ := newPE X0 hx hZ (hw _ (List.mem_of_getElem? (i := 0) rfl)) e0 (g := (mkF m 40 #[.val (.int p1), .val (.int p2), .val (.int p3), .val (.int (0 : Int32)), .val (.int (0 : Int32)), .unset, .unset, .unset, .unset, .unset, .unset, .unset] [(.int (0 : Int32))])) rfl (hb hby at_40) rfl (by decide) (cap := 0) (by decide) (by decide) (by decide) (by decide) (ad := "[I") rfl
      obtain ⟨ar, g4⟩ : ∃ z, z = h0.size := ⟨_, rfl⟩
      rw [← g4] at A4 st4 Ex4
      have F5 : OwnArr.Ag Z h4 ar .int 0 (fun _ => (.int (0 : Int32))) := (OwnArr.Ag.new A4 (by decide))
      have c6 : ∀ t, Steps p.tables e below (T4.setTop (mkF m 42 #[.val (.int p1), .val (.int p2), .val (.int p3), .val (.int (0 : Int32)), .val (.int (0 : Int32)), .unset, .unset, .unset, .unset, .unset, .unset, .unset] [(.ref ar)])) t → Steps p.tables e below (s₁.setTop (entryFrame m #[(.int p1), (.int p2), (.int p3)] maxLocals)) t := fun t k => c3 t (st4 _ k)
      obtain ⟨gd, hgd⟩ : ∃ v : UInt64, FP.i2d (p2 % (1000 : Int32)) = v := ⟨_, rfl⟩
      have Dg : Core.DFin gd := hgd ▸ (DS.i2d _).1
      have c7 : ∀ t, Steps p.tables e below (T4.setTop (mkF m 80 #[.val (.int p1), .val (.int p2), .val (.int p3), .val (.int (0 : Int32)), .val (.int (0 : Int32)), .val (.ref ar), .val (.double gd), .second, .val .null, .unset, .unset, .unset] [])) t → Steps p.tables e below (s₁.setTop (entryFrame m #[(.int p1), (.int p2), (.int p3)] maxLocals)) t := fun t k => c6 t (by
        show Steps p.tables e below (T4.setTop (mkF m 42 #[.val (.int p1), .val (.int p2), .val (.int p3), .val (.int (0 : Int32)), .val (.int (0 : Int32)), .unset, .unset, .unset, .unset, .unset, .unset, .unset] [(.ref ar)])) _
        refine XS.astore X4.here hx rfl (hb hby at_42) rfl rfl (l' := #[.val (.int p1), .val (.int p2), .val (.int p3), .val (.int (0 : Int32)), .val (.int (0 : Int32)), .val (.ref ar), .unset, .unset, .unset, .unset, .unset, .unset]) rfl ?_
        show Steps p.tables e below (T4.setTop (mkF m 44 #[.val (.int p1), .val (.int p2), .val (.int p3), .val (.int (0 : Int32)), .val (.int (0 : Int32)), .val (.ref ar), .unset, .unset, .unset, .unset, .unset, .unset] [])) _
        refine XS.iloadN X4.here hx rfl (hb hby at_44) rfl ?_
        show Steps p.tables e below (T4.setTop (mkF m 45 #[.val (.int p1), .val (.int p2), .val (.int p3), .val (.int (0 : Int32)), .val (.int (0 : Int32)), .val (.ref ar), .unset, .unset, .unset, .unset, .unset, .unset] [(.int p2)])) _
        refine XS.sipush X4.here hx rfl (hb hby at_45) ?_
        show Steps p.tables e below (T4.setTop (mkF m 48 #[.val (.int p1), .val (.int p2), .val (.int p3), .val (.int (0 : Int32)), .val (.int (0 : Int32)), .val (.ref ar), .unset, .unset, .unset, .unset, .unset, .unset] [(.int (1000 : Int32)), (.int p2)])) _
        refine iremM X4 hx rfl (hb hby at_48) rfl (by decide) ?_
        show Steps p.tables e below (T4.setTop (mkF m 49 #[.val (.int p1), .val (.int p2), .val (.int p3), .val (.int (0 : Int32)), .val (.int (0 : Int32)), .val (.ref ar), .unset, .unset, .unset, .unset, .unset, .unset] [(.int (p2 % (1000 : Int32)))])) _
        refine XS.i2dS X4.here hx rfl (hb hby at_49) rfl hgd ?_
        show Steps p.tables e below (T4.setTop (mkF m 50 #[.val (.int p1), .val (.int p2), .val (.int p3), .val (.int (0 : Int32)), .val (.int (0 : Int32)), .val (.ref ar), .unset, .unset, .unset, .unset, .unset, .unset] [(.double gd)])) _
        refine XS.dstore X4.here hx rfl (hb hby at_50) rfl (l' := #[.val (.int p1), .val (.int p2), .val (.int p3), .val (.int (0 : Int32)), .val (.int (0 : Int32)), .val (.ref ar), .val (.double gd), .second, .unset, .unset, .unset, .unset]) rfl ?_
        show Steps p.tables e below (T4.setTop (mkF m 52 #[.val (.int p1), .val (.int p2), .val (.int p3), .val (.int (0 : Int32)), .val (.int (0 : Int32)), .val (.ref ar), .val (.double gd), .second, .unset, .unset, .unset, .unset] [])) _
        refine XS.aconstNull X4.here hx rfl (hb hby at_52) ?_
        show Steps p.tables e below (T4.setTop (mkF m 53 #[.val (.int p1), .val (.int p2), .val (.int p3), .val (.int (0 : Int32)), .val (.int (0 : Int32)), .val (.ref ar), .val (.double gd), .second, .unset, .unset, .unset, .unset] [.null])) _
        refine XS.astore X4.here hx rfl (hb hby at_53) rfl rfl (l' := #[.val (.int p1), .val (.int p2), .val (.int p3), .val (.int (0 : Int32)), .val (.int (0 : Int32)), .val (.ref ar), .val (.double gd), .second, .val .null, .unset, .unset, .unset]) rfl ?_
        show Steps p.tables e below (T4.setTop (mkF m 55 #[.val (.int p1), .val (.int p2), .val (.int p3), .val (.int (0 : Int32)), .val (.int (0 : Int32)), .val (.ref ar), .val (.double gd), .second, .val .null, .unset, .unset, .unset] [])) _
        refine XS.iload X4.here hx rfl (hb hby at_55) rfl ?_
        show Steps p.tables e below (T4.setTop (mkF m 57 #[.val (.int p1), .val (.int p2), .val (.int p3), .val (.int (0 : Int32)), .val (.int (0 : Int32)), .val (.ref ar), .val (.double gd), .second, .val .null, .unset, .unset, .unset] [(.int (0 : Int32))])) _
        refine XS.ifYes X4.here hx rfl (pc0 := 57) (pc' := 80) rfl (hb hby at_57) rfl (XT.i0_eq_t (by decide)) (by decide) (by decide) ?_
        show Steps p.tables e below (T4.setTop (mkF m 80 #[.val (.int p1), .val (.int p2), .val (.int p3), .val (.int (0 : Int32)), .val (.int (0 : Int32)), .val (.ref ar), .val (.double gd), .second, .val .null, .unset, .unset, .unset] [])) _
        exact k)
      obtain ⟨T8, h8, X8, e8, E8, A8, D8, -, st8⟩ := newO X4 hx hZ hown (hw _ (List.mem_of_getElem? (i := 2) rfl)) (hw _ (List.mem_of_getElem? (i := 3) rfl)) (hw _ (List.mem_of_getElem? (i := 4) rfl)) e4 (g := (mkF m 80 #[.val (.int p1), .val (.int p2), .val (.int p3), .val (.int (0 : Int32)), .val (.int (0 : Int32)), .val (.ref ar), .val (.double gd), .second, .val .null, .unset, .unset, .unset] [])) rfl (hb hby at_80) (by decide) (by decide)
      obtain ⟨ob, g8⟩ : ∃ z, z = h4.size := ⟨_, rfl⟩
      rw [← g8] at A8 D8 st8
      have F9 : Exa Z h8 ar "[I" := (Ex4.ext E8)
      have F10 : OwnArr.Ag Z h8 ar .int 0 (fun _ => (.int (0 : Int32))) := (F5.ext E8)
      have F11 : Fld Z h8 ob "com/example/topsail/topsail/exec/Answer" "objects" "[I" .null := (D8 (Or.inr (hw _ (List.mem_of_getElem? (i := 12) rfl))) (ty := (.array .int)) (by decide))
      have F12 : Fld Z h8 ob "com/example/topsail/topsail/exec/Answer" "grades" "[D" .null := (D8 (Or.inr (hw _ (List.mem_of_getElem? (i := 14) rfl))) (ty := (.array .double)) (by decide))
      have c13 : ∀ t, Steps p.tables e below (T8.setTop (mkF m 83 #[.val (.int p1), .val (.int p2), .val (.int p3), .val (.int (0 : Int32)), .val (.int (0 : Int32)), .val (.ref ar), .val (.double gd), .second, .val .null, .unset, .unset, .unset] [(.ref ob)])) t → Steps p.tables e below (s₁.setTop (entryFrame m #[(.int p1), (.int p2), (.int p3)] maxLocals)) t := fun t k => c7 t (st8 _ k)
      have c14 : ∀ t, Steps p.tables e below (T8.setTop (mkF m 88 #[.val (.int p1), .val (.int p2), .val (.int p3), .val (.int (0 : Int32)), .val (.int (0 : Int32)), .val (.ref ar), .val (.double gd), .second, .val .null, .unset, .unset, .unset] [.null, (.ref ar), (.ref ob), (.ref ob)])) t → Steps p.tables e below (s₁.setTop (entryFrame m #[(.int p1), (.int p2), (.int p3)] maxLocals)) t := fun t k => c13 t (by
        show Steps p.tables e below (T8.setTop (mkF m 83 #[.val (.int p1), .val (.int p2), .val (.int p3), .val (.int (0 : Int32)), .val (.int (0 : Int32)), .val (.ref ar), .val (.double gd), .second, .val .null, .unset, .unset, .unset] [(.ref ob)])) _
        refine XS.dup X8.here hx rfl (hb hby at_83) rfl rfl ?_
        show Steps p.tables e below (T8.setTop (mkF m 84 #[.val (.int p1), .val (.int p2), .val (.int p3), .val (.int (0 : Int32)), .val (.int (0 : Int32)), .val (.ref ar), .val (.double gd), .second, .val .null, .unset, .unset, .unset] [(.ref ob), (.ref ob)])) _
        refine XS.aload X8.here hx rfl (hb hby at_84) rfl rfl ?_
        show Steps p.tables e below (T8.setTop (mkF m 86 #[.val (.int p1), .val (.int p2), .val (.int p3), .val (.int (0 : Int32)), .val (.int (0 : Int32)), .val (.ref ar), .val (.double gd), .second, .val .null, .unset, .unset, .unset] [(.ref ar), (.ref ob), (.ref ob)])) _
        refine XS.aload X8.here hx rfl (hb hby at_86) rfl rfl ?_
        show Steps p.tables e below (T8.setTop (mkF m 88 #[.val (.int p1), .val (.int p2), .val (.int p3), .val (.int (0 : Int32)), .val (.int (0 : Int32)), .val (.ref ar), .val (.double gd), .second, .val .null, .unset, .unset, .unset] [.null, (.ref ar), (.ref ob), (.ref ob)])) _
        exact k)
      obtain ⟨_, _, ⟨T15, L15, k15', n15⟩, -, X15, ⟨Lc15, hQ15, l15, y15, z15⟩, st15⟩ := X8.specialBack hx (y := (⟨"com/example/topsail/topsail/exec/Answer", "<init>", "([I[D)V"⟩ : MethodName)) rfl hown (mvT hZ (hw _ (List.mem_of_getElem? (i := 5) rfl))) (mvT hZ (hw _ (List.mem_of_getElem? (i := 6) rfl))) (mvT hZ (hw _ (List.mem_of_getElem? (i := 7) rfl))) (by decide) (backOf (W := 1) (rm_in0 l Z a0 hw [] ob ar h8 n0 (Nat.le_trans (Nat.le_trans Z0 E4.1) E8.1) A8 F11 F12 (Nat.le_trans (Nat.le_trans Z0 E4.1) (Nat.le_of_eq g8.symm))) hZ (hw _ (List.mem_of_getElem? (i := 7) rfl)) (hw _ (List.mem_of_getElem? (i := 4) rfl)) (by decide) (by decide)) (g := (mkF m 88 #[.val (.int p1), .val (.int p2), .val (.int p3), .val (.int (0 : Int32)), .val (.int (0 : Int32)), .val (.ref ar), .val (.double gd), .second, .val .null, .unset, .unset, .unset] [.null, (.ref ar), (.ref ob), (.ref ob)])) rfl (by rw [hml]; rfl) (Steps.refl _) (a := ob) (argsL := [(.ref ar), .null]) (rest := [(.ref ob)]) (lenOf pd___I_D_V rfl) rfl (by show 2 * 0 + _ ≤ _; exact Nat.le_of_eq rfl) (hb hby at_88) (fun _ _ => ⟨rfl, e8, (by decide : 2 + 0 ≤ _), (by decide : 2 + 0 ≤ _)⟩)
      dsimp only [Pt.U, Pt.locs, Pt.cells, Pt.slots] at X15 l15 y15 z15 st15 hQ15
      subst l15 y15 z15
      obtain ⟨rfl, N15, K15, G15_0, G15_1, G15_2⟩ := hQ15
      have M15 := Fr.app N0 N15
      have F16 : Exa Z T15.heap ar "[I" := (F9.keep K15)
      have F17 : OwnArr.Ag Z T15.heap ar .int 0 (fun _ => (.int (0 : Int32))) := (F10.keep K15 (ninS (Nat.ne_of_lt (Nat.lt_of_lt_of_le F5.lt (Nat.le_of_eq g8.symm))) nin0))
      have F18 : Exa Z T15.heap ob "com/example/topsail/topsail/exec/Answer" := (A8.keep K15)
      have c19 : ∀ t, Steps p.tables e below (T15.setTop (mkF m 91 #[.val (.int p1), .val (.int p2), .val (.int p3), .val (.int (0 : Int32)), .val (.int (0 : Int32)), .val (.ref ar), .val (.double gd), .second, .val .null, .unset, .unset, .unset] [(.ref ob)])) t → Steps p.tables e below (s₁.setTop (entryFrame m #[(.int p1), (.int p2), (.int p3)] maxLocals)) t := fun t k => c14 t (st15.trans k)
      have c20 : ∀ t, Steps p.tables e below (T15.setTop (mkF m 95 #[.val (.int p1), .val (.int p2), .val (.int p3), .val (.int (0 : Int32)), .val (.int (0 : Int32)), .val (.ref ar), .val (.double gd), .second, .val .null, .val (.ref ob), .unset, .unset] [(.ref ar)])) t → Steps p.tables e below (s₁.setTop (entryFrame m #[(.int p1), (.int p2), (.int p3)] maxLocals)) t := fun t k => c19 t (by
        show Steps p.tables e below (T15.setTop (mkF m 91 #[.val (.int p1), .val (.int p2), .val (.int p3), .val (.int (0 : Int32)), .val (.int (0 : Int32)), .val (.ref ar), .val (.double gd), .second, .val .null, .unset, .unset, .unset] [(.ref ob)])) _
        refine XS.astore X15.here hx rfl (hb hby at_91) rfl rfl (l' := #[.val (.int p1), .val (.int p2), .val (.int p3), .val (.int (0 : Int32)), .val (.int (0 : Int32)), .val (.ref ar), .val (.double gd), .second, .val .null, .val (.ref ob), .unset, .unset]) rfl ?_
        show Steps p.tables e below (T15.setTop (mkF m 93 #[.val (.int p1), .val (.int p2), .val (.int p3), .val (.int (0 : Int32)), .val (.int (0 : Int32)), .val (.ref ar), .val (.double gd), .second, .val .null, .val (.ref ob), .unset, .unset] [])) _
        refine XS.aload X15.here hx rfl (hb hby at_93) rfl rfl ?_
        show Steps p.tables e below (T15.setTop (mkF m 95 #[.val (.int p1), .val (.int p2), .val (.int p3), .val (.int (0 : Int32)), .val (.int (0 : Int32)), .val (.ref ar), .val (.double gd), .second, .val .null, .val (.ref ob), .unset, .unset] [(.ref ar)])) _
        exact k)
      obtain ⟨_, _, ⟨T21, L21, k21', n21⟩, -, X21, ⟨Lc21, hQ21, l21, y21, z21⟩, st21⟩ := Jvm.LawKit.callS X15 hx (y := (⟨"com/example/topsail/topsail/exec/Answer", "unranked", "([I)Lcom/example/topsail/topsail/exec/Answer;"⟩ : MethodName)) hown (mvT hZ (hw _ (List.mem_of_getElem? (i := 15) rfl))) (mvT hZ (hw _ (List.mem_of_getElem? (i := 16) rfl))) (mvT hZ (hw _ (List.mem_of_getElem? (i := 4) rfl))) (mvT hZ (hw _ (List.mem_of_getElem? (i := 17) rfl))) (by decide) (backOf (W := 0) (rm_un l Z a0 hw [] ar (fun _ => p1) 0 T15.heap n0 (Nat.le_trans (Nat.le_trans (Nat.le_trans Z0 E4.1) E8.1) K15.1) (F17.congr (fun j hj => absurd hj (Nat.not_lt_zero j))) F16 (by decide)) hZ (hw _ (List.mem_of_getElem? (i := 17) rfl)) (hw _ (List.mem_of_getElem? (i := 4) rfl)) (by decide) (by decide)) (g := (mkF m 95 #[.val (.int p1), .val (.int p2), .val (.int p3), .val (.int (0 : Int32)), .val (.int (0 : Int32)), .val (.ref ar), .val (.double gd), .second, .val .null, .val (.ref ob), .unset, .unset] [(.ref ar)])) rfl (by rw [hml]; rfl) (argsL := [(.ref ar)]) (rest := []) (lenOf pd___I_Lcom_example_topsail_topsail_exec_Answer_ rfl) rfl (by show 2 * 0 + _ ≤ _; exact Nat.le_of_eq rfl) (hb hby at_95) (fun _ _ => ⟨rfl, rfl, (by decide : 2 + 2 ≤ _), (by decide : 2 + 3 ≤ _)⟩)
      dsimp only [Pt.U, Pt.locs, Pt.cells, Pt.slots] at X21 l21 y21 z21 st21 hQ21
      subst l21 y21 z21
      obtain ⟨pl, rfl, N21, K21, G21_0, G21_1⟩ := hQ21
      have M21 := Fr.app M15 N21
      have F22 : Exa Z T21.heap ar "[I" := (F16.keep K21)
      have F23 : OwnArr.Ag Z T21.heap ar .int 0 (fun _ => (.int (0 : Int32))) := (F17.keep K21 nin0)
      have F24 : Exa Z T21.heap ob "com/example/topsail/topsail/exec/Answer" := (G15_0.keep K21)
      have F25 : Fld Z T21.heap ob "com/example/topsail/topsail/exec/Answer" "objects" "[I" (.ref ar) := (G15_1.keep K21 nin0)
      have F26 : Fld Z T21.heap ob "com/example/topsail/topsail/exec/Answer" "grades" "[D" .null := (G15_2.keep K21 nin0)
      have c27 : ∀ t, Steps p.tables e below (T21.setTop (mkF m 98 #[.val (.int p1), .val (.int p2), .val (.int p3), .val (.int (0 : Int32)), .val (.int (0 : Int32)), .val (.ref ar), .val (.double gd), .second, .val .null, .val (.ref ob), .unset, .unset] [(.ref pl)])) t → Steps p.tables e below (s₁.setTop (entryFrame m #[(.int p1), (.int p2), (.int p3)] maxLocals)) t := fun t k => c20 t (st21 _ k)
      have c28 : ∀ t, Steps p.tables e below (T21.setTop (mkF m 102 #[.val (.int p1), .val (.int p2), .val (.int p3), .val (.int (0 : Int32)), .val (.int (0 : Int32)), .val (.ref ar), .val (.double gd), .second, .val .null, .val (.ref ob), .val (.ref pl), .unset] [(.ref ob)])) t → Steps p.tables e below (s₁.setTop (entryFrame m #[(.int p1), (.int p2), (.int p3)] maxLocals)) t := fun t k => c27 t (by
        show Steps p.tables e below (T21.setTop (mkF m 98 #[.val (.int p1), .val (.int p2), .val (.int p3), .val (.int (0 : Int32)), .val (.int (0 : Int32)), .val (.ref ar), .val (.double gd), .second, .val .null, .val (.ref ob), .unset, .unset] [(.ref pl)])) _
        refine XS.astore X21.here hx rfl (hb hby at_98) rfl rfl (l' := #[.val (.int p1), .val (.int p2), .val (.int p3), .val (.int (0 : Int32)), .val (.int (0 : Int32)), .val (.ref ar), .val (.double gd), .second, .val .null, .val (.ref ob), .val (.ref pl), .unset]) rfl ?_
        show Steps p.tables e below (T21.setTop (mkF m 100 #[.val (.int p1), .val (.int p2), .val (.int p3), .val (.int (0 : Int32)), .val (.int (0 : Int32)), .val (.ref ar), .val (.double gd), .second, .val .null, .val (.ref ob), .val (.ref pl), .unset] [])) _
        refine XS.aload X21.here hx rfl (hb hby at_100) rfl rfl ?_
        show Steps p.tables e below (T21.setTop (mkF m 102 #[.val (.int p1), .val (.int p2), .val (.int p3), .val (.int (0 : Int32)), .val (.int (0 : Int32)), .val (.ref ar), .val (.double gd), .second, .val .null, .val (.ref ob), .val (.ref pl), .unset] [(.ref ob)])) _
        exact k)
      obtain ⟨cq29, kq29, q29a, q29b, q29c⟩ := isOf hZ rfl F24
      obtain ⟨_, _, ⟨T29, L29, k29', n29⟩, -, X29, ⟨Lc29, hQ29, l29, y29, z29⟩, st29⟩ := X21.virtualBack hx (y := (⟨"com/example/topsail/topsail/exec/Answer", "ranked", "()Z"⟩ : MethodName)) (z := (⟨"com/example/topsail/topsail/exec/Answer", "ranked", "()Z"⟩ : MethodName)) hown (mvT hZ (hw _ (List.mem_of_getElem? (i := 29) rfl))) (mvT hZ (hw _ (List.mem_of_getElem? (i := 30) rfl))) (notFace_of_selects (args := #[]) (mvT hZ (hw _ (List.mem_of_getElem? (i := 32) rfl)))) (mvT hZ (hw _ (List.mem_of_getElem? (i := 32) rfl))) (mvT hZ (hw _ (List.mem_of_getElem? (i := 31) rfl))) (by decide) (backOf (W := 0) (rm_rk0 l Z a0 hw [] ob T21.heap n0 (Nat.le_trans (Nat.le_trans (Nat.le_trans (Nat.le_trans Z0 E4.1) E8.1) K15.1) K21.1) F26) hZ (hw _ (List.mem_of_getElem? (i := 33) rfl)) (hw _ (List.mem_of_getElem? (i := 4) rfl)) (by decide) (by decide)) q29a q29c (g := (mkF m 102 #[.val (.int p1), .val (.int p2), .val (.int p3), .val (.int (0 : Int32)), .val (.int (0 : Int32)), .val (.ref ar), .val (.double gd), .second, .val .null, .val (.ref ob), .val (.ref pl), .unset] [(.ref ob)])) rfl (by rw [hml]; rfl) (Steps.refl _) (argsL := []) (rest := []) (lenOf pd___Z rfl) rfl (by show 2 * 0 + _ ≤ _; exact Nat.le_of_eq rfl) (hb hby at_102) (fun _ _ => ⟨rfl, rfl, (by decide : 4 + 0 ≤ _), (by decide : 5 + 0 ≤ _)⟩)
      dsimp only [Pt.U, Pt.locs, Pt.cells, Pt.slots] at X29 l29 y29 z29 st29 hQ29
      subst l29 y29 z29
      obtain ⟨rfl, N29, e29⟩ := hQ29
      have M29 := Fr.app M21 N29
      have c30 : ∀ t, Steps p.tables e below (T29.setTop (mkF m 105 #[.val (.int p1), .val (.int p2), .val (.int p3), .val (.int (0 : Int32)), .val (.int (0 : Int32)), .val (.ref ar), .val (.double gd), .second, .val .null, .val (.ref ob), .val (.ref pl), .unset] [(.int (0 : Int32))])) t → Steps p.tables e below (s₁.setTop (entryFrame m #[(.int p1), (.int p2), (.int p3)] maxLocals)) t := fun t k => c28 t (st29.trans k)
      have c31 : ∀ t, Steps p.tables e below (T29.setTop (mkF m 112 #[.val (.int p1), .val (.int p2), .val (.int p3), .val (.int (0 : Int32)), .val (.int (0 : Int32)), .val (.ref ar), .val (.double gd), .second, .val .null, .val (.ref ob), .val (.ref pl), .unset] [(.ref pl)])) t → Steps p.tables e below (s₁.setTop (entryFrame m #[(.int p1), (.int p2), (.int p3)] maxLocals)) t := fun t k => c30 t (by
        show Steps p.tables e below (T29.setTop (mkF m 105 #[.val (.int p1), .val (.int p2), .val (.int p3), .val (.int (0 : Int32)), .val (.int (0 : Int32)), .val (.ref ar), .val (.double gd), .second, .val .null, .val (.ref ob), .val (.ref pl), .unset] [(.int (0 : Int32))])) _
        refine XS.iload X29.here hx rfl (hb hby at_105) rfl ?_
        show Steps p.tables e below (T29.setTop (mkF m 107 #[.val (.int p1), .val (.int p2), .val (.int p3), .val (.int (0 : Int32)), .val (.int (0 : Int32)), .val (.ref ar), .val (.double gd), .second, .val .null, .val (.ref ob), .val (.ref pl), .unset] [(.int (0 : Int32)), (.int (0 : Int32))])) _
        refine XS.icmpNo X29.here hx rfl (hb hby at_107) rfl (XT.ii_ne_f (by decide)) ?_
        show Steps p.tables e below (T29.setTop (mkF m 110 #[.val (.int p1), .val (.int p2), .val (.int p3), .val (.int (0 : Int32)), .val (.int (0 : Int32)), .val (.ref ar), .val (.double gd), .second, .val .null, .val (.ref ob), .val (.ref pl), .unset] [])) _
        refine XS.aload X29.here hx rfl (hb hby at_110) rfl rfl ?_
        show Steps p.tables e below (T29.setTop (mkF m 112 #[.val (.int p1), .val (.int p2), .val (.int p3), .val (.int (0 : Int32)), .val (.int (0 : Int32)), .val (.ref ar), .val (.double gd), .second, .val .null, .val (.ref ob), .val (.ref pl), .unset] [(.ref pl)])) _
        exact k)
      obtain ⟨cq32, kq32, q32a, q32b, q32c⟩ := isOf hZ e29 G21_0
      obtain ⟨_, _, ⟨T32, L32, k32', n32⟩, -, X32, ⟨Lc32, hQ32, l32, y32, z32⟩, st32⟩ := X29.virtualBack hx (y := (⟨"com/example/topsail/topsail/exec/Answer", "ranked", "()Z"⟩ : MethodName)) (z := (⟨"com/example/topsail/topsail/exec/Answer", "ranked", "()Z"⟩ : MethodName)) hown (mvT hZ (hw _ (List.mem_of_getElem? (i := 29) rfl))) (mvT hZ (hw _ (List.mem_of_getElem? (i := 30) rfl))) (notFace_of_selects (args := #[]) (mvT hZ (hw _ (List.mem_of_getElem? (i := 32) rfl)))) (mvT hZ (hw _ (List.mem_of_getElem? (i := 32) rfl))) (mvT hZ (hw _ (List.mem_of_getElem? (i := 31) rfl))) (by decide) (backOf (W := 0) (rm_rk0 l Z a0 hw [] pl T21.heap n0 (Nat.le_trans (Nat.le_trans (Nat.le_trans (Nat.le_trans Z0 E4.1) E8.1) K15.1) K21.1) G21_1) hZ (hw _ (List.mem_of_getElem? (i := 33) rfl)) (hw _ (List.mem_of_getElem? (i := 4) rfl)) (by decide) (by decide)) q32a q32c (g := (mkF m 112 #[.val (.int p1), .val (.int p2), .val (.int p3), .val (.int (0 : Int32)), .val (.int (0 : Int32)), .val (.ref ar), .val (.double gd), .second, .val .null, .val (.ref ob), .val (.ref pl), .unset] [(.ref pl)])) rfl (by rw [hml]; rfl) (Steps.refl _) (argsL := []) (rest := []) (lenOf pd___Z rfl) rfl (by show 2 * 0 + _ ≤ _; exact Nat.le_of_eq rfl) (hb hby at_112) (fun _ _ => ⟨rfl, e29, (by decide : 4 + 0 ≤ _), (by decide : 5 + 0 ≤ _)⟩)
      dsimp only [Pt.U, Pt.locs, Pt.cells, Pt.slots] at X32 l32 y32 z32 st32 hQ32
      subst l32 y32 z32
      obtain ⟨rfl, N32, e32⟩ := hQ32
      have M32 := Fr.app M29 N32
      have c33 : ∀ t, Steps p.tables e below (T32.setTop (mkF m 115 #[.val (.int p1), .val (.int p2), .val (.int p3), .val (.int (0 : Int32)), .val (.int (0 : Int32)), .val (.ref ar), .val (.double gd), .second, .val .null, .val (.ref ob), .val (.ref pl), .unset] [(.int (0 : Int32))])) t → Steps p.tables e below (s₁.setTop (entryFrame m #[(.int p1), (.int p2), (.int p3)] maxLocals)) t := fun t k => c31 t (st32.trans k)
      have c34 : ∀ t, Steps p.tables e below (T32.setTop (mkF m 160 #[.val (.int p1), .val (.int p2), .val (.int p3), .val (.int (0 : Int32)), .val (.int (0 : Int32)), .val (.ref ar), .val (.double gd), .second, .val .null, .val (.ref ob), .val (.ref pl), .val (.int (1 : Int32))] [(.int (1 : Int32))])) t → Steps p.tables e below (s₁.setTop (entryFrame m #[(.int p1), (.int p2), (.int p3)] maxLocals)) t := fun t k => c33 t (by
        show Steps p.tables e below (T32.setTop (mkF m 115 #[.val (.int p1), .val (.int p2), .val (.int p3), .val (.int (0 : Int32)), .val (.int (0 : Int32)), .val (.ref ar), .val (.double gd), .second, .val .null, .val (.ref ob), .val (.ref pl), .unset] [(.int (0 : Int32))])) _
        refine XS.ifNo X32.here hx rfl (hb hby at_115) rfl (XT.i0_ne_f (by decide)) ?_
        show Steps p.tables e below (T32.setTop (mkF m 118 #[.val (.int p1), .val (.int p2), .val (.int p3), .val (.int (0 : Int32)), .val (.int (0 : Int32)), .val (.ref ar), .val (.double gd), .second, .val .null, .val (.ref ob), .val (.ref pl), .unset] [])) _
        refine XS.iconst X32.here hx rfl (hb hby at_118) ?_
        show Steps p.tables e below (T32.setTop (mkF m 119 #[.val (.int p1), .val (.int p2), .val (.int p3), .val (.int (0 : Int32)), .val (.int (0 : Int32)), .val (.ref ar), .val (.double gd), .second, .val .null, .val (.ref ob), .val (.ref pl), .unset] [(.int (1 : Int32))])) _
        refine XS.goto X32.here hx rfl (pc0 := 119) (pc' := 123) rfl (hb hby at_119) (by decide) (by decide) ?_
        show Steps p.tables e below (T32.setTop (mkF m 123 #[.val (.int p1), .val (.int p2), .val (.int p3), .val (.int (0 : Int32)), .val (.int (0 : Int32)), .val (.ref ar), .val (.double gd), .second, .val .null, .val (.ref ob), .val (.ref pl), .unset] [(.int (1 : Int32))])) _
        refine XS.istore X32.here hx rfl (hb hby at_123) rfl (l' := #[.val (.int p1), .val (.int p2), .val (.int p3), .val (.int (0 : Int32)), .val (.int (0 : Int32)), .val (.ref ar), .val (.double gd), .second, .val .null, .val (.ref ob), .val (.ref pl), .val (.int (1 : Int32))]) rfl ?_
        show Steps p.tables e below (T32.setTop (mkF m 125 #[.val (.int p1), .val (.int p2), .val (.int p3), .val (.int (0 : Int32)), .val (.int (0 : Int32)), .val (.ref ar), .val (.double gd), .second, .val .null, .val (.ref ob), .val (.ref pl), .val (.int (1 : Int32))] [])) _
        refine XS.iload X32.here hx rfl (hb hby at_125) rfl ?_
        show Steps p.tables e below (T32.setTop (mkF m 127 #[.val (.int p1), .val (.int p2), .val (.int p3), .val (.int (0 : Int32)), .val (.int (0 : Int32)), .val (.ref ar), .val (.double gd), .second, .val .null, .val (.ref ob), .val (.ref pl), .val (.int (1 : Int32))] [(.int (0 : Int32))])) _
        refine XS.ifYes X32.here hx rfl (pc0 := 127) (pc' := 158) rfl (hb hby at_127) rfl (XT.i0_eq_t (by decide)) (by decide) (by decide) ?_
        show Steps p.tables e below (T32.setTop (mkF m 158 #[.val (.int p1), .val (.int p2), .val (.int p3), .val (.int (0 : Int32)), .val (.int (0 : Int32)), .val (.ref ar), .val (.double gd), .second, .val .null, .val (.ref ob), .val (.ref pl), .val (.int (1 : Int32))] [])) _
        refine XS.iload X32.here hx rfl (hb hby at_158) rfl ?_
        show Steps p.tables e below (T32.setTop (mkF m 160 #[.val (.int p1), .val (.int p2), .val (.int p3), .val (.int (0 : Int32)), .val (.int (0 : Int32)), .val (.ref ar), .val (.double gd), .second, .val .null, .val (.ref ob), .val (.ref pl), .val (.int (1 : Int32))] [(.int (1 : Int32))])) _
        exact k)
      obtain ⟨fs, hr, hrun, hended, hW, hsame⟩ := X32.leave (v := (some (.int (1 : Int32)))) (fun h => by rw [Bd.returns] at h; cases h)
      refine ⟨_, _, pre0 _ (c34 _ (retN X32 hx (t := .boolean) Bd.returns (by simp) (hb hby at_160) hr)), hrun, hended, _, _, rfl, ?_, ⟨_, rfl⟩, hW, hsame.mono (by decide) (by decide)⟩
      show Q_0 Z p1 p2 p3 h0 n0 _ T32.heap _
      rw [e32]
      exact ⟨rfl, M32⟩
    · skip
      have c35 : ∀ t, Steps p.tables e below (s₁.setTop (mkF m 40 #[.val (.int p1), .val (.int p2), .val (.int p3), .val (.int (0 : Int32)), .val (.int (1 : Int32)), .unset, .unset, .unset, .unset, .unset, .unset, .unset] [(.int (0 : Int32))])) t → Steps p.tables e below (s₁.setTop (entryFrame m #[(.int p1), (.int p2), (.int p3)] maxLocals)) t := fun t k => c2 t (by
        show Steps p.tables e below (s₁.setTop (mkF m 15 #[.val (.int p1), .val (.int p2), .val (.int p3), .val (.int (0 : Int32)), .unset, .unset, .unset, .unset, .unset, .unset, .unset, .unset] [(.int (p3 &&& (2 : Int32)))])) _
        refine XS.ifNo X0.here hx rfl (hb hby at_15) rfl (XT.i0_eq_f qb) ?_
        show Steps p.tables e below (s₁.setTop (mkF m 18 #[.val (.int p1), .val (.int p2), .val (.int p3), .val (.int (0 : Int32)), .unset, .unset, .unset, .unset, .unset, .unset, .unset, .unset] [])) _
        refine XS.iconst X0.here hx rfl (hb hby at_18) ?_
        show Steps p.tables e below (s₁.setTop (mkF m 19 #[.val (.int p1), .val (.int p2), .val (.int p3), .val (.int (0 : Int32)), .unset, .unset, .unset, .unset, .unset, .unset, .unset, .unset] [(.int (1 : Int32))])) _
        refine XS.goto X0.here hx rfl (pc0 := 19) (pc' := 23) rfl (hb hby at_19) (by decide) (by decide) ?_
        show Steps p.tables e below (s₁.setTop (mkF m 23 #[.val (.int p1), .val (.int p2), .val (.int p3), .val (.int (0 : Int32)), .unset, .unset, .unset, .unset, .unset, .unset, .unset, .unset] [(.int (1 : Int32))])) _
        refine XS.istore X0.here hx rfl (hb hby at_23) rfl (l' := #[.val (.int p1), .val (.int p2), .val (.int p3), .val (.int (0 : Int32)), .val (.int (1 : Int32)), .unset, .unset, .unset, .unset, .unset, .unset, .unset]) rfl ?_
        show Steps p.tables e below (s₁.setTop (mkF m 25 #[.val (.int p1), .val (.int p2), .val (.int p3), .val (.int (0 : Int32)), .val (.int (1 : Int32)), .unset, .unset, .unset, .unset, .unset, .unset, .unset] [])) _
        refine XS.iloadN X0.here hx rfl (hb hby at_25) rfl ?_
        show Steps p.tables e below (s₁.setTop (mkF m 26 #[.val (.int p1), .val (.int p2), .val (.int p3), .val (.int (0 : Int32)), .val (.int (1 : Int32)), .unset, .unset, .unset, .unset, .unset, .unset, .unset] [(.int (0 : Int32))])) _
        refine XS.ifYes X0.here hx rfl (pc0 := 26) (pc' := 39) rfl (hb hby at_26) rfl (XT.i0_eq_t (by decide)) (by decide) (by decide) ?_
        show Steps p.tables e below (s₁.setTop (mkF m 39 #[.val (.int p1), .val (.int p2), .val (.int p3), .val (.int (0 : Int32)), .val (.int (1 : Int32)), .unset, .unset, .unset, .unset, .unset, .unset, .unset] [])) _
        refine XS.iconst X0.here hx rfl (hb hby at_39) ?_
        show Steps p.tables e below (s₁.setTop (mkF m 40 #[.val (.int p1), .val (.int p2), .val (.int p3), .val (.int (0 : Int32)), .val (.int (1 : Int32)), .unset, .unset, .unset, .unset, .unset, .unset, .unset] [(.int (0 : Int32))])) _
        exact k)
      obtain ⟨T36, h36, kA36, X36, e36, E36, A36, Ex36, st36⟩ := newPE X0 hx hZ (hw _ (List.mem_of_getElem? (i := 0) rfl)) e0 (g := (mkF m 40 #[.val (.int p1), .val (.int p2), .val (.int p3), .val (.int (0 : Int32)), .val (.int (1 : Int32)), .unset, .unset, .unset, .unset, .unset, .unset, .unset] [(.int (0 : Int32))])) rfl (hb hby at_40) rfl (by decide) (cap := 0) (by decide) (by decide) (by decide) (by decide) (ad := "[I") rfl
      obtain ⟨ar, g36⟩ : ∃ z, z = h0.size := ⟨_, rfl⟩
      rw [← g36] at A36 st36 Ex36
      have F37 : OwnArr.Ag Z h36 ar .int 0 (fun _ => (.int (0 : Int32))) := (OwnArr.Ag.new A36 (by decide))
      have c38 : ∀ t, Steps p.tables e below (T36.setTop (mkF m 42 #[.val (.int p1), .val (.int p2), .val (.int p3), .val (.int (0 : Int32)), .val (.int (1 : Int32)), .unset, .unset, .unset, .unset, .unset, .unset, .unset] [(.ref ar)])) t → Steps p.tables e below (s₁.setTop (entryFrame m #[(.int p1), (.int p2), (.int p3)] maxLocals)) t := fun t k => c35 t (st36 _ k)
      obtain ⟨gd, hgd⟩ : ∃ v : UInt64, FP.i2d (p2 % (1000 : Int32)) = v := ⟨_, rfl⟩
      have Dg : Core.DFin gd := hgd ▸ (DS.i2d _).1
      have c39 : ∀ t, Steps p.tables e below (T36.setTop (mkF m 76 #[.val (.int p1), .val (.int p2), .val (.int p3), .val (.int (0 : Int32)), .val (.int (1 : Int32)), .val (.ref ar), .val (.double gd), .second, .val .null, .unset, .unset, .unset] [(.int (0 : Int32))])) t → Steps p.tables e below (s₁.setTop (entryFrame m #[(.int p1), (.int p2), (.int p3)] maxLocals)) t := fun t k => c38 t (by
        show Steps p.tables e below (T36.setTop (mkF m 42 #[.val (.int p1), .val (.int p2), .val (.int p3), .val (.int (0 : Int32)), .val (.int (1 : Int32)), .unset, .unset, .unset, .unset, .unset, .unset, .unset] [(.ref ar)])) _
        refine XS.astore X36.here hx rfl (hb hby at_42) rfl rfl (l' := #[.val (.int p1), .val (.int p2), .val (.int p3), .val (.int (0 : Int32)), .val (.int (1 : Int32)), .val (.ref ar), .unset, .unset, .unset, .unset, .unset, .unset]) rfl ?_
        show Steps p.tables e below (T36.setTop (mkF m 44 #[.val (.int p1), .val (.int p2), .val (.int p3), .val (.int (0 : Int32)), .val (.int (1 : Int32)), .val (.ref ar), .unset, .unset, .unset, .unset, .unset, .unset] [])) _
        refine XS.iloadN X36.here hx rfl (hb hby at_44) rfl ?_
        show Steps p.tables e below (T36.setTop (mkF m 45 #[.val (.int p1), .val (.int p2), .val (.int p3), .val (.int (0 : Int32)), .val (.int (1 : Int32)), .val (.ref ar), .unset, .unset, .unset, .unset, .unset, .unset] [(.int p2)])) _
        refine XS.sipush X36.here hx rfl (hb hby at_45) ?_
        show Steps p.tables e below (T36.setTop (mkF m 48 #[.val (.int p1), .val (.int p2), .val (.int p3), .val (.int (0 : Int32)), .val (.int (1 : Int32)), .val (.ref ar), .unset, .unset, .unset, .unset, .unset, .unset] [(.int (1000 : Int32)), (.int p2)])) _
        refine iremM X36 hx rfl (hb hby at_48) rfl (by decide) ?_
        show Steps p.tables e below (T36.setTop (mkF m 49 #[.val (.int p1), .val (.int p2), .val (.int p3), .val (.int (0 : Int32)), .val (.int (1 : Int32)), .val (.ref ar), .unset, .unset, .unset, .unset, .unset, .unset] [(.int (p2 % (1000 : Int32)))])) _
        refine XS.i2dS X36.here hx rfl (hb hby at_49) rfl hgd ?_
        show Steps p.tables e below (T36.setTop (mkF m 50 #[.val (.int p1), .val (.int p2), .val (.int p3), .val (.int (0 : Int32)), .val (.int (1 : Int32)), .val (.ref ar), .unset, .unset, .unset, .unset, .unset, .unset] [(.double gd)])) _
        refine XS.dstore X36.here hx rfl (hb hby at_50) rfl (l' := #[.val (.int p1), .val (.int p2), .val (.int p3), .val (.int (0 : Int32)), .val (.int (1 : Int32)), .val (.ref ar), .val (.double gd), .second, .unset, .unset, .unset, .unset]) rfl ?_
        show Steps p.tables e below (T36.setTop (mkF m 52 #[.val (.int p1), .val (.int p2), .val (.int p3), .val (.int (0 : Int32)), .val (.int (1 : Int32)), .val (.ref ar), .val (.double gd), .second, .unset, .unset, .unset, .unset] [])) _
        refine XS.aconstNull X36.here hx rfl (hb hby at_52) ?_
        show Steps p.tables e below (T36.setTop (mkF m 53 #[.val (.int p1), .val (.int p2), .val (.int p3), .val (.int (0 : Int32)), .val (.int (1 : Int32)), .val (.ref ar), .val (.double gd), .second, .unset, .unset, .unset, .unset] [.null])) _
        refine XS.astore X36.here hx rfl (hb hby at_53) rfl rfl (l' := #[.val (.int p1), .val (.int p2), .val (.int p3), .val (.int (0 : Int32)), .val (.int (1 : Int32)), .val (.ref ar), .val (.double gd), .second, .val .null, .unset, .unset, .unset]) rfl ?_
        show Steps p.tables e below (T36.setTop (mkF m 55 #[.val (.int p1), .val (.int p2), .val (.int p3), .val (.int (0 : Int32)), .val (.int (1 : Int32)), .val (.ref ar), .val (.double gd), .second, .val .null, .unset, .unset, .unset] [])) _
        refine XS.iload X36.here hx rfl (hb hby at_55) rfl ?_
        show Steps p.tables e below (T36.setTop (mkF m 57 #[.val (.int p1), .val (.int p2), .val (.int p3), .val (.int (0 : Int32)), .val (.int (1 : Int32)), .val (.ref ar), .val (.double gd), .second, .val .null, .unset, .unset, .unset] [(.int (1 : Int32))])) _
        refine XS.ifNo X36.here hx rfl (hb hby at_57) rfl (XT.i0_eq_f (by decide)) ?_
        show Steps p.tables e below (T36.setTop (mkF m 60 #[.val (.int p1), .val (.int p2), .val (.int p3), .val (.int (0 : Int32)), .val (.int (1 : Int32)), .val (.ref ar), .val (.double gd), .second, .val .null, .unset, .unset, .unset] [])) _
        refine XS.iloadN X36.here hx rfl (hb hby at_60) rfl ?_
        show Steps p.tables e below (T36.setTop (mkF m 61 #[.val (.int p1), .val (.int p2), .val (.int p3), .val (.int (0 : Int32)), .val (.int (1 : Int32)), .val (.ref ar), .val (.double gd), .second, .val .null, .unset, .unset, .unset] [(.int (0 : Int32))])) _
        refine XS.ifYes X36.here hx rfl (pc0 := 61) (pc' := 75) rfl (hb hby at_61) rfl (XT.i0_eq_t (by decide)) (by decide) (by decide) ?_
        show Steps p.tables e below (T36.setTop (mkF m 75 #[.val (.int p1), .val (.int p2), .val (.int p3), .val (.int (0 : Int32)), .val (.int (1 : Int32)), .val (.ref ar), .val (.double gd), .second, .val .null, .unset, .unset, .unset] [])) _
        refine XS.iconst X36.here hx rfl (hb hby at_75) ?_
        show Steps p.tables e below (T36.setTop (mkF m 76 #[.val (.int p1), .val (.int p2), .val (.int p3), .val (.int (0 : Int32)), .val (.int (1 : Int32)), .val (.ref ar), .val (.double gd), .second, .val .null, .unset, .unset, .unset] [(.int (0 : Int32))])) _
        exact k)
      obtain ⟨T40, h40, kA40, X40, e40, E40, A40, Ex40, st40⟩ := newPE X36 hx hZ (hw _ (List.mem_of_getElem? (i := 1) rfl)) e36 (g := (mkF m 76 #[.val (.int p1), .val (.int p2), .val (.int p3), .val (.int (0 : Int32)), .val (.int (1 : Int32)), .val (.ref ar), .val (.double gd), .second, .val .null, .unset, .unset, .unset] [(.int (0 : Int32))])) rfl (hb hby at_76) rfl (by decide) (cap := 0) (by decide) (by decide) (by decide) (by decide) (ad := "[D") rfl
      obtain ⟨gr, g40⟩ : ∃ z, z = h36.size := ⟨_, rfl⟩
      rw [← g40] at A40 st40 Ex40
      have F41 : Exa Z h40 ar "[I" := (Ex36.ext E40)
      have F42 : OwnArr.Ag Z h40 ar .int 0 (fun _ => (.int (0 : Int32))) := (F37.ext E40)
      have F43 : OwnArr.Ag Z h40 gr .double 0 (fun _ => (.double (0 : UInt64))) := (OwnArr.Ag.new A40 (by decide))
      have c44 : ∀ t, Steps p.tables e below (T40.setTop (mkF m 78 #[.val (.int p1), .val (.int p2), .val (.int p3), .val (.int (0 : Int32)), .val (.int (1 : Int32)), .val (.ref ar), .val (.double gd), .second, .val .null, .unset, .unset, .unset] [(.ref gr)])) t → Steps p.tables e below (s₁.setTop (entryFrame m #[(.int p1), (.int p2), (.int p3)] maxLocals)) t := fun t k => c39 t (st40 _ k)
      have c45 : ∀ t, Steps p.tables e below (T40.setTop (mkF m 80 #[.val (.int p1), .val (.int p2), .val (.int p3), .val (.int (0 : Int32)), .val (.int (1 : Int32)), .val (.ref ar), .val (.double gd), .second, .val (.ref gr), .unset, .unset, .unset] [])) t → Steps p.tables e below (s₁.setTop (entryFrame m #[(.int p1), (.int p2), (.int p3)] maxLocals)) t := fun t k => c44 t (by
        show Steps p.tables e below (T40.setTop (mkF m 78 #[.val (.int p1), .val (.int p2), .val (.int p3), .val (.int (0 : Int32)), .val (.int (1 : Int32)), .val (.ref ar), .val (.double gd), .second, .val .null, .unset, .unset, .unset] [(.ref gr)])) _
        refine XS.astore X40.here hx rfl (hb hby at_78) rfl rfl (l' := #[.val (.int p1), .val (.int p2), .val (.int p3), .val (.int (0 : Int32)), .val (.int (1 : Int32)), .val (.ref ar), .val (.double gd), .second, .val (.ref gr), .unset, .unset, .unset]) rfl ?_
        show Steps p.tables e below (T40.setTop (mkF m 80 #[.val (.int p1), .val (.int p2), .val (.int p3), .val (.int (0 : Int32)), .val (.int (1 : Int32)), .val (.ref ar), .val (.double gd), .second, .val (.ref gr), .unset, .unset, .unset] [])) _
        exact k)
      obtain ⟨T46, h46, X46, e46, E46, A46, D46, -, st46⟩ := newO X40 hx hZ hown (hw _ (List.mem_of_getElem? (i := 2) rfl)) (hw _ (List.mem_of_getElem? (i := 3) rfl)) (hw _ (List.mem_of_getElem? (i := 4) rfl)) e40 (g := (mkF m 80 #[.val (.int p1), .val (.int p2), .val (.int p3), .val (.int (0 : Int32)), .val (.int (1 : Int32)), .val (.ref ar), .val (.double gd), .second, .val (.ref gr), .unset, .unset, .unset] [])) rfl (hb hby at_80) (by decide) (by decide)
      obtain ⟨ob, g46⟩ : ∃ z, z = h40.size := ⟨_, rfl⟩
      rw [← g46] at A46 D46 st46
      have F47 : Exa Z h46 ar "[I" := (F41.ext E46)
      have F48 : OwnArr.Ag Z h46 ar .int 0 (fun _ => (.int (0 : Int32))) := (F42.ext E46)
      have F49 : Exa Z h46 gr "[D" := (Ex40.ext E46)
      have F50 : OwnArr.Ag Z h46 gr .double 0 (fun _ => (.double (0 : UInt64))) := (F43.ext E46)
      have F51 : Fld Z h46 ob "com/example/topsail/topsail/exec/Answer" "objects" "[I" .null := (D46 (Or.inr (hw _ (List.mem_of_getElem? (i := 12) rfl))) (ty := (.array .int)) (by decide))
      have F52 : Fld Z h46 ob "com/example/topsail/topsail/exec/Answer" "grades" "[D" .null := (D46 (Or.inr (hw _ (List.mem_of_getElem? (i := 14) rfl))) (ty := (.array .double)) (by decide))
      have c53 : ∀ t, Steps p.tables e below (T46.setTop (mkF m 83 #[.val (.int p1), .val (.int p2), .val (.int p3), .val (.int (0 : Int32)), .val (.int (1 : Int32)), .val (.ref ar), .val (.double gd), .second, .val (.ref gr), .unset, .unset, .unset] [(.ref ob)])) t → Steps p.tables e below (s₁.setTop (entryFrame m #[(.int p1), (.int p2), (.int p3)] maxLocals)) t := fun t k => c45 t (st46 _ k)
      have c54 : ∀ t, Steps p.tables e below (T46.setTop (mkF m 88 #[.val (.int p1), .val (.int p2), .val (.int p3), .val (.int (0 : Int32)), .val (.int (1 : Int32)), .val (.ref ar), .val (.double gd), .second, .val (.ref gr), .unset, .unset, .unset] [(.ref gr), (.ref ar), (.ref ob), (.ref ob)])) t → Steps p.tables e below (s₁.setTop (entryFrame m #[(.int p1), (.int p2), (.int p3)] maxLocals)) t := fun t k => c53 t (by
        show Steps p.tables e below (T46.setTop (mkF m 83 #[.val (.int p1), .val (.int p2), .val (.int p3), .val (.int (0 : Int32)), .val (.int (1 : Int32)), .val (.ref ar), .val (.double gd), .second, .val (.ref gr), .unset, .unset, .unset] [(.ref ob)])) _
        refine XS.dup X46.here hx rfl (hb hby at_83) rfl rfl ?_
        show Steps p.tables e below (T46.setTop (mkF m 84 #[.val (.int p1), .val (.int p2), .val (.int p3), .val (.int (0 : Int32)), .val (.int (1 : Int32)), .val (.ref ar), .val (.double gd), .second, .val (.ref gr), .unset, .unset, .unset] [(.ref ob), (.ref ob)])) _
        refine XS.aload X46.here hx rfl (hb hby at_84) rfl rfl ?_
        show Steps p.tables e below (T46.setTop (mkF m 86 #[.val (.int p1), .val (.int p2), .val (.int p3), .val (.int (0 : Int32)), .val (.int (1 : Int32)), .val (.ref ar), .val (.double gd), .second, .val (.ref gr), .unset, .unset, .unset] [(.ref ar), (.ref ob), (.ref ob)])) _
        refine XS.aload X46.here hx rfl (hb hby at_86) rfl rfl ?_
        show Steps p.tables e below (T46.setTop (mkF m 88 #[.val (.int p1), .val (.int p2), .val (.int p3), .val (.int (0 : Int32)), .val (.int (1 : Int32)), .val (.ref ar), .val (.double gd), .second, .val (.ref gr), .unset, .unset, .unset] [(.ref gr), (.ref ar), (.ref ob), (.ref ob)])) _
        exact k)
      obtain ⟨_, _, ⟨T55, L55, k55', n55⟩, -, X55, ⟨Lc55, hQ55, l55, y55, z55⟩, st55⟩ := X46.specialBack hx (y := (⟨"com/example/topsail/topsail/exec/Answer", "<init>", "([I[D)V"⟩ : MethodName)) rfl hown (mvT hZ (hw _ (List.mem_of_getElem? (i := 5) rfl))) (mvT hZ (hw _ (List.mem_of_getElem? (i := 6) rfl))) (mvT hZ (hw _ (List.mem_of_getElem? (i := 7) rfl))) (by decide) (backOf (W := 1) (rm_in1 l Z a0 hw [] ob ar gr h46 n0 (Nat.le_trans (Nat.le_trans (Nat.le_trans Z0 E36.1) E40.1) E46.1) A46 F51 F52 (Nat.le_trans (Nat.le_trans (Nat.le_trans Z0 E36.1) E40.1) (Nat.le_of_eq g46.symm))) hZ (hw _ (List.mem_of_getElem? (i := 7) rfl)) (hw _ (List.mem_of_getElem? (i := 4) rfl)) (by decide) (by decide)) (g := (mkF m 88 #[.val (.int p1), .val (.int p2), .val (.int p3), .val (.int (0 : Int32)), .val (.int (1 : Int32)), .val (.ref ar), .val (.double gd), .second, .val (.ref gr), .unset, .unset, .unset] [(.ref gr), (.ref ar), (.ref ob), (.ref ob)])) rfl (by rw [hml]; rfl) (Steps.refl _) (a := ob) (argsL := [(.ref ar), (.ref gr)]) (rest := [(.ref ob)]) (lenOf pd___I_D_V rfl) rfl (by show 2 * 0 + _ ≤ _; exact Nat.le_of_eq rfl) (hb hby at_88) (fun _ _ => ⟨rfl, e46, (by decide : 3 + 0 ≤ _), (by decide : 2 + 0 ≤ _)⟩)
      dsimp only [Pt.U, Pt.locs, Pt.cells, Pt.slots] at X55 l55 y55 z55 st55 hQ55
      subst l55 y55 z55
      obtain ⟨rfl, N55, K55, G55_0, G55_1, G55_2⟩ := hQ55
      have M55 := Fr.app N0 N55
      have F56 : Exa Z T55.heap ar "[I" := (F47.keep K55)
      have F57 : OwnArr.Ag Z T55.heap ar .int 0 (fun _ => (.int (0 : Int32))) := (F48.keep K55 (ninS (Nat.ne_of_lt (Nat.lt_of_lt_of_le F42.lt (Nat.le_of_eq g46.symm))) nin0))
      have F58 : Exa Z T55.heap gr "[D" := (F49.keep K55)
      have F59 : OwnArr.Ag Z T55.heap gr .double 0 (fun _ => (.double (0 : UInt64))) := (F50.keep K55 (ninS (Nat.ne_of_lt (Nat.lt_of_lt_of_le F43.lt (Nat.le_of_eq g46.symm))) nin0))
      have F60 : Exa Z T55.heap ob "com/example/topsail/topsail/exec/Answer" := (A46.keep K55)
      have c61 : ∀ t, Steps p.tables e below (T55.setTop (mkF m 91 #[.val (.int p1), .val (.int p2), .val (.int p3), .val (.int (0 : Int32)), .val (.int (1 : Int32)), .val (.ref ar), .val (.double gd), .second, .val (.ref gr), .unset, .unset, .unset] [(.ref ob)])) t → Steps p.tables e below (s₁.setTop (entryFrame m #[(.int p1), (.int p2), (.int p3)] maxLocals)) t := fun t k => c54 t (st55.trans k)
      have c62 : ∀ t, Steps p.tables e below (T55.setTop (mkF m 95 #[.val (.int p1), .val (.int p2), .val (.int p3), .val (.int (0 : Int32)), .val (.int (1 : Int32)), .val (.ref ar), .val (.double gd), .second, .val (.ref gr), .val (.ref ob), .unset, .unset] [(.ref ar)])) t → Steps p.tables e below (s₁.setTop (entryFrame m #[(.int p1), (.int p2), (.int p3)] maxLocals)) t := fun t k => c61 t (by
        show Steps p.tables e below (T55.setTop (mkF m 91 #[.val (.int p1), .val (.int p2), .val (.int p3), .val (.int (0 : Int32)), .val (.int (1 : Int32)), .val (.ref ar), .val (.double gd), .second, .val (.ref gr), .unset, .unset, .unset] [(.ref ob)])) _
        refine XS.astore X55.here hx rfl (hb hby at_91) rfl rfl (l' := #[.val (.int p1), .val (.int p2), .val (.int p3), .val (.int (0 : Int32)), .val (.int (1 : Int32)), .val (.ref ar), .val (.double gd), .second, .val (.ref gr), .val (.ref ob), .unset, .unset]) rfl ?_
        show Steps p.tables e below (T55.setTop (mkF m 93 #[.val (.int p1), .val (.int p2), .val (.int p3), .val (.int (0 : Int32)), .val (.int (1 : Int32)), .val (.ref ar), .val (.double gd), .second, .val (.ref gr), .val (.ref ob), .unset, .unset] [])) _
        refine XS.aload X55.here hx rfl (hb hby at_93) rfl rfl ?_
        show Steps p.tables e below (T55.setTop (mkF m 95 #[.val (.int p1), .val (.int p2), .val (.int p3), .val (.int (0 : Int32)), .val (.int (1 : Int32)), .val (.ref ar), .val (.double gd), .second, .val (.ref gr), .val (.ref ob), .unset, .unset] [(.ref ar)])) _
        exact k)
      obtain ⟨_, _, ⟨T63, L63, k63', n63⟩, -, X63, ⟨Lc63, hQ63, l63, y63, z63⟩, st63⟩ := Jvm.LawKit.callS X55 hx (y := (⟨"com/example/topsail/topsail/exec/Answer", "unranked", "([I)Lcom/example/topsail/topsail/exec/Answer;"⟩ : MethodName)) hown (mvT hZ (hw _ (List.mem_of_getElem? (i := 15) rfl))) (mvT hZ (hw _ (List.mem_of_getElem? (i := 16) rfl))) (mvT hZ (hw _ (List.mem_of_getElem? (i := 4) rfl))) (mvT hZ (hw _ (List.mem_of_getElem? (i := 17) rfl))) (by decide) (backOf (W := 0) (rm_un l Z a0 hw [] ar (fun _ => p1) 0 T55.heap n0 (Nat.le_trans (Nat.le_trans (Nat.le_trans (Nat.le_trans Z0 E36.1) E40.1) E46.1) K55.1) (F57.congr (fun j hj => absurd hj (Nat.not_lt_zero j))) F56 (by decide)) hZ (hw _ (List.mem_of_getElem? (i := 17) rfl)) (hw _ (List.mem_of_getElem? (i := 4) rfl)) (by decide) (by decide)) (g := (mkF m 95 #[.val (.int p1), .val (.int p2), .val (.int p3), .val (.int (0 : Int32)), .val (.int (1 : Int32)), .val (.ref ar), .val (.double gd), .second, .val (.ref gr), .val (.ref ob), .unset, .unset] [(.ref ar)])) rfl (by rw [hml]; rfl) (argsL := [(.ref ar)]) (rest := []) (lenOf pd___I_Lcom_example_topsail_topsail_exec_Answer_ rfl) rfl (by show 2 * 0 + _ ≤ _; exact Nat.le_of_eq rfl) (hb hby at_95) (fun _ _ => ⟨rfl, rfl, (by decide : 3 + 2 ≤ _), (by decide : 2 + 3 ≤ _)⟩)
      dsimp only [Pt.U, Pt.locs, Pt.cells, Pt.slots] at X63 l63 y63 z63 st63 hQ63
      subst l63 y63 z63
      obtain ⟨pl, rfl, N63, K63, G63_0, G63_1⟩ := hQ63
      have M63 := Fr.app M55 N63
      have F64 : Exa Z T63.heap ar "[I" := (F56.keep K63)
      have F65 : OwnArr.Ag Z T63.heap ar .int 0 (fun _ => (.int (0 : Int32))) := (F57.keep K63 nin0)
      have F66 : Exa Z T63.heap gr "[D" := (F58.keep K63)
      have F67 : OwnArr.Ag Z T63.heap gr .double 0 (fun _ => (.double (0 : UInt64))) := (F59.keep K63 nin0)
      have F68 : Exa Z T63.heap ob "com/example/topsail/topsail/exec/Answer" := (G55_0.keep K63)
      have F69 : Fld Z T63.heap ob "com/example/topsail/topsail/exec/Answer" "objects" "[I" (.ref ar) := (G55_1.keep K63 nin0)
      have F70 : Fld Z T63.heap ob "com/example/topsail/topsail/exec/Answer" "grades" "[D" (.ref gr) := (G55_2.keep K63 nin0)
      have c71 : ∀ t, Steps p.tables e below (T63.setTop (mkF m 98 #[.val (.int p1), .val (.int p2), .val (.int p3), .val (.int (0 : Int32)), .val (.int (1 : Int32)), .val (.ref ar), .val (.double gd), .second, .val (.ref gr), .val (.ref ob), .unset, .unset] [(.ref pl)])) t → Steps p.tables e below (s₁.setTop (entryFrame m #[(.int p1), (.int p2), (.int p3)] maxLocals)) t := fun t k => c62 t (st63 _ k)
      have c72 : ∀ t, Steps p.tables e below (T63.setTop (mkF m 102 #[.val (.int p1), .val (.int p2), .val (.int p3), .val (.int (0 : Int32)), .val (.int (1 : Int32)), .val (.ref ar), .val (.double gd), .second, .val (.ref gr), .val (.ref ob), .val (.ref pl), .unset] [(.ref ob)])) t → Steps p.tables e below (s₁.setTop (entryFrame m #[(.int p1), (.int p2), (.int p3)] maxLocals)) t := fun t k => c71 t (by
        show Steps p.tables e below (T63.setTop (mkF m 98 #[.val (.int p1), .val (.int p2), .val (.int p3), .val (.int (0 : Int32)), .val (.int (1 : Int32)), .val (.ref ar), .val (.double gd), .second, .val (.ref gr), .val (.ref ob), .unset, .unset] [(.ref pl)])) _
        refine XS.astore X63.here hx rfl (hb hby at_98) rfl rfl (l' := #[.val (.int p1), .val (.int p2), .val (.int p3), .val (.int (0 : Int32)), .val (.int (1 : Int32)), .val (.ref ar), .val (.double gd), .second, .val (.ref gr), .val (.ref ob), .val (.ref pl), .unset]) rfl ?_
        show Steps p.tables e below (T63.setTop (mkF m 100 #[.val (.int p1), .val (.int p2), .val (.int p3), .val (.int (0 : Int32)), .val (.int (1 : Int32)), .val (.ref ar), .val (.double gd), .second, .val (.ref gr), .val (.ref ob), .val (.ref pl), .unset] [])) _
        refine XS.aload X63.here hx rfl (hb hby at_100) rfl rfl ?_
        show Steps p.tables e below (T63.setTop (mkF m 102 #[.val (.int p1), .val (.int p2), .val (.int p3), .val (.int (0 : Int32)), .val (.int (1 : Int32)), .val (.ref ar), .val (.double gd), .second, .val (.ref gr), .val (.ref ob), .val (.ref pl), .unset] [(.ref ob)])) _
        exact k)
      obtain ⟨cq73, kq73, q73a, q73b, q73c⟩ := isOf hZ rfl F68
      obtain ⟨_, _, ⟨T73, L73, k73', n73⟩, -, X73, ⟨Lc73, hQ73, l73, y73, z73⟩, st73⟩ := X63.virtualBack hx (y := (⟨"com/example/topsail/topsail/exec/Answer", "ranked", "()Z"⟩ : MethodName)) (z := (⟨"com/example/topsail/topsail/exec/Answer", "ranked", "()Z"⟩ : MethodName)) hown (mvT hZ (hw _ (List.mem_of_getElem? (i := 29) rfl))) (mvT hZ (hw _ (List.mem_of_getElem? (i := 30) rfl))) (notFace_of_selects (args := #[]) (mvT hZ (hw _ (List.mem_of_getElem? (i := 32) rfl)))) (mvT hZ (hw _ (List.mem_of_getElem? (i := 32) rfl))) (mvT hZ (hw _ (List.mem_of_getElem? (i := 31) rfl))) (by decide) (backOf (W := 0) (rm_rk1 l Z a0 hw [] ob gr T63.heap n0 (Nat.le_trans (Nat.le_trans (Nat.le_trans (Nat.le_trans (Nat.le_trans Z0 E36.1) E40.1) E46.1) K55.1) K63.1) F70) hZ (hw _ (List.mem_of_getElem? (i := 33) rfl)) (hw _ (List.mem_of_getElem? (i := 4) rfl)) (by decide) (by decide)) q73a q73c (g := (mkF m 102 #[.val (.int p1), .val (.int p2), .val (.int p3), .val (.int (0 : Int32)), .val (.int (1 : Int32)), .val (.ref ar), .val (.double gd), .second, .val (.ref gr), .val (.ref ob), .val (.ref pl), .unset] [(.ref ob)])) rfl (by rw [hml]; rfl) (Steps.refl _) (argsL := []) (rest := []) (lenOf pd___Z rfl) rfl (by show 2 * 0 + _ ≤ _; exact Nat.le_of_eq rfl) (hb hby at_102) (fun _ _ => ⟨rfl, rfl, (by decide : 5 + 0 ≤ _), (by decide : 5 + 0 ≤ _)⟩)
      dsimp only [Pt.U, Pt.locs, Pt.cells, Pt.slots] at X73 l73 y73 z73 st73 hQ73
      subst l73 y73 z73
      obtain ⟨rfl, N73, e73⟩ := hQ73
      have M73 := Fr.app M63 N73
      have c74 : ∀ t, Steps p.tables e below (T73.setTop (mkF m 105 #[.val (.int p1), .val (.int p2), .val (.int p3), .val (.int (0 : Int32)), .val (.int (1 : Int32)), .val (.ref ar), .val (.double gd), .second, .val (.ref gr), .val (.ref ob), .val (.ref pl), .unset] [(.int (1 : Int32))])) t → Steps p.tables e below (s₁.setTop (entryFrame m #[(.int p1), (.int p2), (.int p3)] maxLocals)) t := fun t k => c72 t (st73.trans k)
      have c75 : ∀ t, Steps p.tables e below (T73.setTop (mkF m 112 #[.val (.int p1), .val (.int p2), .val (.int p3), .val (.int (0 : Int32)), .val (.int (1 : Int32)), .val (.ref ar), .val (.double gd), .second, .val (.ref gr), .val (.ref ob), .val (.ref pl), .unset] [(.ref pl)])) t → Steps p.tables e below (s₁.setTop (entryFrame m #[(.int p1), (.int p2), (.int p3)] maxLocals)) t := fun t k => c74 t (by
        show Steps p.tables e below (T73.setTop (mkF m 105 #[.val (.int p1), .val (.int p2), .val (.int p3), .val (.int (0 : Int32)), .val (.int (1 : Int32)), .val (.ref ar), .val (.double gd), .second, .val (.ref gr), .val (.ref ob), .val (.ref pl), .unset] [(.int (1 : Int32))])) _
        refine XS.iload X73.here hx rfl (hb hby at_105) rfl ?_
        show Steps p.tables e below (T73.setTop (mkF m 107 #[.val (.int p1), .val (.int p2), .val (.int p3), .val (.int (0 : Int32)), .val (.int (1 : Int32)), .val (.ref ar), .val (.double gd), .second, .val (.ref gr), .val (.ref ob), .val (.ref pl), .unset] [(.int (1 : Int32)), (.int (1 : Int32))])) _
        refine XS.icmpNo X73.here hx rfl (hb hby at_107) rfl (XT.ii_ne_f (by decide)) ?_
        show Steps p.tables e below (T73.setTop (mkF m 110 #[.val (.int p1), .val (.int p2), .val (.int p3), .val (.int (0 : Int32)), .val (.int (1 : Int32)), .val (.ref ar), .val (.double gd), .second, .val (.ref gr), .val (.ref ob), .val (.ref pl), .unset] [])) _
        refine XS.aload X73.here hx rfl (hb hby at_110) rfl rfl ?_
        show Steps p.tables e below (T73.setTop (mkF m 112 #[.val (.int p1), .val (.int p2), .val (.int p3), .val (.int (0 : Int32)), .val (.int (1 : Int32)), .val (.ref ar), .val (.double gd), .second, .val (.ref gr), .val (.ref ob), .val (.ref pl), .unset] [(.ref pl)])) _
        exact k)
      obtain ⟨cq76, kq76, q76a, q76b, q76c⟩ := isOf hZ e73 G63_0
      obtain ⟨_, _, ⟨T76, L76, k76', n76⟩, -, X76, ⟨Lc76, hQ76, l76, y76, z76⟩, st76⟩ := X73.virtualBack hx (y := (⟨"com/example/topsail/topsail/exec/Answer", "ranked", "()Z"⟩ : MethodName)) (z := (⟨"com/example/topsail/topsail/exec/Answer", "ranked", "()Z"⟩ : MethodName)) hown (mvT hZ (hw _ (List.mem_of_getElem? (i := 29) rfl))) (mvT hZ (hw _ (List.mem_of_getElem? (i := 30) rfl))) (notFace_of_selects (args := #[]) (mvT hZ (hw _ (List.mem_of_getElem? (i := 32) rfl)))) (mvT hZ (hw _ (List.mem_of_getElem? (i := 32) rfl))) (mvT hZ (hw _ (List.mem_of_getElem? (i := 31) rfl))) (by decide) (backOf (W := 0) (rm_rk0 l Z a0 hw [] pl T63.heap n0 (Nat.le_trans (Nat.le_trans (Nat.le_trans (Nat.le_trans (Nat.le_trans Z0 E36.1) E40.1) E46.1) K55.1) K63.1) G63_1) hZ (hw _ (List.mem_of_getElem? (i := 33) rfl)) (hw _ (List.mem_of_getElem? (i := 4) rfl)) (by decide) (by decide)) q76a q76c (g := (mkF m 112 #[.val (.int p1), .val (.int p2), .val (.int p3), .val (.int (0 : Int32)), .val (.int (1 : Int32)), .val (.ref ar), .val (.double gd), .second, .val (.ref gr), .val (.ref ob), .val (.ref pl), .unset] [(.ref pl)])) rfl (by rw [hml]; rfl) (Steps.refl _) (argsL := []) (rest := []) (lenOf pd___Z rfl) rfl (by show 2 * 0 + _ ≤ _; exact Nat.le_of_eq rfl) (hb hby at_112) (fun _ _ => ⟨rfl, e73, (by decide : 5 + 0 ≤ _), (by decide : 5 + 0 ≤ _)⟩)
      dsimp only [Pt.U, Pt.locs, Pt.cells, Pt.slots] at X76 l76 y76 z76 st76 hQ76
      subst l76 y76 z76
      obtain ⟨rfl, N76, e76⟩ := hQ76
      have M76 := Fr.app M73 N76
      have c77 : ∀ t, Steps p.tables e below (T76.setTop (mkF m 115 #[.val (.int p1), .val (.int p2), .val (.int p3), .val (.int (0 : Int32)), .val (.int (1 : Int32)), .val (.ref ar), .val (.double gd), .second, .val (.ref gr), .val (.ref ob), .val (.ref pl), .unset] [(.int (0 : Int32))])) t → Steps p.tables e below (s₁.setTop (entryFrame m #[(.int p1), (.int p2), (.int p3)] maxLocals)) t := fun t k => c75 t (st76.trans k)
      have c78 : ∀ t, Steps p.tables e below (T76.setTop (mkF m 160 #[.val (.int p1), .val (.int p2), .val (.int p3), .val (.int (0 : Int32)), .val (.int (1 : Int32)), .val (.ref ar), .val (.double gd), .second, .val (.ref gr), .val (.ref ob), .val (.ref pl), .val (.int (1 : Int32))] [(.int (1 : Int32))])) t → Steps p.tables e below (s₁.setTop (entryFrame m #[(.int p1), (.int p2), (.int p3)] maxLocals)) t := fun t k => c77 t (by
        show Steps p.tables e below (T76.setTop (mkF m 115 #[.val (.int p1), .val (.int p2), .val (.int p3), .val (.int (0 : Int32)), .val (.int (1 : Int32)), .val (.ref ar), .val (.double gd), .second, .val (.ref gr), .val (.ref ob), .val (.ref pl), .unset] [(.int (0 : Int32))])) _
        refine XS.ifNo X76.here hx rfl (hb hby at_115) rfl (XT.i0_ne_f (by decide)) ?_
        show Steps p.tables e below (T76.setTop (mkF m 118 #[.val (.int p1), .val (.int p2), .val (.int p3), .val (.int (0 : Int32)), .val (.int (1 : Int32)), .val (.ref ar), .val (.double gd), .second, .val (.ref gr), .val (.ref ob), .val (.ref pl), .unset] [])) _
        refine XS.iconst X76.here hx rfl (hb hby at_118) ?_
        show Steps p.tables e below (T76.setTop (mkF m 119 #[.val (.int p1), .val (.int p2), .val (.int p3), .val (.int (0 : Int32)), .val (.int (1 : Int32)), .val (.ref ar), .val (.double gd), .second, .val (.ref gr), .val (.ref ob), .val (.ref pl), .unset] [(.int (1 : Int32))])) _
        refine XS.goto X76.here hx rfl (pc0 := 119) (pc' := 123) rfl (hb hby at_119) (by decide) (by decide) ?_
        show Steps p.tables e below (T76.setTop (mkF m 123 #[.val (.int p1), .val (.int p2), .val (.int p3), .val (.int (0 : Int32)), .val (.int (1 : Int32)), .val (.ref ar), .val (.double gd), .second, .val (.ref gr), .val (.ref ob), .val (.ref pl), .unset] [(.int (1 : Int32))])) _
        refine XS.istore X76.here hx rfl (hb hby at_123) rfl (l' := #[.val (.int p1), .val (.int p2), .val (.int p3), .val (.int (0 : Int32)), .val (.int (1 : Int32)), .val (.ref ar), .val (.double gd), .second, .val (.ref gr), .val (.ref ob), .val (.ref pl), .val (.int (1 : Int32))]) rfl ?_
        show Steps p.tables e below (T76.setTop (mkF m 125 #[.val (.int p1), .val (.int p2), .val (.int p3), .val (.int (0 : Int32)), .val (.int (1 : Int32)), .val (.ref ar), .val (.double gd), .second, .val (.ref gr), .val (.ref ob), .val (.ref pl), .val (.int (1 : Int32))] [])) _
        refine XS.iload X76.here hx rfl (hb hby at_125) rfl ?_
        show Steps p.tables e below (T76.setTop (mkF m 127 #[.val (.int p1), .val (.int p2), .val (.int p3), .val (.int (0 : Int32)), .val (.int (1 : Int32)), .val (.ref ar), .val (.double gd), .second, .val (.ref gr), .val (.ref ob), .val (.ref pl), .val (.int (1 : Int32))] [(.int (1 : Int32))])) _
        refine XS.ifNo X76.here hx rfl (hb hby at_127) rfl (XT.i0_eq_f (by decide)) ?_
        show Steps p.tables e below (T76.setTop (mkF m 130 #[.val (.int p1), .val (.int p2), .val (.int p3), .val (.int (0 : Int32)), .val (.int (1 : Int32)), .val (.ref ar), .val (.double gd), .second, .val (.ref gr), .val (.ref ob), .val (.ref pl), .val (.int (1 : Int32))] [])) _
        refine XS.iloadN X76.here hx rfl (hb hby at_130) rfl ?_
        show Steps p.tables e below (T76.setTop (mkF m 131 #[.val (.int p1), .val (.int p2), .val (.int p3), .val (.int (0 : Int32)), .val (.int (1 : Int32)), .val (.ref ar), .val (.double gd), .second, .val (.ref gr), .val (.ref ob), .val (.ref pl), .val (.int (1 : Int32))] [(.int (0 : Int32))])) _
        refine XS.ifYes X76.here hx rfl (pc0 := 131) (pc' := 158) rfl (hb hby at_131) rfl (XT.i0_eq_t (by decide)) (by decide) (by decide) ?_
        show Steps p.tables e below (T76.setTop (mkF m 158 #[.val (.int p1), .val (.int p2), .val (.int p3), .val (.int (0 : Int32)), .val (.int (1 : Int32)), .val (.ref ar), .val (.double gd), .second, .val (.ref gr), .val (.ref ob), .val (.ref pl), .val (.int (1 : Int32))] [])) _
        refine XS.iload X76.here hx rfl (hb hby at_158) rfl ?_
        show Steps p.tables e below (T76.setTop (mkF m 160 #[.val (.int p1), .val (.int p2), .val (.int p3), .val (.int (0 : Int32)), .val (.int (1 : Int32)), .val (.ref ar), .val (.double gd), .second, .val (.ref gr), .val (.ref ob), .val (.ref pl), .val (.int (1 : Int32))] [(.int (1 : Int32))])) _
        exact k)
      obtain ⟨fs, hr, hrun, hended, hW, hsame⟩ := X76.leave (v := (some (.int (1 : Int32)))) (fun h => by rw [Bd.returns] at h; cases h)
      refine ⟨_, _, pre0 _ (c78 _ (retN X76 hx (t := .boolean) Bd.returns (by simp) (hb hby at_160) hr)), hrun, hended, _, _, rfl, ?_, ⟨_, rfl⟩, hW, hsame.mono (by decide) (by decide)⟩
      show Q_0 Z p1 p2 p3 h0 n0 _ T76.heap _
      rw [e76]
      exact ⟨rfl, M76⟩
  · skip
    have c79 : ∀ t, Steps p.tables e below (s₁.setTop (mkF m 15 #[.val (.int p1), .val (.int p2), .val (.int p3), .val (.int (1 : Int32)), .unset, .unset, .unset, .unset, .unset, .unset, .unset, .unset] [(.int (p3 &&& (2 : Int32)))])) t → Steps p.tables e below (s₁.setTop (entryFrame m #[(.int p1), (.int p2), (.int p3)] maxLocals)) t := fun t k => c1 t (by
      show Steps p.tables e below (s₁.setTop (mkF m 3 #[.val (.int p1), .val (.int p2), .val (.int p3), .unset, .unset, .unset, .unset, .unset, .unset, .unset, .unset, .unset] [(.int (p3 &&& (1 : Int32)))])) _
      refine XS.ifNo X0.here hx rfl (hb hby at_3) rfl (XT.i0_eq_f qa) ?_
      show Steps p.tables e below (s₁.setTop (mkF m 6 #[.val (.int p1), .val (.int p2), .val (.int p3), .unset, .unset, .unset, .unset, .unset, .unset, .unset, .unset, .unset] [])) _
      refine XS.iconst X0.here hx rfl (hb hby at_6) ?_
      show Steps p.tables e below (s₁.setTop (mkF m 7 #[.val (.int p1), .val (.int p2), .val (.int p3), .unset, .unset, .unset, .unset, .unset, .unset, .unset, .unset, .unset] [(.int (1 : Int32))])) _
      refine XS.goto X0.here hx rfl (pc0 := 7) (pc' := 11) rfl (hb hby at_7) (by decide) (by decide) ?_
      show Steps p.tables e below (s₁.setTop (mkF m 11 #[.val (.int p1), .val (.int p2), .val (.int p3), .unset, .unset, .unset, .unset, .unset, .unset, .unset, .unset, .unset] [(.int (1 : Int32))])) _
      refine XS.istoreN X0.here hx rfl (hb hby at_11) rfl (l' := #[.val (.int p1), .val (.int p2), .val (.int p3), .val (.int (1 : Int32)), .unset, .unset, .unset, .unset, .unset, .unset, .unset, .unset]) rfl ?_
      show Steps p.tables e below (s₁.setTop (mkF m 12 #[.val (.int p1), .val (.int p2), .val (.int p3), .val (.int (1 : Int32)), .unset, .unset, .unset, .unset, .unset, .unset, .unset, .unset] [])) _
      refine XS.iloadN X0.here hx rfl (hb hby at_12) rfl ?_
      show Steps p.tables e below (s₁.setTop (mkF m 13 #[.val (.int p1), .val (.int p2), .val (.int p3), .val (.int (1 : Int32)), .unset, .unset, .unset, .unset, .unset, .unset, .unset, .unset] [(.int p3)])) _
      refine XS.iconst X0.here hx rfl (hb hby at_13) ?_
      show Steps p.tables e below (s₁.setTop (mkF m 14 #[.val (.int p1), .val (.int p2), .val (.int p3), .val (.int (1 : Int32)), .unset, .unset, .unset, .unset, .unset, .unset, .unset, .unset] [(.int (2 : Int32)), (.int p3)])) _
      refine XS.iand X0.here hx rfl (hb hby at_14) rfl ?_
      show Steps p.tables e below (s₁.setTop (mkF m 15 #[.val (.int p1), .val (.int p2), .val (.int p3), .val (.int (1 : Int32)), .unset, .unset, .unset, .unset, .unset, .unset, .unset, .unset] [(.int (p3 &&& (2 : Int32)))])) _
      exact k)
    by_cases qb : (p3 &&& (2 : Int32)) = 0
    · skip
      have c80 : ∀ t, Steps p.tables e below (s₁.setTop (mkF m 30 #[.val (.int p1), .val (.int p2), .val (.int p3), .val (.int (1 : Int32)), .val (.int (0 : Int32)), .unset, .unset, .unset, .unset, .unset, .unset, .unset] [(.int (1 : Int32))])) t → Steps p.tables e below (s₁.setTop (entryFrame m #[(.int p1), (.int p2), (.int p3)] maxLocals)) t := fun t k => c79 t (by
        show Steps p.tables e below (s₁.setTop (mkF m 15 #[.val (.int p1), .val (.int p2), .val (.int p3), .val (.int (1 : Int32)), .unset, .unset, .unset, .unset, .unset, .unset, .unset, .unset] [(.int (p3 &&& (2 : Int32)))])) _
        refine XS.ifYes X0.here hx rfl (pc0 := 15) (pc' := 22) rfl (hb hby at_15) rfl (XT.i0_eq_t qb) (by decide) (by decide) ?_
        show Steps p.tables e below (s₁.setTop (mkF m 22 #[.val (.int p1), .val (.int p2), .val (.int p3), .val (.int (1 : Int32)), .unset, .unset, .unset, .unset, .unset, .unset, .unset, .unset] [])) _
        refine XS.iconst X0.here hx rfl (hb hby at_22) ?_
        show Steps p.tables e below (s₁.setTop (mkF m 23 #[.val (.int p1), .val (.int p2), .val (.int p3), .val (.int (1 : Int32)), .unset, .unset, .unset, .unset, .unset, .unset, .unset, .unset] [(.int (0 : Int32))])) _
        refine XS.istore X0.here hx rfl (hb hby at_23) rfl (l' := #[.val (.int p1), .val (.int p2), .val (.int p3), .val (.int (1 : Int32)), .val (.int (0 : Int32)), .unset, .unset, .unset, .unset, .unset, .unset, .unset]) rfl ?_
        show Steps p.tables e below (s₁.setTop (mkF m 25 #[.val (.int p1), .val (.int p2), .val (.int p3), .val (.int (1 : Int32)), .val (.int (0 : Int32)), .unset, .unset, .unset, .unset, .unset, .unset, .unset] [])) _
        refine XS.iloadN X0.here hx rfl (hb hby at_25) rfl ?_
        show Steps p.tables e below (s₁.setTop (mkF m 26 #[.val (.int p1), .val (.int p2), .val (.int p3), .val (.int (1 : Int32)), .val (.int (0 : Int32)), .unset, .unset, .unset, .unset, .unset, .unset, .unset] [(.int (1 : Int32))])) _
        refine XS.ifNo X0.here hx rfl (hb hby at_26) rfl (XT.i0_eq_f (by decide)) ?_
        show Steps p.tables e below (s₁.setTop (mkF m 29 #[.val (.int p1), .val (.int p2), .val (.int p3), .val (.int (1 : Int32)), .val (.int (0 : Int32)), .unset, .unset, .unset, .unset, .unset, .unset, .unset] [])) _
        refine XS.iconst X0.here hx rfl (hb hby at_29) ?_
        show Steps p.tables e below (s₁.setTop (mkF m 30 #[.val (.int p1), .val (.int p2), .val (.int p3), .val (.int (1 : Int32)), .val (.int (0 : Int32)), .unset, .unset, .unset, .unset, .unset, .unset, .unset] [(.int (1 : Int32))])) _
        exact k)
      obtain ⟨T81, h81, kA81, X81, e81, E81, A81, Ex81, st81⟩ := newPE X0 hx hZ (hw _ (List.mem_of_getElem? (i := 0) rfl)) e0 (g := (mkF m 30 #[.val (.int p1), .val (.int p2), .val (.int p3), .val (.int (1 : Int32)), .val (.int (0 : Int32)), .unset, .unset, .unset, .unset, .unset, .unset, .unset] [(.int (1 : Int32))])) rfl (hb hby at_30) rfl (by decide) (cap := 1) (by decide) (by decide) (by decide) (by decide) (ad := "[I") rfl
      obtain ⟨ar, g81⟩ : ∃ z, z = h0.size := ⟨_, rfl⟩
      rw [← g81] at A81 st81 Ex81
      have F82 : OwnArr.Ag Z h81 ar .int 1 (fun _ => (.int (0 : Int32))) := (OwnArr.Ag.new A81 (by decide))
      have c83 : ∀ t, Steps p.tables e below (T81.setTop (mkF m 32 #[.val (.int p1), .val (.int p2), .val (.int p3), .val (.int (1 : Int32)), .val (.int (0 : Int32)), .unset, .unset, .unset, .unset, .unset, .unset, .unset] [(.ref ar)])) t → Steps p.tables e below (s₁.setTop (entryFrame m #[(.int p1), (.int p2), (.int p3)] maxLocals)) t := fun t k => c80 t (st81 _ k)
      have c84 : ∀ t, Steps p.tables e below (T81.setTop (mkF m 35 #[.val (.int p1), .val (.int p2), .val (.int p3), .val (.int (1 : Int32)), .val (.int (0 : Int32)), .unset, .unset, .unset, .unset, .unset, .unset, .unset] [(.int p1), (.int (0 : Int32)), (.ref ar), (.ref ar)])) t → Steps p.tables e below (s₁.setTop (entryFrame m #[(.int p1), (.int p2), (.int p3)] maxLocals)) t := fun t k => c83 t (by
        show Steps p.tables e below (T81.setTop (mkF m 32 #[.val (.int p1), .val (.int p2), .val (.int p3), .val (.int (1 : Int32)), .val (.int (0 : Int32)), .unset, .unset, .unset, .unset, .unset, .unset, .unset] [(.ref ar)])) _
        refine XS.dup X81.here hx rfl (hb hby at_32) rfl rfl ?_
        show Steps p.tables e below (T81.setTop (mkF m 33 #[.val (.int p1), .val (.int p2), .val (.int p3), .val (.int (1 : Int32)), .val (.int (0 : Int32)), .unset, .unset, .unset, .unset, .unset, .unset, .unset] [(.ref ar), (.ref ar)])) _
        refine XS.iconst X81.here hx rfl (hb hby at_33) ?_
        show Steps p.tables e below (T81.setTop (mkF m 34 #[.val (.int p1), .val (.int p2), .val (.int p3), .val (.int (1 : Int32)), .val (.int (0 : Int32)), .unset, .unset, .unset, .unset, .unset, .unset, .unset] [(.int (0 : Int32)), (.ref ar), (.ref ar)])) _
        refine XS.iloadN X81.here hx rfl (hb hby at_34) rfl ?_
        show Steps p.tables e below (T81.setTop (mkF m 35 #[.val (.int p1), .val (.int p2), .val (.int p3), .val (.int (1 : Int32)), .val (.int (0 : Int32)), .unset, .unset, .unset, .unset, .unset, .unset, .unset] [(.int p1), (.int (0 : Int32)), (.ref ar), (.ref ar)])) _
        exact k)
      obtain ⟨T85, h85, X85, e85, W85, st85⟩ := OwnArr.stIA X81 hx hZ e81 F82 (j := (0 : Int32)) (J := 0) (by decide) (by decide) (g := (mkF m 35 #[.val (.int p1), .val (.int p2), .val (.int p3), .val (.int (1 : Int32)), .val (.int (0 : Int32)), .unset, .unset, .unset, .unset, .unset, .unset, .unset] [(.int p1), (.int (0 : Int32)), (.ref ar), (.ref ar)])) rfl rfl (hb hby at_35)
      have F86 : OwnArr.Ag Z h85 ar .int 1 (fun i => if i = 0 then (.int p1) else (fun _ => (.int (0 : Int32))) i) := (F82.set W85)
      have F87 : Exa Z h85 ar "[I" := (Ex81.wr W85)
      have N85 := Fr.snoc X85 N0 (Nat.le_trans Z0 (Nat.le_of_eq g81.symm))
      have c88 : ∀ t, Steps p.tables e below (T85.setTop (mkF m 36 #[.val (.int p1), .val (.int p2), .val (.int p3), .val (.int (1 : Int32)), .val (.int (0 : Int32)), .unset, .unset, .unset, .unset, .unset, .unset, .unset] [(.ref ar)])) t → Steps p.tables e below (s₁.setTop (entryFrame m #[(.int p1), (.int p2), (.int p3)] maxLocals)) t := fun t k => c84 t (st85 _ k)
      obtain ⟨gd, hgd⟩ : ∃ v : UInt64, FP.i2d (p2 % (1000 : Int32)) = v := ⟨_, rfl⟩
      have Dg : Core.DFin gd := hgd ▸ (DS.i2d _).1
      have c89 : ∀ t, Steps p.tables e below (T85.setTop (mkF m 80 #[.val (.int p1), .val (.int p2), .val (.int p3), .val (.int (1 : Int32)), .val (.int (0 : Int32)), .val (.ref ar), .val (.double gd), .second, .val .null, .unset, .unset, .unset] [])) t → Steps p.tables e below (s₁.setTop (entryFrame m #[(.int p1), (.int p2), (.int p3)] maxLocals)) t := fun t k => c88 t (by
        show Steps p.tables e below (T85.setTop (mkF m 36 #[.val (.int p1), .val (.int p2), .val (.int p3), .val (.int (1 : Int32)), .val (.int (0 : Int32)), .unset, .unset, .unset, .unset, .unset, .unset, .unset] [(.ref ar)])) _
        refine XS.goto X85.here hx rfl (pc0 := 36) (pc' := 42) rfl (hb hby at_36) (by decide) (by decide) ?_
        show Steps p.tables e below (T85.setTop (mkF m 42 #[.val (.int p1), .val (.int p2), .val (.int p3), .val (.int (1 : Int32)), .val (.int (0 : Int32)), .unset, .unset, .unset, .unset, .unset, .unset, .unset] [(.ref ar)])) _
        refine XS.astore X85.here hx rfl (hb hby at_42) rfl rfl (l' := #[.val (.int p1), .val (.int p2), .val (.int p3), .val (.int (1 : Int32)), .val (.int (0 : Int32)), .val (.ref ar), .unset, .unset, .unset, .unset, .unset, .unset]) rfl ?_
        show Steps p.tables e below (T85.setTop (mkF m 44 #[.val (.int p1), .val (.int p2), .val (.int p3), .val (.int (1 : Int32)), .val (.int (0 : Int32)), .val (.ref ar), .unset, .unset, .unset, .unset, .unset, .unset] [])) _
        refine XS.iloadN X85.here hx rfl (hb hby at_44) rfl ?_
        show Steps p.tables e below (T85.setTop (mkF m 45 #[.val (.int p1), .val (.int p2), .val (.int p3), .val (.int (1 : Int32)), .val (.int (0 : Int32)), .val (.ref ar), .unset, .unset, .unset, .unset, .unset, .unset] [(.int p2)])) _
        refine XS.sipush X85.here hx rfl (hb hby at_45) ?_
        show Steps p.tables e below (T85.setTop (mkF m 48 #[.val (.int p1), .val (.int p2), .val (.int p3), .val (.int (1 : Int32)), .val (.int (0 : Int32)), .val (.ref ar), .unset, .unset, .unset, .unset, .unset, .unset] [(.int (1000 : Int32)), (.int p2)])) _
        refine iremM X85 hx rfl (hb hby at_48) rfl (by decide) ?_
        show Steps p.tables e below (T85.setTop (mkF m 49 #[.val (.int p1), .val (.int p2), .val (.int p3), .val (.int (1 : Int32)), .val (.int (0 : Int32)), .val (.ref ar), .unset, .unset, .unset, .unset, .unset, .unset] [(.int (p2 % (1000 : Int32)))])) _
        refine XS.i2dS X85.here hx rfl (hb hby at_49) rfl hgd ?_
        show Steps p.tables e below (T85.setTop (mkF m 50 #[.val (.int p1), .val (.int p2), .val (.int p3), .val (.int (1 : Int32)), .val (.int (0 : Int32)), .val (.ref ar), .unset, .unset, .unset, .unset, .unset, .unset] [(.double gd)])) _
        refine XS.dstore X85.here hx rfl (hb hby at_50) rfl (l' := #[.val (.int p1), .val (.int p2), .val (.int p3), .val (.int (1 : Int32)), .val (.int (0 : Int32)), .val (.ref ar), .val (.double gd), .second, .unset, .unset, .unset, .unset]) rfl ?_
        show Steps p.tables e below (T85.setTop (mkF m 52 #[.val (.int p1), .val (.int p2), .val (.int p3), .val (.int (1 : Int32)), .val (.int (0 : Int32)), .val (.ref ar), .val (.double gd), .second, .unset, .unset, .unset, .unset] [])) _
        refine XS.aconstNull X85.here hx rfl (hb hby at_52) ?_
        show Steps p.tables e below (T85.setTop (mkF m 53 #[.val (.int p1), .val (.int p2), .val (.int p3), .val (.int (1 : Int32)), .val (.int (0 : Int32)), .val (.ref ar), .val (.double gd), .second, .unset, .unset, .unset, .unset] [.null])) _
        refine XS.astore X85.here hx rfl (hb hby at_53) rfl rfl (l' := #[.val (.int p1), .val (.int p2), .val (.int p3), .val (.int (1 : Int32)), .val (.int (0 : Int32)), .val (.ref ar), .val (.double gd), .second, .val .null, .unset, .unset, .unset]) rfl ?_
        show Steps p.tables e below (T85.setTop (mkF m 55 #[.val (.int p1), .val (.int p2), .val (.int p3), .val (.int (1 : Int32)), .val (.int (0 : Int32)), .val (.ref ar), .val (.double gd), .second, .val .null, .unset, .unset, .unset] [])) _
        refine XS.iload X85.here hx rfl (hb hby at_55) rfl ?_
        show Steps p.tables e below (T85.setTop (mkF m 57 #[.val (.int p1), .val (.int p2), .val (.int p3), .val (.int (1 : Int32)), .val (.int (0 : Int32)), .val (.ref ar), .val (.double gd), .second, .val .null, .unset, .unset, .unset] [(.int (0 : Int32))])) _
        refine XS.ifYes X85.here hx rfl (pc0 := 57) (pc' := 80) rfl (hb hby at_57) rfl (XT.i0_eq_t (by decide)) (by decide) (by decide) ?_
        show Steps p.tables e below (T85.setTop (mkF m 80 #[.val (.int p1), .val (.int p2), .val (.int p3), .val (.int (1 : Int32)), .val (.int (0 : Int32)), .val (.ref ar), .val (.double gd), .second, .val .null, .unset, .unset, .unset] [])) _
        exact k)
      obtain ⟨T90, h90, X90, e90, E90, A90, D90, -, st90⟩ := newO X85 hx hZ hown (hw _ (List.mem_of_getElem? (i := 2) rfl)) (hw _ (List.mem_of_getElem? (i := 3) rfl)) (hw _ (List.mem_of_getElem? (i := 4) rfl)) e85 (g := (mkF m 80 #[.val (.int p1), .val (.int p2), .val (.int p3), .val (.int (1 : Int32)), .val (.int (0 : Int32)), .val (.ref ar), .val (.double gd), .second, .val .null, .unset, .unset, .unset] [])) rfl (hb hby at_80) (by decide) (by decide)
      obtain ⟨ob, g90⟩ : ∃ z, z = h85.size := ⟨_, rfl⟩
      rw [← g90] at A90 D90 st90
      have F91 : Exa Z h90 ar "[I" := (F87.ext E90)
      have F92 : OwnArr.Ag Z h90 ar .int 1 (fun i => if i = 0 then (.int p1) else (fun _ => (.int (0 : Int32))) i) := (F86.ext E90)
      have F93 : Fld Z h90 ob "com/example/topsail/topsail/exec/Answer" "objects" "[I" .null := (D90 (Or.inr (hw _ (List.mem_of_getElem? (i := 12) rfl))) (ty := (.array .int)) (by decide))
      have F94 : Fld Z h90 ob "com/example/topsail/topsail/exec/Answer" "grades" "[D" .null := (D90 (Or.inr (hw _ (List.mem_of_getElem? (i := 14) rfl))) (ty := (.array .double)) (by decide))
      have c95 : ∀ t, Steps p.tables e below (T90.setTop (mkF m 83 #[.val (.int p1), .val (.int p2), .val (.int p3), .val (.int (1 : Int32)), .val (.int (0 : Int32)), .val (.ref ar), .val (.double gd), .second, .val .null, .unset, .unset, .unset] [(.ref ob)])) t → Steps p.tables e below (s₁.setTop (entryFrame m #[(.int p1), (.int p2), (.int p3)] maxLocals)) t := fun t k => c89 t (st90 _ k)
      have c96 : ∀ t, Steps p.tables e below (T90.setTop (mkF m 88 #[.val (.int p1), .val (.int p2), .val (.int p3), .val (.int (1 : Int32)), .val (.int (0 : Int32)), .val (.ref ar), .val (.double gd), .second, .val .null, .unset, .unset, .unset] [.null, (.ref ar), (.ref ob), (.ref ob)])) t → Steps p.tables e below (s₁.setTop (entryFrame m #[(.int p1), (.int p2), (.int p3)] maxLocals)) t := fun t k => c95 t (by
        show Steps p.tables e below (T90.setTop (mkF m 83 #[.val (.int p1), .val (.int p2), .val (.int p3), .val (.int (1 : Int32)), .val (.int (0 : Int32)), .val (.ref ar), .val (.double gd), .second, .val .null, .unset, .unset, .unset] [(.ref ob)])) _
        refine XS.dup X90.here hx rfl (hb hby at_83) rfl rfl ?_
        show Steps p.tables e below (T90.setTop (mkF m 84 #[.val (.int p1), .val (.int p2), .val (.int p3), .val (.int (1 : Int32)), .val (.int (0 : Int32)), .val (.ref ar), .val (.double gd), .second, .val .null, .unset, .unset, .unset] [(.ref ob), (.ref ob)])) _
        refine XS.aload X90.here hx rfl (hb hby at_84) rfl rfl ?_
        show Steps p.tables e below (T90.setTop (mkF m 86 #[.val (.int p1), .val (.int p2), .val (.int p3), .val (.int (1 : Int32)), .val (.int (0 : Int32)), .val (.ref ar), .val (.double gd), .second, .val .null, .unset, .unset, .unset] [(.ref ar), (.ref ob), (.ref ob)])) _
        refine XS.aload X90.here hx rfl (hb hby at_86) rfl rfl ?_
        show Steps p.tables e below (T90.setTop (mkF m 88 #[.val (.int p1), .val (.int p2), .val (.int p3), .val (.int (1 : Int32)), .val (.int (0 : Int32)), .val (.ref ar), .val (.double gd), .second, .val .null, .unset, .unset, .unset] [.null, (.ref ar), (.ref ob), (.ref ob)])) _
        exact k)
      obtain ⟨_, _, ⟨T97, L97, k97', n97⟩, -, X97, ⟨Lc97, hQ97, l97, y97, z97⟩, st97⟩ := X90.specialBack hx (y := (⟨"com/example/topsail/topsail/exec/Answer", "<init>", "([I[D)V"⟩ : MethodName)) rfl hown (mvT hZ (hw _ (List.mem_of_getElem? (i := 5) rfl))) (mvT hZ (hw _ (List.mem_of_getElem? (i := 6) rfl))) (mvT hZ (hw _ (List.mem_of_getElem? (i := 7) rfl))) (by decide) (backOf (W := 1) (rm_in0 l Z a0 hw [] ob ar h90 n0 (Nat.le_trans (Nat.le_trans (Nat.le_trans Z0 E81.1) (Keep.of_wr W85).1) E90.1) A90 F93 F94 (Nat.le_trans (Nat.le_trans (Nat.le_trans Z0 E81.1) (Keep.of_wr W85).1) (Nat.le_of_eq g90.symm))) hZ (hw _ (List.mem_of_getElem? (i := 7) rfl)) (hw _ (List.mem_of_getElem? (i := 4) rfl)) (by decide) (by decide)) (g := (mkF m 88 #[.val (.int p1), .val (.int p2), .val (.int p3), .val (.int (1 : Int32)), .val (.int (0 : Int32)), .val (.ref ar), .val (.double gd), .second, .val .null, .unset, .unset, .unset] [.null, (.ref ar), (.ref ob), (.ref ob)])) rfl (by rw [hml]; rfl) (Steps.refl _) (a := ob) (argsL := [(.ref ar), .null]) (rest := [(.ref ob)]) (lenOf pd___I_D_V rfl) rfl (by show 2 * 0 + _ ≤ _; exact Nat.le_of_eq rfl) (hb hby at_88) (fun _ _ => ⟨rfl, e90, (by decide : 2 + 0 ≤ _), (by decide : 3 + 0 ≤ _)⟩)
      dsimp only [Pt.U, Pt.locs, Pt.cells, Pt.slots] at X97 l97 y97 z97 st97 hQ97
      subst l97 y97 z97
      obtain ⟨rfl, N97, K97, G97_0, G97_1, G97_2⟩ := hQ97
      have M97 := Fr.app N85 N97
      have F98 : Exa Z T97.heap ar "[I" := (F91.keep K97)
      have F99 : OwnArr.Ag Z T97.heap ar .int 1 (fun i => if i = 0 then (.int p1) else (fun _ => (.int (0 : Int32))) i) := (F92.keep K97 (ninS (Nat.ne_of_lt (Nat.lt_of_lt_of_le F86.lt (Nat.le_of_eq g90.symm))) nin0))
      have F100 : Exa Z T97.heap ob "com/example/topsail/topsail/exec/Answer" := (A90.keep K97)
      have c101 : ∀ t, Steps p.tables e below (T97.setTop (mkF m 91 #[.val (.int p1), .val (.int p2), .val (.int p3), .val (.int (1 : Int32)), .val (.int (0 : Int32)), .val (.ref ar), .val (.double gd), .second, .val .null, .unset, .unset, .unset] [(.ref ob)])) t → Steps p.tables e below (s₁.setTop (entryFrame m #[(.int p1), (.int p2), (.int p3)] maxLocals)) t := fun t k => c96 t (st97.trans k)
      have c102 : ∀ t, Steps p.tables e below (T97.setTop (mkF m 95 #[.val (.int p1), .val (.int p2), .val (.int p3), .val (.int (1 : Int32)), .val (.int (0 : Int32)), .val (.ref ar), .val (.double gd), .second, .val .null, .val (.ref ob), .unset, .unset] [(.ref ar)])) t → Steps p.tables e below (s₁.setTop (entryFrame m #[(.int p1), (.int p2), (.int p3)] maxLocals)) t := fun t k => c101 t (by
        show Steps p.tables e below (T97.setTop (mkF m 91 #[.val (.int p1), .val (.int p2), .val (.int p3), .val (.int (1 : Int32)), .val (.int (0 : Int32)), .val (.ref ar), .val (.double gd), .second, .val .null, .unset, .unset, .unset] [(.ref ob)])) _
        refine XS.astore X97.here hx rfl (hb hby at_91) rfl rfl (l' := #[.val (.int p1), .val (.int p2), .val (.int p3), .val (.int (1 : Int32)), .val (.int (0 : Int32)), .val (.ref ar), .val (.double gd), .second, .val .null, .val (.ref ob), .unset, .unset]) rfl ?_
        show Steps p.tables e below (T97.setTop (mkF m 93 #[.val (.int p1), .val (.int p2), .val (.int p3), .val (.int (1 : Int32)), .val (.int (0 : Int32)), .val (.ref ar), .val (.double gd), .second, .val .null, .val (.ref ob), .unset, .unset] [])) _
        refine XS.aload X97.here hx rfl (hb hby at_93) rfl rfl ?_
        show Steps p.tables e below (T97.setTop (mkF m 95 #[.val (.int p1), .val (.int p2), .val (.int p3), .val (.int (1 : Int32)), .val (.int (0 : Int32)), .val (.ref ar), .val (.double gd), .second, .val .null, .val (.ref ob), .unset, .unset] [(.ref ar)])) _
        exact k)
      obtain ⟨_, _, ⟨T103, L103, k103', n103⟩, -, X103, ⟨Lc103, hQ103, l103, y103, z103⟩, st103⟩ := Jvm.LawKit.callS X97 hx (y := (⟨"com/example/topsail/topsail/exec/Answer", "unranked", "([I)Lcom/example/topsail/topsail/exec/Answer;"⟩ : MethodName)) hown (mvT hZ (hw _ (List.mem_of_getElem? (i := 15) rfl))) (mvT hZ (hw _ (List.mem_of_getElem? (i := 16) rfl))) (mvT hZ (hw _ (List.mem_of_getElem? (i := 4) rfl))) (mvT hZ (hw _ (List.mem_of_getElem? (i := 17) rfl))) (by decide) (backOf (W := 0) (rm_un l Z a0 hw [] ar (fun _ => p1) 1 T97.heap n0 (Nat.le_trans (Nat.le_trans (Nat.le_trans (Nat.le_trans Z0 E81.1) (Keep.of_wr W85).1) E90.1) K97.1) (F99.congr (fun j hj => by rw [show j = 0 by omega]; rfl)) F98 (by decide)) hZ (hw _ (List.mem_of_getElem? (i := 17) rfl)) (hw _ (List.mem_of_getElem? (i := 4) rfl)) (by decide) (by decide)) (g := (mkF m 95 #[.val (.int p1), .val (.int p2), .val (.int p3), .val (.int (1 : Int32)), .val (.int (0 : Int32)), .val (.ref ar), .val (.double gd), .second, .val .null, .val (.ref ob), .unset, .unset] [(.ref ar)])) rfl (by rw [hml]; rfl) (argsL := [(.ref ar)]) (rest := []) (lenOf pd___I_Lcom_example_topsail_topsail_exec_Answer_ rfl) rfl (by show 2 * 0 + _ ≤ _; exact Nat.le_of_eq rfl) (hb hby at_95) (fun _ _ => ⟨rfl, rfl, (by decide : 2 + 2 ≤ _), (by decide : 3 + 3 ≤ _)⟩)
      dsimp only [Pt.U, Pt.locs, Pt.cells, Pt.slots] at X103 l103 y103 z103 st103 hQ103
      subst l103 y103 z103
      obtain ⟨pl, rfl, N103, K103, G103_0, G103_1⟩ := hQ103
      have M103 := Fr.app M97 N103
      have F104 : Exa Z T103.heap ar "[I" := (F98.keep K103)
      have F105 : OwnArr.Ag Z T103.heap ar .int 1 (fun i => if i = 0 then (.int p1) else (fun _ => (.int (0 : Int32))) i) := (F99.keep K103 nin0)
      have F106 : Exa Z T103.heap ob "com/example/topsail/topsail/exec/Answer" := (G97_0.keep K103)
      have F107 : Fld Z T103.heap ob "com/example/topsail/topsail/exec/Answer" "objects" "[I" (.ref ar) := (G97_1.keep K103 nin0)
      have F108 : Fld Z T103.heap ob "com/example/topsail/topsail/exec/Answer" "grades" "[D" .null := (G97_2.keep K103 nin0)
      have c109 : ∀ t, Steps p.tables e below (T103.setTop (mkF m 98 #[.val (.int p1), .val (.int p2), .val (.int p3), .val (.int (1 : Int32)), .val (.int (0 : Int32)), .val (.ref ar), .val (.double gd), .second, .val .null, .val (.ref ob), .unset, .unset] [(.ref pl)])) t → Steps p.tables e below (s₁.setTop (entryFrame m #[(.int p1), (.int p2), (.int p3)] maxLocals)) t := fun t k => c102 t (st103 _ k)
      have c110 : ∀ t, Steps p.tables e below (T103.setTop (mkF m 102 #[.val (.int p1), .val (.int p2), .val (.int p3), .val (.int (1 : Int32)), .val (.int (0 : Int32)), .val (.ref ar), .val (.double gd), .second, .val .null, .val (.ref ob), .val (.ref pl), .unset] [(.ref ob)])) t → Steps p.tables e below (s₁.setTop (entryFrame m #[(.int p1), (.int p2), (.int p3)] maxLocals)) t := fun t k => c109 t (by
        show Steps p.tables e below (T103.setTop (mkF m 98 #[.val (.int p1), .val (.int p2), .val (.int p3), .val (.int (1 : Int32)), .val (.int (0 : Int32)), .val (.ref ar), .val (.double gd), .second, .val .null, .val (.ref ob), .unset, .unset] [(.ref pl)])) _
        refine XS.astore X103.here hx rfl (hb hby at_98) rfl rfl (l' := #[.val (.int p1), .val (.int p2), .val (.int p3), .val (.int (1 : Int32)), .val (.int (0 : Int32)), .val (.ref ar), .val (.double gd), .second, .val .null, .val (.ref ob), .val (.ref pl), .unset]) rfl ?_
        show Steps p.tables e below (T103.setTop (mkF m 100 #[.val (.int p1), .val (.int p2), .val (.int p3), .val (.int (1 : Int32)), .val (.int (0 : Int32)), .val (.ref ar), .val (.double gd), .second, .val .null, .val (.ref ob), .val (.ref pl), .unset] [])) _
        refine XS.aload X103.here hx rfl (hb hby at_100) rfl rfl ?_
        show Steps p.tables e below (T103.setTop (mkF m 102 #[.val (.int p1), .val (.int p2), .val (.int p3), .val (.int (1 : Int32)), .val (.int (0 : Int32)), .val (.ref ar), .val (.double gd), .second, .val .null, .val (.ref ob), .val (.ref pl), .unset] [(.ref ob)])) _
        exact k)
      obtain ⟨cq111, kq111, q111a, q111b, q111c⟩ := isOf hZ rfl F106
      obtain ⟨_, _, ⟨T111, L111, k111', n111⟩, -, X111, ⟨Lc111, hQ111, l111, y111, z111⟩, st111⟩ := X103.virtualBack hx (y := (⟨"com/example/topsail/topsail/exec/Answer", "ranked", "()Z"⟩ : MethodName)) (z := (⟨"com/example/topsail/topsail/exec/Answer", "ranked", "()Z"⟩ : MethodName)) hown (mvT hZ (hw _ (List.mem_of_getElem? (i := 29) rfl))) (mvT hZ (hw _ (List.mem_of_getElem? (i := 30) rfl))) (notFace_of_selects (args := #[]) (mvT hZ (hw _ (List.mem_of_getElem? (i := 32) rfl)))) (mvT hZ (hw _ (List.mem_of_getElem? (i := 32) rfl))) (mvT hZ (hw _ (List.mem_of_getElem? (i := 31) rfl))) (by decide) (backOf (W := 0) (rm_rk0 l Z a0 hw [] ob T103.heap n0 (Nat.le_trans (Nat.le_trans (Nat.le_trans (Nat.le_trans (Nat.le_trans Z0 E81.1) (Keep.of_wr W85).1) E90.1) K97.1) K103.1) F108) hZ (hw _ (List.mem_of_getElem? (i := 33) rfl)) (hw _ (List.mem_of_getElem? (i := 4) rfl)) (by decide) (by decide)) q111a q111c (g := (mkF m 102 #[.val (.int p1), .val (.int p2), .val (.int p3), .val (.int (1 : Int32)), .val (.int (0 : Int32)), .val (.ref ar), .val (.double gd), .second, .val .null, .val (.ref ob), .val (.ref pl), .unset] [(.ref ob)])) rfl (by rw [hml]; rfl) (Steps.refl _) (argsL := []) (rest := []) (lenOf pd___Z rfl) rfl (by show 2 * 0 + _ ≤ _; exact Nat.le_of_eq rfl) (hb hby at_102) (fun _ _ => ⟨rfl, rfl, (by decide : 4 + 0 ≤ _), (by decide : 6 + 0 ≤ _)⟩)
      dsimp only [Pt.U, Pt.locs, Pt.cells, Pt.slots] at X111 l111 y111 z111 st111 hQ111
      subst l111 y111 z111
      obtain ⟨rfl, N111, e111⟩ := hQ111
      have M111 := Fr.app M103 N111
      have c112 : ∀ t, Steps p.tables e below (T111.setTop (mkF m 105 #[.val (.int p1), .val (.int p2), .val (.int p3), .val (.int (1 : Int32)), .val (.int (0 : Int32)), .val (.ref ar), .val (.double gd), .second, .val .null, .val (.ref ob), .val (.ref pl), .unset] [(.int (0 : Int32))])) t → Steps p.tables e below (s₁.setTop (entryFrame m #[(.int p1), (.int p2), (.int p3)] maxLocals)) t := fun t k => c110 t (st111.trans k)
      have c113 : ∀ t, Steps p.tables e below (T111.setTop (mkF m 112 #[.val (.int p1), .val (.int p2), .val (.int p3), .val (.int (1 : Int32)), .val (.int (0 : Int32)), .val (.ref ar), .val (.double gd), .second, .val .null, .val (.ref ob), .val (.ref pl), .unset] [(.ref pl)])) t → Steps p.tables e below (s₁.setTop (entryFrame m #[(.int p1), (.int p2), (.int p3)] maxLocals)) t := fun t k => c112 t (by
        show Steps p.tables e below (T111.setTop (mkF m 105 #[.val (.int p1), .val (.int p2), .val (.int p3), .val (.int (1 : Int32)), .val (.int (0 : Int32)), .val (.ref ar), .val (.double gd), .second, .val .null, .val (.ref ob), .val (.ref pl), .unset] [(.int (0 : Int32))])) _
        refine XS.iload X111.here hx rfl (hb hby at_105) rfl ?_
        show Steps p.tables e below (T111.setTop (mkF m 107 #[.val (.int p1), .val (.int p2), .val (.int p3), .val (.int (1 : Int32)), .val (.int (0 : Int32)), .val (.ref ar), .val (.double gd), .second, .val .null, .val (.ref ob), .val (.ref pl), .unset] [(.int (0 : Int32)), (.int (0 : Int32))])) _
        refine XS.icmpNo X111.here hx rfl (hb hby at_107) rfl (XT.ii_ne_f (by decide)) ?_
        show Steps p.tables e below (T111.setTop (mkF m 110 #[.val (.int p1), .val (.int p2), .val (.int p3), .val (.int (1 : Int32)), .val (.int (0 : Int32)), .val (.ref ar), .val (.double gd), .second, .val .null, .val (.ref ob), .val (.ref pl), .unset] [])) _
        refine XS.aload X111.here hx rfl (hb hby at_110) rfl rfl ?_
        show Steps p.tables e below (T111.setTop (mkF m 112 #[.val (.int p1), .val (.int p2), .val (.int p3), .val (.int (1 : Int32)), .val (.int (0 : Int32)), .val (.ref ar), .val (.double gd), .second, .val .null, .val (.ref ob), .val (.ref pl), .unset] [(.ref pl)])) _
        exact k)
      obtain ⟨cq114, kq114, q114a, q114b, q114c⟩ := isOf hZ e111 G103_0
      obtain ⟨_, _, ⟨T114, L114, k114', n114⟩, -, X114, ⟨Lc114, hQ114, l114, y114, z114⟩, st114⟩ := X111.virtualBack hx (y := (⟨"com/example/topsail/topsail/exec/Answer", "ranked", "()Z"⟩ : MethodName)) (z := (⟨"com/example/topsail/topsail/exec/Answer", "ranked", "()Z"⟩ : MethodName)) hown (mvT hZ (hw _ (List.mem_of_getElem? (i := 29) rfl))) (mvT hZ (hw _ (List.mem_of_getElem? (i := 30) rfl))) (notFace_of_selects (args := #[]) (mvT hZ (hw _ (List.mem_of_getElem? (i := 32) rfl)))) (mvT hZ (hw _ (List.mem_of_getElem? (i := 32) rfl))) (mvT hZ (hw _ (List.mem_of_getElem? (i := 31) rfl))) (by decide) (backOf (W := 0) (rm_rk0 l Z a0 hw [] pl T103.heap n0 (Nat.le_trans (Nat.le_trans (Nat.le_trans (Nat.le_trans (Nat.le_trans Z0 E81.1) (Keep.of_wr W85).1) E90.1) K97.1) K103.1) G103_1) hZ (hw _ (List.mem_of_getElem? (i := 33) rfl)) (hw _ (List.mem_of_getElem? (i := 4) rfl)) (by decide) (by decide)) q114a q114c (g := (mkF m 112 #[.val (.int p1), .val (.int p2), .val (.int p3), .val (.int (1 : Int32)), .val (.int (0 : Int32)), .val (.ref ar), .val (.double gd), .second, .val .null, .val (.ref ob), .val (.ref pl), .unset] [(.ref pl)])) rfl (by rw [hml]; rfl) (Steps.refl _) (argsL := []) (rest := []) (lenOf pd___Z rfl) rfl (by show 2 * 0 + _ ≤ _; exact Nat.le_of_eq rfl) (hb hby at_112) (fun _ _ => ⟨rfl, e111, (by decide : 4 + 0 ≤ _), (by decide : 6 + 0 ≤ _)⟩)
      dsimp only [Pt.U, Pt.locs, Pt.cells, Pt.slots] at X114 l114 y114 z114 st114 hQ114
      subst l114 y114 z114
      obtain ⟨rfl, N114, e114⟩ := hQ114
      have M114 := Fr.app M111 N114
      have c115 : ∀ t, Steps p.tables e below (T114.setTop (mkF m 115 #[.val (.int p1), .val (.int p2), .val (.int p3), .val (.int (1 : Int32)), .val (.int (0 : Int32)), .val (.ref ar), .val (.double gd), .second, .val .null, .val (.ref ob), .val (.ref pl), .unset] [(.int (0 : Int32))])) t → Steps p.tables e below (s₁.setTop (entryFrame m #[(.int p1), (.int p2), (.int p3)] maxLocals)) t := fun t k => c113 t (st114.trans k)
      have c116 : ∀ t, Steps p.tables e below (T114.setTop (mkF m 160 #[.val (.int p1), .val (.int p2), .val (.int p3), .val (.int (1 : Int32)), .val (.int (0 : Int32)), .val (.ref ar), .val (.double gd), .second, .val .null, .val (.ref ob), .val (.ref pl), .val (.int (1 : Int32))] [(.int (1 : Int32))])) t → Steps p.tables e below (s₁.setTop (entryFrame m #[(.int p1), (.int p2), (.int p3)] maxLocals)) t := fun t k => c115 t (by
        show Steps p.tables e below (T114.setTop (mkF m 115 #[.val (.int p1), .val (.int p2), .val (.int p3), .val (.int (1 : Int32)), .val (.int (0 : Int32)), .val (.ref ar), .val (.double gd), .second, .val .null, .val (.ref ob), .val (.ref pl), .unset] [(.int (0 : Int32))])) _
        refine XS.ifNo X114.here hx rfl (hb hby at_115) rfl (XT.i0_ne_f (by decide)) ?_
        show Steps p.tables e below (T114.setTop (mkF m 118 #[.val (.int p1), .val (.int p2), .val (.int p3), .val (.int (1 : Int32)), .val (.int (0 : Int32)), .val (.ref ar), .val (.double gd), .second, .val .null, .val (.ref ob), .val (.ref pl), .unset] [])) _
        refine XS.iconst X114.here hx rfl (hb hby at_118) ?_
        show Steps p.tables e below (T114.setTop (mkF m 119 #[.val (.int p1), .val (.int p2), .val (.int p3), .val (.int (1 : Int32)), .val (.int (0 : Int32)), .val (.ref ar), .val (.double gd), .second, .val .null, .val (.ref ob), .val (.ref pl), .unset] [(.int (1 : Int32))])) _
        refine XS.goto X114.here hx rfl (pc0 := 119) (pc' := 123) rfl (hb hby at_119) (by decide) (by decide) ?_
        show Steps p.tables e below (T114.setTop (mkF m 123 #[.val (.int p1), .val (.int p2), .val (.int p3), .val (.int (1 : Int32)), .val (.int (0 : Int32)), .val (.ref ar), .val (.double gd), .second, .val .null, .val (.ref ob), .val (.ref pl), .unset] [(.int (1 : Int32))])) _
        refine XS.istore X114.here hx rfl (hb hby at_123) rfl (l' := #[.val (.int p1), .val (.int p2), .val (.int p3), .val (.int (1 : Int32)), .val (.int (0 : Int32)), .val (.ref ar), .val (.double gd), .second, .val .null, .val (.ref ob), .val (.ref pl), .val (.int (1 : Int32))]) rfl ?_
        show Steps p.tables e below (T114.setTop (mkF m 125 #[.val (.int p1), .val (.int p2), .val (.int p3), .val (.int (1 : Int32)), .val (.int (0 : Int32)), .val (.ref ar), .val (.double gd), .second, .val .null, .val (.ref ob), .val (.ref pl), .val (.int (1 : Int32))] [])) _
        refine XS.iload X114.here hx rfl (hb hby at_125) rfl ?_
        show Steps p.tables e below (T114.setTop (mkF m 127 #[.val (.int p1), .val (.int p2), .val (.int p3), .val (.int (1 : Int32)), .val (.int (0 : Int32)), .val (.ref ar), .val (.double gd), .second, .val .null, .val (.ref ob), .val (.ref pl), .val (.int (1 : Int32))] [(.int (0 : Int32))])) _
        refine XS.ifYes X114.here hx rfl (pc0 := 127) (pc' := 158) rfl (hb hby at_127) rfl (XT.i0_eq_t (by decide)) (by decide) (by decide) ?_
        show Steps p.tables e below (T114.setTop (mkF m 158 #[.val (.int p1), .val (.int p2), .val (.int p3), .val (.int (1 : Int32)), .val (.int (0 : Int32)), .val (.ref ar), .val (.double gd), .second, .val .null, .val (.ref ob), .val (.ref pl), .val (.int (1 : Int32))] [])) _
        refine XS.iload X114.here hx rfl (hb hby at_158) rfl ?_
        show Steps p.tables e below (T114.setTop (mkF m 160 #[.val (.int p1), .val (.int p2), .val (.int p3), .val (.int (1 : Int32)), .val (.int (0 : Int32)), .val (.ref ar), .val (.double gd), .second, .val .null, .val (.ref ob), .val (.ref pl), .val (.int (1 : Int32))] [(.int (1 : Int32))])) _
        exact k)
      obtain ⟨fs, hr, hrun, hended, hW, hsame⟩ := X114.leave (v := (some (.int (1 : Int32)))) (fun h => by rw [Bd.returns] at h; cases h)
      refine ⟨_, _, pre0 _ (c116 _ (retN X114 hx (t := .boolean) Bd.returns (by simp) (hb hby at_160) hr)), hrun, hended, _, _, rfl, ?_, ⟨_, rfl⟩, hW, hsame.mono (by decide) (by decide)⟩
      show Q_0 Z p1 p2 p3 h0 n0 _ T114.heap _
      rw [e114]
      exact ⟨rfl, M114⟩
    · skip
      have c117 : ∀ t, Steps p.tables e below (s₁.setTop (mkF m 30 #[.val (.int p1), .val (.int p2), .val (.int p3), .val (.int (1 : Int32)), .val (.int (1 : Int32)), .unset, .unset, .unset, .unset, .unset, .unset, .unset] [(.int (1 : Int32))])) t → Steps p.tables e below (s₁.setTop (entryFrame m #[(.int p1), (.int p2), (.int p3)] maxLocals)) t := fun t k => c79 t (by
        show Steps p.tables e below (s₁.setTop (mkF m 15 #[.val (.int p1), .val (.int p2), .val (.int p3), .val (.int (1 : Int32)), .unset, .unset, .unset, .unset, .unset, .unset, .unset, .unset] [(.int (p3 &&& (2 : Int32)))])) _
        refine XS.ifNo X0.here hx rfl (hb hby at_15) rfl (XT.i0_eq_f qb) ?_
        show Steps p.tables e below (s₁.setTop (mkF m 18 #[.val (.int p1), .val (.int p2), .val (.int p3), .val (.int (1 : Int32)), .unset, .unset, .unset, .unset, .unset, .unset, .unset, .unset] [])) _
        refine XS.iconst X0.here hx rfl (hb hby at_18) ?_
        show Steps p.tables e below (s₁.setTop (mkF m 19 #[.val (.int p1), .val (.int p2), .val (.int p3), .val (.int (1 : Int32)), .unset, .unset, .unset, .unset, .unset, .unset, .unset, .unset] [(.int (1 : Int32))])) _
        refine XS.goto X0.here hx rfl (pc0 := 19) (pc' := 23) rfl (hb hby at_19) (by decide) (by decide) ?_
        show Steps p.tables e below (s₁.setTop (mkF m 23 #[.val (.int p1), .val (.int p2), .val (.int p3), .val (.int (1 : Int32)), .unset, .unset, .unset, .unset, .unset, .unset, .unset, .unset] [(.int (1 : Int32))])) _
        refine XS.istore X0.here hx rfl (hb hby at_23) rfl (l' := #[.val (.int p1), .val (.int p2), .val (.int p3), .val (.int (1 : Int32)), .val (.int (1 : Int32)), .unset, .unset, .unset, .unset, .unset, .unset, .unset]) rfl ?_
        show Steps p.tables e below (s₁.setTop (mkF m 25 #[.val (.int p1), .val (.int p2), .val (.int p3), .val (.int (1 : Int32)), .val (.int (1 : Int32)), .unset, .unset, .unset, .unset, .unset, .unset, .unset] [])) _
        refine XS.iloadN X0.here hx rfl (hb hby at_25) rfl ?_
        show Steps p.tables e below (s₁.setTop (mkF m 26 #[.val (.int p1), .val (.int p2), .val (.int p3), .val (.int (1 : Int32)), .val (.int (1 : Int32)), .unset, .unset, .unset, .unset, .unset, .unset, .unset] [(.int (1 : Int32))])) _
        refine XS.ifNo X0.here hx rfl (hb hby at_26) rfl (XT.i0_eq_f (by decide)) ?_
        show Steps p.tables e below (s₁.setTop (mkF m 29 #[.val (.int p1), .val (.int p2), .val (.int p3), .val (.int (1 : Int32)), .val (.int (1 : Int32)), .unset, .unset, .unset, .unset, .unset, .unset, .unset] [])) _
        refine XS.iconst X0.here hx rfl (hb hby at_29) ?_
        show Steps p.tables e below (s₁.setTop (mkF m 30 #[.val (.int p1), .val (.int p2), .val (.int p3), .val (.int (1 : Int32)), .val (.int (1 : Int32)), .unset, .unset, .unset, .unset, .unset, .unset, .unset] [(.int (1 : Int32))])) _
        exact k)
      obtain ⟨T118, h118, kA118, X118, e118, E118, A118, Ex118, st118⟩ := newPE X0 hx hZ (hw _ (List.mem_of_getElem? (i := 0) rfl)) e0 (g := (mkF m 30 #[.val (.int p1), .val (.int p2), .val (.int p3), .val (.int (1 : Int32)), .val (.int (1 : Int32)), .unset, .unset, .unset, .unset, .unset, .unset, .unset] [(.int (1 : Int32))])) rfl (hb hby at_30) rfl (by decide) (cap := 1) (by decide) (by decide) (by decide) (by decide) (ad := "[I") rfl
      obtain ⟨ar, g118⟩ : ∃ z, z = h0.size := ⟨_, rfl⟩
      rw [← g118] at A118 st118 Ex118
      have F119 : OwnArr.Ag Z h118 ar .int 1 (fun _ => (.int (0 : Int32))) := (OwnArr.Ag.new A118 (by decide))
      have c120 : ∀ t, Steps p.tables e below (T118.setTop (mkF m 32 #[.val (.int p1), .val (.int p2), .val (.int p3), .val (.int (1 : Int32)), .val (.int (1 : Int32)), .unset, .unset, .unset, .unset, .unset, .unset, .unset] [(.ref ar)])) t → Steps p.tables e below (s₁.setTop (entryFrame m #[(.int p1), (.int p2), (.int p3)] maxLocals)) t := fun t k => c117 t (st118 _ k)
      have c121 : ∀ t, Steps p.tables e below (T118.setTop (mkF m 35 #[.val (.int p1), .val (.int p2), .val (.int p3), .val (.int (1 : Int32)), .val (.int (1 : Int32)), .unset, .unset, .unset, .unset, .unset, .unset, .unset] [(.int p1), (.int (0 : Int32)), (.ref ar), (.ref ar)])) t → Steps p.tables e below (s₁.setTop (entryFrame m #[(.int p1), (.int p2), (.int p3)] maxLocals)) t := fun t k => c120 t (by
        show Steps p.tables e below (T118.setTop (mkF m 32 #[.val (.int p1), .val (.int p2), .val (.int p3), .val (.int (1 : Int32)), .val (.int (1 : Int32)), .unset, .unset, .unset, .unset, .unset, .unset, .unset] [(.ref ar)])) _
        refine XS.dup X118.here hx rfl (hb hby at_32) rfl rfl ?_
        show Steps p.tables e below (T118.setTop (mkF m 33 #[.val (.int p1), .val (.int p2), .val (.int p3), .val (.int (1 : Int32)), .val (.int (1 : Int32)), .unset, .unset, .unset, .unset, .unset, .unset, .unset] [(.ref ar), (.ref ar)])) _
        refine XS.iconst X118.here hx rfl (hb hby at_33) ?_
        show Steps p.tables e below (T118.setTop (mkF m 34 #[.val (.int p1), .val (.int p2), .val (.int p3), .val (.int (1 : Int32)), .val (.int (1 : Int32)), .unset, .unset, .unset, .unset, .unset, .unset, .unset] [(.int (0 : Int32)), (.ref ar), (.ref ar)])) _
        refine XS.iloadN X118.here hx rfl (hb hby at_34) rfl ?_
        show Steps p.tables e below (T118.setTop (mkF m 35 #[.val (.int p1), .val (.int p2), .val (.int p3), .val (.int (1 : Int32)), .val (.int (1 : Int32)), .unset, .unset, .unset, .unset, .unset, .unset, .unset] [(.int p1), (.int (0 : Int32)), (.ref ar), (.ref ar)])) _
        exact k)
      obtain ⟨T122, h122, X122, e122, W122, st122⟩ := OwnArr.stIA X118 hx hZ e118 F119 (j := (0 : Int32)) (J := 0) (by decide) (by decide) (g := (mkF m 35 #[.val (.int p1), .val (.int p2), .val (.int p3), .val (.int (1 : Int32)), .val (.int (1 : Int32)), .unset, .unset, .unset, .unset, .unset, .unset, .unset] [(.int p1), (.int (0 : Int32)), (.ref ar), (.ref ar)])) rfl rfl (hb hby at_35)
      have F123 : OwnArr.Ag Z h122 ar .int 1 (fun i => if i = 0 then (.int p1) else (fun _ => (.int (0 : Int32))) i) := (F119.set W122)
      have F124 : Exa Z h122 ar "[I" := (Ex118.wr W122)
      have N122 := Fr.snoc X122 N0 (Nat.le_trans Z0 (Nat.le_of_eq g118.symm))
      have c125 : ∀ t, Steps p.tables e below (T122.setTop (mkF m 36 #[.val (.int p1), .val (.int p2), .val (.int p3), .val (.int (1 : Int32)), .val (.int (1 : Int32)), .unset, .unset, .unset, .unset, .unset, .unset, .unset] [(.ref ar)])) t → Steps p.tables e below (s₁.setTop (entryFrame m #[(.int p1), (.int p2), (.int p3)] maxLocals)) t := fun t k => c121 t (st122 _ k)
      obtain ⟨gd, hgd⟩ : ∃ v : UInt64, FP.i2d (p2 % (1000 : Int32)) = v := ⟨_, rfl⟩
      have Dg : Core.DFin gd := hgd ▸ (DS.i2d _).1
      have c126 : ∀ t, Steps p.tables e below (T122.setTop (mkF m 65 #[.val (.int p1), .val (.int p2), .val (.int p3), .val (.int (1 : Int32)), .val (.int (1 : Int32)), .val (.ref ar), .val (.double gd), .second, .val .null, .unset, .unset, .unset] [(.int (1 : Int32))])) t → Steps p.tables e below (s₁.setTop (entryFrame m #[(.int p1), (.int p2), (.int p3)] maxLocals)) t := fun t k => c125 t (by
        show Steps p.tables e below (T122.setTop (mkF m 36 #[.val (.int p1), .val (.int p2), .val (.int p3), .val (.int (1 : Int32)), .val (.int (1 : Int32)), .unset, .unset, .unset, .unset, .unset, .unset, .unset] [(.ref ar)])) _
        refine XS.goto X122.here hx rfl (pc0 := 36) (pc' := 42) rfl (hb hby at_36) (by decide) (by decide) ?_
        show Steps p.tables e below (T122.setTop (mkF m 42 #[.val (.int p1), .val (.int p2), .val (.int p3), .val (.int (1 : Int32)), .val (.int (1 : Int32)), .unset, .unset, .unset, .unset, .unset, .unset, .unset] [(.ref ar)])) _
        refine XS.astore X122.here hx rfl (hb hby at_42) rfl rfl (l' := #[.val (.int p1), .val (.int p2), .val (.int p3), .val (.int (1 : Int32)), .val (.int (1 : Int32)), .val (.ref ar), .unset, .unset, .unset, .unset, .unset, .unset]) rfl ?_
        show Steps p.tables e below (T122.setTop (mkF m 44 #[.val (.int p1), .val (.int p2), .val (.int p3), .val (.int (1 : Int32)), .val (.int (1 : Int32)), .val (.ref ar), .unset, .unset, .unset, .unset, .unset, .unset] [])) _
        refine XS.iloadN X122.here hx rfl (hb hby at_44) rfl ?_
        show Steps p.tables e below (T122.setTop (mkF m 45 #[.val (.int p1), .val (.int p2), .val (.int p3), .val (.int (1 : Int32)), .val (.int (1 : Int32)), .val (.ref ar), .unset, .unset, .unset, .unset, .unset, .unset] [(.int p2)])) _
        refine XS.sipush X122.here hx rfl (hb hby at_45) ?_
        show Steps p.tables e below (T122.setTop (mkF m 48 #[.val (.int p1), .val (.int p2), .val (.int p3), .val (.int (1 : Int32)), .val (.int (1 : Int32)), .val (.ref ar), .unset, .unset, .unset, .unset, .unset, .unset] [(.int (1000 : Int32)), (.int p2)])) _
        refine iremM X122 hx rfl (hb hby at_48) rfl (by decide) ?_
        show Steps p.tables e below (T122.setTop (mkF m 49 #[.val (.int p1), .val (.int p2), .val (.int p3), .val (.int (1 : Int32)), .val (.int (1 : Int32)), .val (.ref ar), .unset, .unset, .unset, .unset, .unset, .unset] [(.int (p2 % (1000 : Int32)))])) _
        refine XS.i2dS X122.here hx rfl (hb hby at_49) rfl hgd ?_
        show Steps p.tables e below (T122.setTop (mkF m 50 #[.val (.int p1), .val (.int p2), .val (.int p3), .val (.int (1 : Int32)), .val (.int (1 : Int32)), .val (.ref ar), .unset, .unset, .unset, .unset, .unset, .unset] [(.double gd)])) _
        refine XS.dstore X122.here hx rfl (hb hby at_50) rfl (l' := #[.val (.int p1), .val (.int p2), .val (.int p3), .val (.int (1 : Int32)), .val (.int (1 : Int32)), .val (.ref ar), .val (.double gd), .second, .unset, .unset, .unset, .unset]) rfl ?_
        show Steps p.tables e below (T122.setTop (mkF m 52 #[.val (.int p1), .val (.int p2), .val (.int p3), .val (.int (1 : Int32)), .val (.int (1 : Int32)), .val (.ref ar), .val (.double gd), .second, .unset, .unset, .unset, .unset] [])) _
        refine XS.aconstNull X122.here hx rfl (hb hby at_52) ?_
        show Steps p.tables e below (T122.setTop (mkF m 53 #[.val (.int p1), .val (.int p2), .val (.int p3), .val (.int (1 : Int32)), .val (.int (1 : Int32)), .val (.ref ar), .val (.double gd), .second, .unset, .unset, .unset, .unset] [.null])) _
        refine XS.astore X122.here hx rfl (hb hby at_53) rfl rfl (l' := #[.val (.int p1), .val (.int p2), .val (.int p3), .val (.int (1 : Int32)), .val (.int (1 : Int32)), .val (.ref ar), .val (.double gd), .second, .val .null, .unset, .unset, .unset]) rfl ?_
        show Steps p.tables e below (T122.setTop (mkF m 55 #[.val (.int p1), .val (.int p2), .val (.int p3), .val (.int (1 : Int32)), .val (.int (1 : Int32)), .val (.ref ar), .val (.double gd), .second, .val .null, .unset, .unset, .unset] [])) _
        refine XS.iload X122.here hx rfl (hb hby at_55) rfl ?_
        show Steps p.tables e below (T122.setTop (mkF m 57 #[.val (.int p1), .val (.int p2), .val (.int p3), .val (.int (1 : Int32)), .val (.int (1 : Int32)), .val (.ref ar), .val (.double gd), .second, .val .null, .unset, .unset, .unset] [(.int (1 : Int32))])) _
        refine XS.ifNo X122.here hx rfl (hb hby at_57) rfl (XT.i0_eq_f (by decide)) ?_
        show Steps p.tables e below (T122.setTop (mkF m 60 #[.val (.int p1), .val (.int p2), .val (.int p3), .val (.int (1 : Int32)), .val (.int (1 : Int32)), .val (.ref ar), .val (.double gd), .second, .val .null, .unset, .unset, .unset] [])) _
        refine XS.iloadN X122.here hx rfl (hb hby at_60) rfl ?_
        show Steps p.tables e below (T122.setTop (mkF m 61 #[.val (.int p1), .val (.int p2), .val (.int p3), .val (.int (1 : Int32)), .val (.int (1 : Int32)), .val (.ref ar), .val (.double gd), .second, .val .null, .unset, .unset, .unset] [(.int (1 : Int32))])) _
        refine XS.ifNo X122.here hx rfl (hb hby at_61) rfl (XT.i0_eq_f (by decide)) ?_
        show Steps p.tables e below (T122.setTop (mkF m 64 #[.val (.int p1), .val (.int p2), .val (.int p3), .val (.int (1 : Int32)), .val (.int (1 : Int32)), .val (.ref ar), .val (.double gd), .second, .val .null, .unset, .unset, .unset] [])) _
        refine XS.iconst X122.here hx rfl (hb hby at_64) ?_
        show Steps p.tables e below (T122.setTop (mkF m 65 #[.val (.int p1), .val (.int p2), .val (.int p3), .val (.int (1 : Int32)), .val (.int (1 : Int32)), .val (.ref ar), .val (.double gd), .second, .val .null, .unset, .unset, .unset] [(.int (1 : Int32))])) _
        exact k)
      obtain ⟨T127, h127, kA127, X127, e127, E127, A127, Ex127, st127⟩ := newPE X122 hx hZ (hw _ (List.mem_of_getElem? (i := 1) rfl)) e122 (g := (mkF m 65 #[.val (.int p1), .val (.int p2), .val (.int p3), .val (.int (1 : Int32)), .val (.int (1 : Int32)), .val (.ref ar), .val (.double gd), .second, .val .null, .unset, .unset, .unset] [(.int (1 : Int32))])) rfl (hb hby at_65) rfl (by decide) (cap := 1) (by decide) (by decide) (by decide) (by decide) (ad := "[D") rfl
      obtain ⟨gr, g127⟩ : ∃ z, z = h122.size := ⟨_, rfl⟩
      rw [← g127] at A127 st127 Ex127
      have F128 : Exa Z h127 ar "[I" := (F124.ext E127)
      have F129 : OwnArr.Ag Z h127 ar .int 1 (fun i => if i = 0 then (.int p1) else (fun _ => (.int (0 : Int32))) i) := (F123.ext E127)
      have F130 : OwnArr.Ag Z h127 gr .double 1 (fun _ => (.double (0 : UInt64))) := (OwnArr.Ag.new A127 (by decide))
      have c131 : ∀ t, Steps p.tables e below (T127.setTop (mkF m 67 #[.val (.int p1), .val (.int p2), .val (.int p3), .val (.int (1 : Int32)), .val (.int (1 : Int32)), .val (.ref ar), .val (.double gd), .second, .val .null, .unset, .unset, .unset] [(.ref gr)])) t → Steps p.tables e below (s₁.setTop (entryFrame m #[(.int p1), (.int p2), (.int p3)] maxLocals)) t := fun t k => c126 t (st127 _ k)
      have c132 : ∀ t, Steps p.tables e below (T127.setTop (mkF m 71 #[.val (.int p1), .val (.int p2), .val (.int p3), .val (.int (1 : Int32)), .val (.int (1 : Int32)), .val (.ref ar), .val (.double gd), .second, .val .null, .unset, .unset, .unset] [(.double gd), (.int (0 : Int32)), (.ref gr), (.ref gr)])) t → Steps p.tables e below (s₁.setTop (entryFrame m #[(.int p1), (.int p2), (.int p3)] maxLocals)) t := fun t k => c131 t (by
        show Steps p.tables e below (T127.setTop (mkF m 67 #[.val (.int p1), .val (.int p2), .val (.int p3), .val (.int (1 : Int32)), .val (.int (1 : Int32)), .val (.ref ar), .val (.double gd), .second, .val .null, .unset, .unset, .unset] [(.ref gr)])) _
        refine XS.dup X127.here hx rfl (hb hby at_67) rfl rfl ?_
        show Steps p.tables e below (T127.setTop (mkF m 68 #[.val (.int p1), .val (.int p2), .val (.int p3), .val (.int (1 : Int32)), .val (.int (1 : Int32)), .val (.ref ar), .val (.double gd), .second, .val .null, .unset, .unset, .unset] [(.ref gr), (.ref gr)])) _
        refine XS.iconst X127.here hx rfl (hb hby at_68) ?_
        show Steps p.tables e below (T127.setTop (mkF m 69 #[.val (.int p1), .val (.int p2), .val (.int p3), .val (.int (1 : Int32)), .val (.int (1 : Int32)), .val (.ref ar), .val (.double gd), .second, .val .null, .unset, .unset, .unset] [(.int (0 : Int32)), (.ref gr), (.ref gr)])) _
        refine XS.dload X127.here hx rfl (hb hby at_69) rfl ?_
        show Steps p.tables e below (T127.setTop (mkF m 71 #[.val (.int p1), .val (.int p2), .val (.int p3), .val (.int (1 : Int32)), .val (.int (1 : Int32)), .val (.ref ar), .val (.double gd), .second, .val .null, .unset, .unset, .unset] [(.double gd), (.int (0 : Int32)), (.ref gr), (.ref gr)])) _
        exact k)
      obtain ⟨T133, h133, X133, e133, W133, st133⟩ := OwnArr.stDA X127 hx hZ e127 F130 (j := (0 : Int32)) (J := 0) (by decide) (by decide) (g := (mkF m 71 #[.val (.int p1), .val (.int p2), .val (.int p3), .val (.int (1 : Int32)), .val (.int (1 : Int32)), .val (.ref ar), .val (.double gd), .second, .val .null, .unset, .unset, .unset] [(.double gd), (.int (0 : Int32)), (.ref gr), (.ref gr)])) rfl rfl (hb hby at_71)
      have F134 : OwnArr.Ag Z h133 gr .double 1 (fun i => if i = 0 then (.double gd) else (fun _ => (.double (0 : UInt64))) i) := (F130.set W133)
      have F135 : Exa Z h133 ar "[I" := (F128.wr W133)
      have F136 : OwnArr.Ag Z h133 ar .int 1 (fun i => if i = 0 then (.int p1) else (fun _ => (.int (0 : Int32))) i) := (F129.other W133 (Nat.ne_of_lt (Nat.lt_of_lt_of_le F123.lt (Nat.le_of_eq g127.symm))))
      have F137 : Exa Z h133 gr "[D" := (Ex127.wr W133)
      have N133 := Fr.snoc X133 N122 (Nat.le_trans (Nat.le_trans (Nat.le_trans Z0 E118.1) (Keep.of_wr W122).1) (Nat.le_of_eq g127.symm))
      have c138 : ∀ t, Steps p.tables e below (T133.setTop (mkF m 72 #[.val (.int p1), .val (.int p2), .val (.int p3), .val (.int (1 : Int32)), .val (.int (1 : Int32)), .val (.ref ar), .val (.double gd), .second, .val .null, .unset, .unset, .unset] [(.ref gr)])) t → Steps p.tables e below (s₁.setTop (entryFrame m #[(.int p1), (.int p2), (.int p3)] maxLocals)) t := fun t k => c132 t (st133 _ k)
      have c139 : ∀ t, Steps p.tables e below (T133.setTop (mkF m 80 #[.val (.int p1), .val (.int p2), .val (.int p3), .val (.int (1 : Int32)), .val (.int (1 : Int32)), .val (.ref ar), .val (.double gd), .second, .val (.ref gr), .unset, .unset, .unset] [])) t → Steps p.tables e below (s₁.setTop (entryFrame m #[(.int p1), (.int p2), (.int p3)] maxLocals)) t := fun t k => c138 t (by
        show Steps p.tables e below (T133.setTop (mkF m 72 #[.val (.int p1), .val (.int p2), .val (.int p3), .val (.int (1 : Int32)), .val (.int (1 : Int32)), .val (.ref ar), .val (.double gd), .second, .val .null, .unset, .unset, .unset] [(.ref gr)])) _
        refine XS.goto X133.here hx rfl (pc0 := 72) (pc' := 78) rfl (hb hby at_72) (by decide) (by decide) ?_
        show Steps p.tables e below (T133.setTop (mkF m 78 #[.val (.int p1), .val (.int p2), .val (.int p3), .val (.int (1 : Int32)), .val (.int (1 : Int32)), .val (.ref ar), .val (.double gd), .second, .val .null, .unset, .unset, .unset] [(.ref gr)])) _
        refine XS.astore X133.here hx rfl (hb hby at_78) rfl rfl (l' := #[.val (.int p1), .val (.int p2), .val (.int p3), .val (.int (1 : Int32)), .val (.int (1 : Int32)), .val (.ref ar), .val (.double gd), .second, .val (.ref gr), .unset, .unset, .unset]) rfl ?_
        show Steps p.tables e below (T133.setTop (mkF m 80 #[.val (.int p1), .val (.int p2), .val (.int p3), .val (.int (1 : Int32)), .val (.int (1 : Int32)), .val (.ref ar), .val (.double gd), .second, .val (.ref gr), .unset, .unset, .unset] [])) _
        exact k)
      obtain ⟨T140, h140, X140, e140, E140, A140, D140, -, st140⟩ := newO X133 hx hZ hown (hw _ (List.mem_of_getElem? (i := 2) rfl)) (hw _ (List.mem_of_getElem? (i := 3) rfl)) (hw _ (List.mem_of_getElem? (i := 4) rfl)) e133 (g := (mkF m 80 #[.val (.int p1), .val (.int p2), .val (.int p3), .val (.int (1 : Int32)), .val (.int (1 : Int32)), .val (.ref ar), .val (.double gd), .second, .val (.ref gr), .unset, .unset, .unset] [])) rfl (hb hby at_80) (by decide) (by decide)
      obtain ⟨ob, g140⟩ : ∃ z, z = h133.size := ⟨_, rfl⟩
      rw [← g140] at A140 D140 st140
      have F141 : Exa Z h140 ar "[I" := (F135.ext E140)
      have F142 : OwnArr.Ag Z h140 ar .int 1 (fun i => if i = 0 then (.int p1) else (fun _ => (.int (0 : Int32))) i) := (F136.ext E140)
      have F143 : Exa Z h140 gr "[D" := (F137.ext E140)
      have F144 : OwnArr.Ag Z h140 gr .double 1 (fun i => if i = 0 then (.double gd) else (fun _ => (.double (0 : UInt64))) i) := (F134.ext E140)
      have F145 : Fld Z h140 ob "com/example/topsail/topsail/exec/Answer" "objects" "[I" .null := (D140 (Or.inr (hw _ (List.mem_of_getElem? (i := 12) rfl))) (ty := (.array .int)) (by decide))
      have F146 : Fld Z h140 ob "com/example/topsail/topsail/exec/Answer" "grades" "[D" .null := (D140 (Or.inr (hw _ (List.mem_of_getElem? (i := 14) rfl))) (ty := (.array .double)) (by decide))
      have c147 : ∀ t, Steps p.tables e below (T140.setTop (mkF m 83 #[.val (.int p1), .val (.int p2), .val (.int p3), .val (.int (1 : Int32)), .val (.int (1 : Int32)), .val (.ref ar), .val (.double gd), .second, .val (.ref gr), .unset, .unset, .unset] [(.ref ob)])) t → Steps p.tables e below (s₁.setTop (entryFrame m #[(.int p1), (.int p2), (.int p3)] maxLocals)) t := fun t k => c139 t (st140 _ k)
      have c148 : ∀ t, Steps p.tables e below (T140.setTop (mkF m 88 #[.val (.int p1), .val (.int p2), .val (.int p3), .val (.int (1 : Int32)), .val (.int (1 : Int32)), .val (.ref ar), .val (.double gd), .second, .val (.ref gr), .unset, .unset, .unset] [(.ref gr), (.ref ar), (.ref ob), (.ref ob)])) t → Steps p.tables e below (s₁.setTop (entryFrame m #[(.int p1), (.int p2), (.int p3)] maxLocals)) t := fun t k => c147 t (by
        show Steps p.tables e below (T140.setTop (mkF m 83 #[.val (.int p1), .val (.int p2), .val (.int p3), .val (.int (1 : Int32)), .val (.int (1 : Int32)), .val (.ref ar), .val (.double gd), .second, .val (.ref gr), .unset, .unset, .unset] [(.ref ob)])) _
        refine XS.dup X140.here hx rfl (hb hby at_83) rfl rfl ?_
        show Steps p.tables e below (T140.setTop (mkF m 84 #[.val (.int p1), .val (.int p2), .val (.int p3), .val (.int (1 : Int32)), .val (.int (1 : Int32)), .val (.ref ar), .val (.double gd), .second, .val (.ref gr), .unset, .unset, .unset] [(.ref ob), (.ref ob)])) _
        refine XS.aload X140.here hx rfl (hb hby at_84) rfl rfl ?_
        show Steps p.tables e below (T140.setTop (mkF m 86 #[.val (.int p1), .val (.int p2), .val (.int p3), .val (.int (1 : Int32)), .val (.int (1 : Int32)), .val (.ref ar), .val (.double gd), .second, .val (.ref gr), .unset, .unset, .unset] [(.ref ar), (.ref ob), (.ref ob)])) _
        refine XS.aload X140.here hx rfl (hb hby at_86) rfl rfl ?_
        show Steps p.tables e below (T140.setTop (mkF m 88 #[.val (.int p1), .val (.int p2), .val (.int p3), .val (.int (1 : Int32)), .val (.int (1 : Int32)), .val (.ref ar), .val (.double gd), .second, .val (.ref gr), .unset, .unset, .unset] [(.ref gr), (.ref ar), (.ref ob), (.ref ob)])) _
        exact k)
      obtain ⟨_, _, ⟨T149, L149, k149', n149⟩, -, X149, ⟨Lc149, hQ149, l149, y149, z149⟩, st149⟩ := X140.specialBack hx (y := (⟨"com/example/topsail/topsail/exec/Answer", "<init>", "([I[D)V"⟩ : MethodName)) rfl hown (mvT hZ (hw _ (List.mem_of_getElem? (i := 5) rfl))) (mvT hZ (hw _ (List.mem_of_getElem? (i := 6) rfl))) (mvT hZ (hw _ (List.mem_of_getElem? (i := 7) rfl))) (by decide) (backOf (W := 1) (rm_in1 l Z a0 hw [] ob ar gr h140 n0 (Nat.le_trans (Nat.le_trans (Nat.le_trans (Nat.le_trans (Nat.le_trans Z0 E118.1) (Keep.of_wr W122).1) E127.1) (Keep.of_wr W133).1) E140.1) A140 F145 F146 (Nat.le_trans (Nat.le_trans (Nat.le_trans (Nat.le_trans (Nat.le_trans Z0 E118.1) (Keep.of_wr W122).1) E127.1) (Keep.of_wr W133).1) (Nat.le_of_eq g140.symm))) hZ (hw _ (List.mem_of_getElem? (i := 7) rfl)) (hw _ (List.mem_of_getElem? (i := 4) rfl)) (by decide) (by decide)) (g := (mkF m 88 #[.val (.int p1), .val (.int p2), .val (.int p3), .val (.int (1 : Int32)), .val (.int (1 : Int32)), .val (.ref ar), .val (.double gd), .second, .val (.ref gr), .unset, .unset, .unset] [(.ref gr), (.ref ar), (.ref ob), (.ref ob)])) rfl (by rw [hml]; rfl) (Steps.refl _) (a := ob) (argsL := [(.ref ar), (.ref gr)]) (rest := [(.ref ob)]) (lenOf pd___I_D_V rfl) rfl (by show 2 * 0 + _ ≤ _; exact Nat.le_of_eq rfl) (hb hby at_88) (fun _ _ => ⟨rfl, e140, (by decide : 3 + 0 ≤ _), (by decide : 4 + 0 ≤ _)⟩)
      dsimp only [Pt.U, Pt.locs, Pt.cells, Pt.slots] at X149 l149 y149 z149 st149 hQ149
      subst l149 y149 z149
      obtain ⟨rfl, N149, K149, G149_0, G149_1, G149_2⟩ := hQ149
      have M149 := Fr.app N133 N149
      have F150 : Exa Z T149.heap ar "[I" := (F141.keep K149)
      have F151 : OwnArr.Ag Z T149.heap ar .int 1 (fun i => if i = 0 then (.int p1) else (fun _ => (.int (0 : Int32))) i) := (F142.keep K149 (ninS (Nat.ne_of_lt (Nat.lt_of_lt_of_le F136.lt (Nat.le_of_eq g140.symm))) nin0))
      have F152 : Exa Z T149.heap gr "[D" := (F143.keep K149)
      have F153 : OwnArr.Ag Z T149.heap gr .double 1 (fun i => if i = 0 then (.double gd) else (fun _ => (.double (0 : UInt64))) i) := (F144.keep K149 (ninS (Nat.ne_of_lt (Nat.lt_of_lt_of_le F134.lt (Nat.le_of_eq g140.symm))) nin0))
      have F154 : Exa Z T149.heap ob "com/example/topsail/topsail/exec/Answer" := (A140.keep K149)
      have c155 : ∀ t, Steps p.tables e below (T149.setTop (mkF m 91 #[.val (.int p1), .val (.int p2), .val (.int p3), .val (.int (1 : Int32)), .val (.int (1 : Int32)), .val (.ref ar), .val (.double gd), .second, .val (.ref gr), .unset, .unset, .unset] [(.ref ob)])) t → Steps p.tables e below (s₁.setTop (entryFrame m #[(.int p1), (.int p2), (.int p3)] maxLocals)) t := fun t k => c148 t (st149.trans k)
      have c156 : ∀ t, Steps p.tables e below (T149.setTop (mkF m 95 #[.val (.int p1), .val (.int p2), .val (.int p3), .val (.int (1 : Int32)), .val (.int (1 : Int32)), .val (.ref ar), .val (.double gd), .second, .val (.ref gr), .val (.ref ob), .unset, .unset] [(.ref ar)])) t → Steps p.tables e below (s₁.setTop (entryFrame m #[(.int p1), (.int p2), (.int p3)] maxLocals)) t := fun t k => c155 t (by
        show Steps p.tables e below (T149.setTop (mkF m 91 #[.val (.int p1), .val (.int p2), .val (.int p3), .val (.int (1 : Int32)), .val (.int (1 : Int32)), .val (.ref ar), .val (.double gd), .second, .val (.ref gr), .unset, .unset, .unset] [(.ref ob)])) _
        refine XS.astore X149.here hx rfl (hb hby at_91) rfl rfl (l' := #[.val (.int p1), .val (.int p2), .val (.int p3), .val (.int (1 : Int32)), .val (.int (1 : Int32)), .val (.ref ar), .val (.double gd), .second, .val (.ref gr), .val (.ref ob), .unset, .unset]) rfl ?_
        show Steps p.tables e below (T149.setTop (mkF m 93 #[.val (.int p1), .val (.int p2), .val (.int p3), .val (.int (1 : Int32)), .val (.int (1 : Int32)), .val (.ref ar), .val (.double gd), .second, .val (.ref gr), .val (.ref ob), .unset, .unset] [])) _
        refine XS.aload X149.here hx rfl (hb hby at_93) rfl rfl ?_
        show Steps p.tables e below (T149.setTop (mkF m 95 #[.val (.int p1), .val (.int p2), .val (.int p3), .val (.int (1 : Int32)), .val (.int (1 : Int32)), .val (.ref ar), .val (.double gd), .second, .val (.ref gr), .val (.ref ob), .unset, .unset] [(.ref ar)])) _
        exact k)
      obtain ⟨_, _, ⟨T157, L157, k157', n157⟩, -, X157, ⟨Lc157, hQ157, l157, y157, z157⟩, st157⟩ := Jvm.LawKit.callS X149 hx (y := (⟨"com/example/topsail/topsail/exec/Answer", "unranked", "([I)Lcom/example/topsail/topsail/exec/Answer;"⟩ : MethodName)) hown (mvT hZ (hw _ (List.mem_of_getElem? (i := 15) rfl))) (mvT hZ (hw _ (List.mem_of_getElem? (i := 16) rfl))) (mvT hZ (hw _ (List.mem_of_getElem? (i := 4) rfl))) (mvT hZ (hw _ (List.mem_of_getElem? (i := 17) rfl))) (by decide) (backOf (W := 0) (rm_un l Z a0 hw [] ar (fun _ => p1) 1 T149.heap n0 (Nat.le_trans (Nat.le_trans (Nat.le_trans (Nat.le_trans (Nat.le_trans (Nat.le_trans Z0 E118.1) (Keep.of_wr W122).1) E127.1) (Keep.of_wr W133).1) E140.1) K149.1) (F151.congr (fun j hj => by rw [show j = 0 by omega]; rfl)) F150 (by decide)) hZ (hw _ (List.mem_of_getElem? (i := 17) rfl)) (hw _ (List.mem_of_getElem? (i := 4) rfl)) (by decide) (by decide)) (g := (mkF m 95 #[.val (.int p1), .val (.int p2), .val (.int p3), .val (.int (1 : Int32)), .val (.int (1 : Int32)), .val (.ref ar), .val (.double gd), .second, .val (.ref gr), .val (.ref ob), .unset, .unset] [(.ref ar)])) rfl (by rw [hml]; rfl) (argsL := [(.ref ar)]) (rest := []) (lenOf pd___I_Lcom_example_topsail_topsail_exec_Answer_ rfl) rfl (by show 2 * 0 + _ ≤ _; exact Nat.le_of_eq rfl) (hb hby at_95) (fun _ _ => ⟨rfl, rfl, (by decide : 3 + 2 ≤ _), (by decide : 4 + 3 ≤ _)⟩)
      dsimp only [Pt.U, Pt.locs, Pt.cells, Pt.slots] at X157 l157 y157 z157 st157 hQ157
      subst l157 y157 z157
      obtain ⟨pl, rfl, N157, K157, G157_0, G157_1⟩ := hQ157
      have M157 := Fr.app M149 N157
      have F158 : Exa Z T157.heap ar "[I" := (F150.keep K157)
      have F159 : OwnArr.Ag Z T157.heap ar .int 1 (fun i => if i = 0 then (.int p1) else (fun _ => (.int (0 : Int32))) i) := (F151.keep K157 nin0)
      have F160 : Exa Z T157.heap gr "[D" := (F152.keep K157)
      have F161 : OwnArr.Ag Z T157.heap gr .double 1 (fun i => if i = 0 then (.double gd) else (fun _ => (.double (0 : UInt64))) i) := (F153.keep K157 nin0)
      have F162 : Exa Z T157.heap ob "com/example/topsail/topsail/exec/Answer" := (G149_0.keep K157)
      have F163 : Fld Z T157.heap ob "com/example/topsail/topsail/exec/Answer" "objects" "[I" (.ref ar) := (G149_1.keep K157 nin0)
      have F164 : Fld Z T157.heap ob "com/example/topsail/topsail/exec/Answer" "grades" "[D" (.ref gr) := (G149_2.keep K157 nin0)
      have c165 : ∀ t, Steps p.tables e below (T157.setTop (mkF m 98 #[.val (.int p1), .val (.int p2), .val (.int p3), .val (.int (1 : Int32)), .val (.int (1 : Int32)), .val (.ref ar), .val (.double gd), .second, .val (.ref gr), .val (.ref ob), .unset, .unset] [(.ref pl)])) t → Steps p.tables e below (s₁.setTop (entryFrame m #[(.int p1), (.int p2), (.int p3)] maxLocals)) t := fun t k => c156 t (st157 _ k)
      have c166 : ∀ t, Steps p.tables e below (T157.setTop (mkF m 102 #[.val (.int p1), .val (.int p2), .val (.int p3), .val (.int (1 : Int32)), .val (.int (1 : Int32)), .val (.ref ar), .val (.double gd), .second, .val (.ref gr), .val (.ref ob), .val (.ref pl), .unset] [(.ref ob)])) t → Steps p.tables e below (s₁.setTop (entryFrame m #[(.int p1), (.int p2), (.int p3)] maxLocals)) t := fun t k => c165 t (by
        show Steps p.tables e below (T157.setTop (mkF m 98 #[.val (.int p1), .val (.int p2), .val (.int p3), .val (.int (1 : Int32)), .val (.int (1 : Int32)), .val (.ref ar), .val (.double gd), .second, .val (.ref gr), .val (.ref ob), .unset, .unset] [(.ref pl)])) _
        refine XS.astore X157.here hx rfl (hb hby at_98) rfl rfl (l' := #[.val (.int p1), .val (.int p2), .val (.int p3), .val (.int (1 : Int32)), .val (.int (1 : Int32)), .val (.ref ar), .val (.double gd), .second, .val (.ref gr), .val (.ref ob), .val (.ref pl), .unset]) rfl ?_
        show Steps p.tables e below (T157.setTop (mkF m 100 #[.val (.int p1), .val (.int p2), .val (.int p3), .val (.int (1 : Int32)), .val (.int (1 : Int32)), .val (.ref ar), .val (.double gd), .second, .val (.ref gr), .val (.ref ob), .val (.ref pl), .unset] [])) _
        refine XS.aload X157.here hx rfl (hb hby at_100) rfl rfl ?_
        show Steps p.tables e below (T157.setTop (mkF m 102 #[.val (.int p1), .val (.int p2), .val (.int p3), .val (.int (1 : Int32)), .val (.int (1 : Int32)), .val (.ref ar), .val (.double gd), .second, .val (.ref gr), .val (.ref ob), .val (.ref pl), .unset] [(.ref ob)])) _
        exact k)
      obtain ⟨cq167, kq167, q167a, q167b, q167c⟩ := isOf hZ rfl F162
      obtain ⟨_, _, ⟨T167, L167, k167', n167⟩, -, X167, ⟨Lc167, hQ167, l167, y167, z167⟩, st167⟩ := X157.virtualBack hx (y := (⟨"com/example/topsail/topsail/exec/Answer", "ranked", "()Z"⟩ : MethodName)) (z := (⟨"com/example/topsail/topsail/exec/Answer", "ranked", "()Z"⟩ : MethodName)) hown (mvT hZ (hw _ (List.mem_of_getElem? (i := 29) rfl))) (mvT hZ (hw _ (List.mem_of_getElem? (i := 30) rfl))) (notFace_of_selects (args := #[]) (mvT hZ (hw _ (List.mem_of_getElem? (i := 32) rfl)))) (mvT hZ (hw _ (List.mem_of_getElem? (i := 32) rfl))) (mvT hZ (hw _ (List.mem_of_getElem? (i := 31) rfl))) (by decide) (backOf (W := 0) (rm_rk1 l Z a0 hw [] ob gr T157.heap n0 (Nat.le_trans (Nat.le_trans (Nat.le_trans (Nat.le_trans (Nat.le_trans (Nat.le_trans (Nat.le_trans Z0 E118.1) (Keep.of_wr W122).1) E127.1) (Keep.of_wr W133).1) E140.1) K149.1) K157.1) F164) hZ (hw _ (List.mem_of_getElem? (i := 33) rfl)) (hw _ (List.mem_of_getElem? (i := 4) rfl)) (by decide) (by decide)) q167a q167c (g := (mkF m 102 #[.val (.int p1), .val (.int p2), .val (.int p3), .val (.int (1 : Int32)), .val (.int (1 : Int32)), .val (.ref ar), .val (.double gd), .second, .val (.ref gr), .val (.ref ob), .val (.ref pl), .unset] [(.ref ob)])) rfl (by rw [hml]; rfl) (Steps.refl _) (argsL := []) (rest := []) (lenOf pd___Z rfl) rfl (by show 2 * 0 + _ ≤ _; exact Nat.le_of_eq rfl) (hb hby at_102) (fun _ _ => ⟨rfl, rfl, (by decide : 5 + 0 ≤ _), (by decide : 7 + 0 ≤ _)⟩)
      dsimp only [Pt.U, Pt.locs, Pt.cells, Pt.slots] at X167 l167 y167 z167 st167 hQ167
      subst l167 y167 z167
      obtain ⟨rfl, N167, e167⟩ := hQ167
      have M167 := Fr.app M157 N167
      have c168 : ∀ t, Steps p.tables e below (T167.setTop (mkF m 105 #[.val (.int p1), .val (.int p2), .val (.int p3), .val (.int (1 : Int32)), .val (.int (1 : Int32)), .val (.ref ar), .val (.double gd), .second, .val (.ref gr), .val (.ref ob), .val (.ref pl), .unset] [(.int (1 : Int32))])) t → Steps p.tables e below (s₁.setTop (entryFrame m #[(.int p1), (.int p2), (.int p3)] maxLocals)) t := fun t k => c166 t (st167.trans k)
      have c169 : ∀ t, Steps p.tables e below (T167.setTop (mkF m 112 #[.val (.int p1), .val (.int p2), .val (.int p3), .val (.int (1 : Int32)), .val (.int (1 : Int32)), .val (.ref ar), .val (.double gd), .second, .val (.ref gr), .val (.ref ob), .val (.ref pl), .unset] [(.ref pl)])) t → Steps p.tables e below (s₁.setTop (entryFrame m #[(.int p1), (.int p2), (.int p3)] maxLocals)) t := fun t k => c168 t (by
        show Steps p.tables e below (T167.setTop (mkF m 105 #[.val (.int p1), .val (.int p2), .val (.int p3), .val (.int (1 : Int32)), .val (.int (1 : Int32)), .val (.ref ar), .val (.double gd), .second, .val (.ref gr), .val (.ref ob), .val (.ref pl), .unset] [(.int (1 : Int32))])) _
        refine XS.iload X167.here hx rfl (hb hby at_105) rfl ?_
        show Steps p.tables e below (T167.setTop (mkF m 107 #[.val (.int p1), .val (.int p2), .val (.int p3), .val (.int (1 : Int32)), .val (.int (1 : Int32)), .val (.ref ar), .val (.double gd), .second, .val (.ref gr), .val (.ref ob), .val (.ref pl), .unset] [(.int (1 : Int32)), (.int (1 : Int32))])) _
        refine XS.icmpNo X167.here hx rfl (hb hby at_107) rfl (XT.ii_ne_f (by decide)) ?_
        show Steps p.tables e below (T167.setTop (mkF m 110 #[.val (.int p1), .val (.int p2), .val (.int p3), .val (.int (1 : Int32)), .val (.int (1 : Int32)), .val (.ref ar), .val (.double gd), .second, .val (.ref gr), .val (.ref ob), .val (.ref pl), .unset] [])) _
        refine XS.aload X167.here hx rfl (hb hby at_110) rfl rfl ?_
        show Steps p.tables e below (T167.setTop (mkF m 112 #[.val (.int p1), .val (.int p2), .val (.int p3), .val (.int (1 : Int32)), .val (.int (1 : Int32)), .val (.ref ar), .val (.double gd), .second, .val (.ref gr), .val (.ref ob), .val (.ref pl), .unset] [(.ref pl)])) _
        exact k)
      obtain ⟨cq170, kq170, q170a, q170b, q170c⟩ := isOf hZ e167 G157_0
      obtain ⟨_, _, ⟨T170, L170, k170', n170⟩, -, X170, ⟨Lc170, hQ170, l170, y170, z170⟩, st170⟩ := X167.virtualBack hx (y := (⟨"com/example/topsail/topsail/exec/Answer", "ranked", "()Z"⟩ : MethodName)) (z := (⟨"com/example/topsail/topsail/exec/Answer", "ranked", "()Z"⟩ : MethodName)) hown (mvT hZ (hw _ (List.mem_of_getElem? (i := 29) rfl))) (mvT hZ (hw _ (List.mem_of_getElem? (i := 30) rfl))) (notFace_of_selects (args := #[]) (mvT hZ (hw _ (List.mem_of_getElem? (i := 32) rfl)))) (mvT hZ (hw _ (List.mem_of_getElem? (i := 32) rfl))) (mvT hZ (hw _ (List.mem_of_getElem? (i := 31) rfl))) (by decide) (backOf (W := 0) (rm_rk0 l Z a0 hw [] pl T157.heap n0 (Nat.le_trans (Nat.le_trans (Nat.le_trans (Nat.le_trans (Nat.le_trans (Nat.le_trans (Nat.le_trans Z0 E118.1) (Keep.of_wr W122).1) E127.1) (Keep.of_wr W133).1) E140.1) K149.1) K157.1) G157_1) hZ (hw _ (List.mem_of_getElem? (i := 33) rfl)) (hw _ (List.mem_of_getElem? (i := 4) rfl)) (by decide) (by decide)) q170a q170c (g := (mkF m 112 #[.val (.int p1), .val (.int p2), .val (.int p3), .val (.int (1 : Int32)), .val (.int (1 : Int32)), .val (.ref ar), .val (.double gd), .second, .val (.ref gr), .val (.ref ob), .val (.ref pl), .unset] [(.ref pl)])) rfl (by rw [hml]; rfl) (Steps.refl _) (argsL := []) (rest := []) (lenOf pd___Z rfl) rfl (by show 2 * 0 + _ ≤ _; exact Nat.le_of_eq rfl) (hb hby at_112) (fun _ _ => ⟨rfl, e167, (by decide : 5 + 0 ≤ _), (by decide : 7 + 0 ≤ _)⟩)
      dsimp only [Pt.U, Pt.locs, Pt.cells, Pt.slots] at X170 l170 y170 z170 st170 hQ170
      subst l170 y170 z170
      obtain ⟨rfl, N170, e170⟩ := hQ170
      have M170 := Fr.app M167 N170
      have c171 : ∀ t, Steps p.tables e below (T170.setTop (mkF m 115 #[.val (.int p1), .val (.int p2), .val (.int p3), .val (.int (1 : Int32)), .val (.int (1 : Int32)), .val (.ref ar), .val (.double gd), .second, .val (.ref gr), .val (.ref ob), .val (.ref pl), .unset] [(.int (0 : Int32))])) t → Steps p.tables e below (s₁.setTop (entryFrame m #[(.int p1), (.int p2), (.int p3)] maxLocals)) t := fun t k => c169 t (st170.trans k)
      have c172 : ∀ t, Steps p.tables e below (T170.setTop (mkF m 142 #[.val (.int p1), .val (.int p2), .val (.int p3), .val (.int (1 : Int32)), .val (.int (1 : Int32)), .val (.ref ar), .val (.double gd), .second, .val (.ref gr), .val (.ref ob), .val (.ref pl), .val (.int (1 : Int32))] [(.int (0 : Int32)), (.ref ob)])) t → Steps p.tables e below (s₁.setTop (entryFrame m #[(.int p1), (.int p2), (.int p3)] maxLocals)) t := fun t k => c171 t (by
        show Steps p.tables e below (T170.setTop (mkF m 115 #[.val (.int p1), .val (.int p2), .val (.int p3), .val (.int (1 : Int32)), .val (.int (1 : Int32)), .val (.ref ar), .val (.double gd), .second, .val (.ref gr), .val (.ref ob), .val (.ref pl), .unset] [(.int (0 : Int32))])) _
        refine XS.ifNo X170.here hx rfl (hb hby at_115) rfl (XT.i0_ne_f (by decide)) ?_
        show Steps p.tables e below (T170.setTop (mkF m 118 #[.val (.int p1), .val (.int p2), .val (.int p3), .val (.int (1 : Int32)), .val (.int (1 : Int32)), .val (.ref ar), .val (.double gd), .second, .val (.ref gr), .val (.ref ob), .val (.ref pl), .unset] [])) _
        refine XS.iconst X170.here hx rfl (hb hby at_118) ?_
        show Steps p.tables e below (T170.setTop (mkF m 119 #[.val (.int p1), .val (.int p2), .val (.int p3), .val (.int (1 : Int32)), .val (.int (1 : Int32)), .val (.ref ar), .val (.double gd), .second, .val (.ref gr), .val (.ref ob), .val (.ref pl), .unset] [(.int (1 : Int32))])) _
        refine XS.goto X170.here hx rfl (pc0 := 119) (pc' := 123) rfl (hb hby at_119) (by decide) (by decide) ?_
        show Steps p.tables e below (T170.setTop (mkF m 123 #[.val (.int p1), .val (.int p2), .val (.int p3), .val (.int (1 : Int32)), .val (.int (1 : Int32)), .val (.ref ar), .val (.double gd), .second, .val (.ref gr), .val (.ref ob), .val (.ref pl), .unset] [(.int (1 : Int32))])) _
        refine XS.istore X170.here hx rfl (hb hby at_123) rfl (l' := #[.val (.int p1), .val (.int p2), .val (.int p3), .val (.int (1 : Int32)), .val (.int (1 : Int32)), .val (.ref ar), .val (.double gd), .second, .val (.ref gr), .val (.ref ob), .val (.ref pl), .val (.int (1 : Int32))]) rfl ?_
        show Steps p.tables e below (T170.setTop (mkF m 125 #[.val (.int p1), .val (.int p2), .val (.int p3), .val (.int (1 : Int32)), .val (.int (1 : Int32)), .val (.ref ar), .val (.double gd), .second, .val (.ref gr), .val (.ref ob), .val (.ref pl), .val (.int (1 : Int32))] [])) _
        refine XS.iload X170.here hx rfl (hb hby at_125) rfl ?_
        show Steps p.tables e below (T170.setTop (mkF m 127 #[.val (.int p1), .val (.int p2), .val (.int p3), .val (.int (1 : Int32)), .val (.int (1 : Int32)), .val (.ref ar), .val (.double gd), .second, .val (.ref gr), .val (.ref ob), .val (.ref pl), .val (.int (1 : Int32))] [(.int (1 : Int32))])) _
        refine XS.ifNo X170.here hx rfl (hb hby at_127) rfl (XT.i0_eq_f (by decide)) ?_
        show Steps p.tables e below (T170.setTop (mkF m 130 #[.val (.int p1), .val (.int p2), .val (.int p3), .val (.int (1 : Int32)), .val (.int (1 : Int32)), .val (.ref ar), .val (.double gd), .second, .val (.ref gr), .val (.ref ob), .val (.ref pl), .val (.int (1 : Int32))] [])) _
        refine XS.iloadN X170.here hx rfl (hb hby at_130) rfl ?_
        show Steps p.tables e below (T170.setTop (mkF m 131 #[.val (.int p1), .val (.int p2), .val (.int p3), .val (.int (1 : Int32)), .val (.int (1 : Int32)), .val (.ref ar), .val (.double gd), .second, .val (.ref gr), .val (.ref ob), .val (.ref pl), .val (.int (1 : Int32))] [(.int (1 : Int32))])) _
        refine XS.ifNo X170.here hx rfl (hb hby at_131) rfl (XT.i0_eq_f (by decide)) ?_
        show Steps p.tables e below (T170.setTop (mkF m 134 #[.val (.int p1), .val (.int p2), .val (.int p3), .val (.int (1 : Int32)), .val (.int (1 : Int32)), .val (.ref ar), .val (.double gd), .second, .val (.ref gr), .val (.ref ob), .val (.ref pl), .val (.int (1 : Int32))] [])) _
        refine XS.iload X170.here hx rfl (hb hby at_134) rfl ?_
        show Steps p.tables e below (T170.setTop (mkF m 136 #[.val (.int p1), .val (.int p2), .val (.int p3), .val (.int (1 : Int32)), .val (.int (1 : Int32)), .val (.ref ar), .val (.double gd), .second, .val (.ref gr), .val (.ref ob), .val (.ref pl), .val (.int (1 : Int32))] [(.int (1 : Int32))])) _
        refine XS.ifNo X170.here hx rfl (hb hby at_136) rfl (XT.i0_eq_f (by decide)) ?_
        show Steps p.tables e below (T170.setTop (mkF m 139 #[.val (.int p1), .val (.int p2), .val (.int p3), .val (.int (1 : Int32)), .val (.int (1 : Int32)), .val (.ref ar), .val (.double gd), .second, .val (.ref gr), .val (.ref ob), .val (.ref pl), .val (.int (1 : Int32))] [])) _
        refine XS.aload X170.here hx rfl (hb hby at_139) rfl rfl ?_
        show Steps p.tables e below (T170.setTop (mkF m 141 #[.val (.int p1), .val (.int p2), .val (.int p3), .val (.int (1 : Int32)), .val (.int (1 : Int32)), .val (.ref ar), .val (.double gd), .second, .val (.ref gr), .val (.ref ob), .val (.ref pl), .val (.int (1 : Int32))] [(.ref ob)])) _
        refine XS.iconst X170.here hx rfl (hb hby at_141) ?_
        show Steps p.tables e below (T170.setTop (mkF m 142 #[.val (.int p1), .val (.int p2), .val (.int p3), .val (.int (1 : Int32)), .val (.int (1 : Int32)), .val (.ref ar), .val (.double gd), .second, .val (.ref gr), .val (.ref ob), .val (.ref pl), .val (.int (1 : Int32))] [(.int (0 : Int32)), (.ref ob)])) _
        exact k)
      obtain ⟨cq173, kq173, q173a, q173b, q173c⟩ := isOf hZ e170 F162
      obtain ⟨_, _, ⟨T173, L173, k173', n173⟩, -, X173, ⟨Lc173, hQ173, l173, y173, z173⟩, st173⟩ := X170.virtualBack hx (y := (⟨"com/example/topsail/topsail/exec/Answer", "grade", "(I)D"⟩ : MethodName)) (z := (⟨"com/example/topsail/topsail/exec/Answer", "grade", "(I)D"⟩ : MethodName)) hown (mvT hZ (hw _ (List.mem_of_getElem? (i := 34) rfl))) (mvT hZ (hw _ (List.mem_of_getElem? (i := 35) rfl))) (notFace_of_selects (args := #[]) (mvT hZ (hw _ (List.mem_of_getElem? (i := 37) rfl)))) (mvT hZ (hw _ (List.mem_of_getElem? (i := 37) rfl))) (mvT hZ (hw _ (List.mem_of_getElem? (i := 36) rfl))) (by decide) (backOf (W := 0) (rm_gr l Z a0 hw [] ob gr gd T157.heap n0 (Nat.le_trans (Nat.le_trans (Nat.le_trans (Nat.le_trans (Nat.le_trans (Nat.le_trans (Nat.le_trans Z0 E118.1) (Keep.of_wr W122).1) E127.1) (Keep.of_wr W133).1) E140.1) K149.1) K157.1) F164 (F161.congr (fun j hj => by rw [show j = 0 by omega]; rfl))) hZ (hw _ (List.mem_of_getElem? (i := 38) rfl)) (hw _ (List.mem_of_getElem? (i := 4) rfl)) (by decide) (by decide)) q173a q173c (g := (mkF m 142 #[.val (.int p1), .val (.int p2), .val (.int p3), .val (.int (1 : Int32)), .val (.int (1 : Int32)), .val (.ref ar), .val (.double gd), .second, .val (.ref gr), .val (.ref ob), .val (.ref pl), .val (.int (1 : Int32))] [(.int (0 : Int32)), (.ref ob)])) rfl (by rw [hml]; rfl) (Steps.refl _) (argsL := [(.int (0 : Int32))]) (rest := []) (lenOf pd__I_D rfl) rfl (by show 2 * 0 + _ ≤ _; exact Nat.le_of_eq rfl) (hb hby at_142) (fun _ _ => ⟨rfl, e170, (by decide : 5 + 0 ≤ _), (by decide : 7 + 0 ≤ _)⟩)
      dsimp only [Pt.U, Pt.locs, Pt.cells, Pt.slots] at X173 l173 y173 z173 st173 hQ173
      subst l173 y173 z173
      obtain ⟨rfl, N173, e173⟩ := hQ173
      have M173 := Fr.app M170 N173
      have c174 : ∀ t, Steps p.tables e below (T173.setTop (mkF m 145 #[.val (.int p1), .val (.int p2), .val (.int p3), .val (.int (1 : Int32)), .val (.int (1 : Int32)), .val (.ref ar), .val (.double gd), .second, .val (.ref gr), .val (.ref ob), .val (.ref pl), .val (.int (1 : Int32))] [(.double gd)])) t → Steps p.tables e below (s₁.setTop (entryFrame m #[(.int p1), (.int p2), (.int p3)] maxLocals)) t := fun t k => c172 t (st173.trans k)
      obtain ⟨k147, hk147⟩ : ∃ v : Int32, cmpValue (FP.dcmp gd gd) .l = v := ⟨_, rfl⟩
      have e147 : k147 = 0 := hk147 ▸ cmp_eq (notNan Dg) (notNan Dg) rfl .l
      have c175 : ∀ t, Steps p.tables e below (T173.setTop (mkF m 160 #[.val (.int p1), .val (.int p2), .val (.int p3), .val (.int (1 : Int32)), .val (.int (1 : Int32)), .val (.ref ar), .val (.double gd), .second, .val (.ref gr), .val (.ref ob), .val (.ref pl), .val (.int (1 : Int32))] [(.int (1 : Int32))])) t → Steps p.tables e below (s₁.setTop (entryFrame m #[(.int p1), (.int p2), (.int p3)] maxLocals)) t := fun t k => c174 t (by
        show Steps p.tables e below (T173.setTop (mkF m 145 #[.val (.int p1), .val (.int p2), .val (.int p3), .val (.int (1 : Int32)), .val (.int (1 : Int32)), .val (.ref ar), .val (.double gd), .second, .val (.ref gr), .val (.ref ob), .val (.ref pl), .val (.int (1 : Int32))] [(.double gd)])) _
        refine XS.dload X173.here hx rfl (hb hby at_145) rfl ?_
        show Steps p.tables e below (T173.setTop (mkF m 147 #[.val (.int p1), .val (.int p2), .val (.int p3), .val (.int (1 : Int32)), .val (.int (1 : Int32)), .val (.ref ar), .val (.double gd), .second, .val (.ref gr), .val (.ref ob), .val (.ref pl), .val (.int (1 : Int32))] [(.double gd), (.double gd)])) _
        refine XS.dcmpS X173.here hx rfl (hb hby at_147) rfl hk147 ?_
        show Steps p.tables e below (T173.setTop (mkF m 148 #[.val (.int p1), .val (.int p2), .val (.int p3), .val (.int (1 : Int32)), .val (.int (1 : Int32)), .val (.ref ar), .val (.double gd), .second, .val (.ref gr), .val (.ref ob), .val (.ref pl), .val (.int (1 : Int32))] [(.int k147)])) _
        refine XS.ifNo X173.here hx rfl (hb hby at_148) rfl (XT.i0_ne_f e147) ?_
        show Steps p.tables e below (T173.setTop (mkF m 151 #[.val (.int p1), .val (.int p2), .val (.int p3), .val (.int (1 : Int32)), .val (.int (1 : Int32)), .val (.ref ar), .val (.double gd), .second, .val (.ref gr), .val (.ref ob), .val (.ref pl), .val (.int (1 : Int32))] [])) _
        refine XS.iconst X173.here hx rfl (hb hby at_151) ?_
        show Steps p.tables e below (T173.setTop (mkF m 152 #[.val (.int p1), .val (.int p2), .val (.int p3), .val (.int (1 : Int32)), .val (.int (1 : Int32)), .val (.ref ar), .val (.double gd), .second, .val (.ref gr), .val (.ref ob), .val (.ref pl), .val (.int (1 : Int32))] [(.int (1 : Int32))])) _
        refine XS.goto X173.here hx rfl (pc0 := 152) (pc' := 156) rfl (hb hby at_152) (by decide) (by decide) ?_
        show Steps p.tables e below (T173.setTop (mkF m 156 #[.val (.int p1), .val (.int p2), .val (.int p3), .val (.int (1 : Int32)), .val (.int (1 : Int32)), .val (.ref ar), .val (.double gd), .second, .val (.ref gr), .val (.ref ob), .val (.ref pl), .val (.int (1 : Int32))] [(.int (1 : Int32))])) _
        refine XS.istore X173.here hx rfl (hb hby at_156) rfl (l' := #[.val (.int p1), .val (.int p2), .val (.int p3), .val (.int (1 : Int32)), .val (.int (1 : Int32)), .val (.ref ar), .val (.double gd), .second, .val (.ref gr), .val (.ref ob), .val (.ref pl), .val (.int (1 : Int32))]) rfl ?_
        show Steps p.tables e below (T173.setTop (mkF m 158 #[.val (.int p1), .val (.int p2), .val (.int p3), .val (.int (1 : Int32)), .val (.int (1 : Int32)), .val (.ref ar), .val (.double gd), .second, .val (.ref gr), .val (.ref ob), .val (.ref pl), .val (.int (1 : Int32))] [])) _
        refine XS.iload X173.here hx rfl (hb hby at_158) rfl ?_
        show Steps p.tables e below (T173.setTop (mkF m 160 #[.val (.int p1), .val (.int p2), .val (.int p3), .val (.int (1 : Int32)), .val (.int (1 : Int32)), .val (.ref ar), .val (.double gd), .second, .val (.ref gr), .val (.ref ob), .val (.ref pl), .val (.int (1 : Int32))] [(.int (1 : Int32))])) _
        exact k)
      obtain ⟨fs, hr, hrun, hended, hW, hsame⟩ := X173.leave (v := (some (.int (1 : Int32)))) (fun h => by rw [Bd.returns] at h; cases h)
      refine ⟨_, _, pre0 _ (c175 _ (retN X173 hx (t := .boolean) Bd.returns (by simp) (hb hby at_160) hr)), hrun, hended, _, _, rfl, ?_, ⟨_, rfl⟩, hW, hsame.mono (by decide) (by decide)⟩
      show Q_0 Z p1 p2 p3 h0 n0 _ T173.heap _
      rw [e173]
      exact ⟨rfl, M173⟩
set_option maxRecDepth 65536 in
set_option maxHeartbeats 40000000 in
theorem comes_1 {Post : Tables → Env → Array Value → State → Outcome → State → Prop} (hpost : ∀ tb e args s v u, (limb_1_1.after args s (.returned v) u = true ∧ limb_1_2.after args s (.returned v) u = true ∧ True) → FrameEnd s (.returned v) u (Jvm.fieldLocs frame_1_writes args s ++ Jvm.arrayLocs frame_1_arrays args s ++ Jvm.staticLocs frame_1_statics s) 24 128 → Post tb e args s (.returned v) u) :
    ArmFor flags0 classFile x code maxLocals ret World_1 tables_1 room_1 Calls_1 rest_1 Pre_1 Post := by
  intro l hfl _ _ p e ha hc hk s m args below hf hA hF happ hP
  obtain ⟨hcalls, hrest, hpre⟩ := hP
  obtain ⟨-, -, -, hnamed, -, -, -, hat⟩ := (Spec.applies_iff hf).mp happ
  obtain ⟨hg, hn⟩ := and_e (Cond.before_iff.mp (show (Jvm.Cond.and given_1 narrow_1).before args s = true from hpre))
  obtain ⟨g0, r0⟩ := and_e hg
  obtain ⟨g1, r1⟩ := and_e r0
  obtain ⟨g2, r2⟩ := and_e r1
  obtain ⟨w0, w1, w2, rfl⟩ : ∃ w0 w1 w2 : Value, args = #[w0, w1, w2] := by
    have hs : args.size = 3 := by simpa [Cond.value, given_1] using g0
    obtain ⟨L⟩ := args
    match L, hs with
    | [w0, w1, w2], _ => exact ⟨w0, w1, w2, rfl⟩
  have hw := fun d (hd : d ∈ tables_1) => atoms_spec (ws := Jvm.Cond.code x code maxLocals ret :: tables_1) hat d (List.mem_cons_of_mem _ hd)
  obtain ⟨i0, e0⟩ := is_v g1
  obtain rfl : w0 = (.int i0) := Option.some.inj e0
  obtain ⟨i1, e1⟩ := is_v g2
  obtain rfl : w1 = (.int i1) := Option.some.inj e1
  obtain ⟨i2, e2⟩ := is_v r2
  obtain rfl : w2 = (.int i2) := Option.some.inj e2
  obtain ⟨n, o, h1, h2, h3, _, L, rfl, ⟨rfl, N⟩, hq⟩ := rm_0 l s _ hw tables_1 i0 i1 i2 s.heap s.heap.size (Nat.le_refl _)  p e ha hc hk s m _ below hf ((Spec.applies_iff_loose hf).mp happ).1 ⟨rfl, State.Warmed39.refl s, rfl⟩ trivial
  refine ⟨n, _, h1, h2, h3, hpost _ _ _ _ _ _ ⟨Cond.after_iff.mpr rfl, Cond.after_iff.mpr (eq_i res_at (Term.int_eval (1)) rfl), trivial⟩ ⟨hq.1, hq.2.1, (hq.2.2.sift fun y hy => Or.inr (N y hy)).mono (by decide) (by decide)⟩⟩
theorem main_1_1 : Claimed_1_1 := comes_1 fun _ _ _ _ _ _ h hF => ⟨h.1, hF⟩
theorem main_1_2 : Claimed_1_2 := comes_1 fun _ _ _ _ _ _ h hF => ⟨h.2.1, hF⟩
end Jvm.Pilot.@@N@@
namespace Jvm.Pilot.@@N@@
open Jvm Jvm.ClassFile Sem Op Lib Jvm.Free Jvm.Stand Jvm.Pilot.@@N@@.Jvm.D
/-! MADE BY PROGRAM (witnessworld.py) out of the Statement's table words and the real class files: 11 classes; the members and pool entries that the words name. The judged class is class 1, her method 1. -/
namespace start1
open Jvm.ClassFile
def u (s : String) : CpInfo := .utf8 (stringToUtf16 s)
/-- a pool by its gaps: so many unusable entries, then the entry; so many at the end -/
def gap : Nat → List CpInfo → List CpInfo
  | 0, r => r
  | n + 1, r => .unusable :: gap n r
def poolList (es : List (Nat × CpInfo)) (last : Nat) : List CpInfo := es.foldr (fun e r => gap e.1 (e.2 :: r)) (gap last [])
def pool (es : List (Nat × CpInfo)) (last : Nat) : Array CpInfo := ⟨poolList es last⟩
def fileOf (pool : Array CpInfo) (this : Nat) (attrs : Array Attribute := #[]) (ms : Array MethodInfo := #[]) (fl : Nat := 33) (sup : Nat := 0) (ifs : Array Nat := #[]) (fds : Array FieldInfo := #[]) : ClassFile where
  minorVersion := 0
  majorVersion := 65
  constantPool := pool
  accessFlags := fl
  thisClass := this
  superClass := sup
  interfaces := ifs
  fields := fds
  methods := ms
  attributes := attrs
def plain (name : String) (sup : Option ClassId) : Class where
  name := name
  kind := .ordinary
  loader := none
  accessFlags := 33
  super := sup
  interfaces := #[]
  cf := none
  fields := #[]
  methods := #[]
  instanceTypes := #[]
  staticTypes := #[]
  resolved := #[]
  callSites := []
  init := .initialized
  statics := none
  mirror := none

def pool0 : Array CpInfo := pool [(5, u "<init>"), (0, u "()V"), (1, .class_ 10), (1, u "java/lang/Object"), (85, u "clone"), (0, u "()Ljava/lang/Object;")] 26

def k0c0 : Code := { maxStack := 0, maxLocals := 1, code := object_method_1_code, exceptionTable := #[], attributes := #[] }
def k0m0 : Method := { name := "<init>", desc := "()V", sig := { parameters := [], returnType := none }, accessFlags := 1, code := some k0c0 }
def k0m1 : Method := { name := "clone", desc := "()Ljava/lang/Object;", sig := { parameters := [], returnType := some (.object "java/lang/Object") }, accessFlags := 260, code := none }
/-- java/lang/Object -/
def k0 : Class := { plain "java/lang/Object" none with
  accessFlags := 33
  interfaces := #[]
  cf := some (fileOf pool0 8 #[] #[{ accessFlags := 1, nameIndex := 5, descriptorIndex := 6, attributes := #[] }, { accessFlags := 260, nameIndex := 96, descriptorIndex := 97, attributes := #[] }] 33 0 #[] #[])
  fields := #[]
  methods := #[k0m0, k0m1]
  instanceTypes := #[]
  staticTypes := #[]
  resolved := Array.replicate 124 none
  statics := none }

def pool1 : Array CpInfo := pool [(2, .class_ 4), (1, u "java/lang/Object"), (0, u "<init>"), (0, u "()V"), (0, .class_ 8), (0, u "com/example/topsail/topsail/exec/Answer"), (0, .methodref 7 10), (0, .nameAndType 5 11), (0, u "([I[D)V"), (0, .methodref 7 13), (0, .nameAndType 14 15), (0, u "unranked"), (0, u "([I)Lcom/example/topsail/topsail/exec/Answer;"), (0, .methodref 7 17), (0, .nameAndType 18 19), (0, u "ranked"), (0, u "()Z"), (0, .methodref 7 21), (0, .nameAndType 22 23), (0, u "grade"), (0, u "(I)D"), (0, .class_ 25), (0, u "com/example/topsail/topsail/exec/AnswerRankedPinLaw"), (2, u "law"), (0, u "(III)Z")] 7

def k1m0 : Method := { name := "<init>", desc := "()V", sig := { parameters := [], returnType := none }, accessFlags := 1, code := none }
def k1c1 : Code := { maxStack := 5, maxLocals := 12, code := code, exceptionTable := #[], attributes := #[] }
def k1m1 : Method := { name := "law", desc := "(III)Z", sig := { parameters := [.int, .int, .int], returnType := some .boolean }, accessFlags := 9, code := some k1c1 }
/-- com/example/topsail/topsail/exec/AnswerRankedPinLaw -/
def k1 : Class := { plain "com/example/topsail/topsail/exec/AnswerRankedPinLaw" (some 0) with
  accessFlags := 49
  interfaces := #[]
  cf := some (fileOf pool1 24 #[] #[{ accessFlags := 1, nameIndex := 5, descriptorIndex := 6, attributes := #[] }, { accessFlags := 9, nameIndex := 28, descriptorIndex := 29, attributes := #[] }] 49 2 #[] #[])
  fields := #[]
  methods := #[k1m0, k1m1]
  instanceTypes := #[]
  staticTypes := #[]
  resolved := Array.replicate 37 none
  statics := none }

def pool2 : Array CpInfo := pool [(1, .methodref 2 3), (0, .class_ 4), (0, .nameAndType 5 6), (0, u "java/lang/Object"), (0, u "<init>"), (0, u "()V"), (0, .fieldref 8 9), (0, .class_ 10), (0, .nameAndType 11 12), (0, u "com/example/topsail/topsail/exec/Answer"), (0, u "objects"), (0, u "[I"), (0, .fieldref 8 14), (0, .nameAndType 15 16), (0, u "grades"), (0, u "[D"), (0, .methodref 18 19), (0, .class_ 12), (0, .nameAndType 20 21), (0, u "clone"), (0, u "()Ljava/lang/Object;"), (0, .methodref 8 23), (0, .nameAndType 5 24), (0, u "([I[D)V"), (31, u "unranked"), (0, u "([I)Lcom/example/topsail/topsail/exec/Answer;"), (7, u "ranked"), (0, u "()Z"), (0, u "grade"), (0, u "(I)D")] 3

def k2c0 : Code := { maxStack := 2, maxLocals := 3, code := prog_5_method_1_code, exceptionTable := #[], attributes := #[] }
def k2m0 : Method := { name := "<init>", desc := "([I[D)V", sig := { parameters := [(.array .int), (.array .double)], returnType := none }, accessFlags := 0, code := some k2c0 }
def k2c1 : Code := { maxStack := 4, maxLocals := 1, code := prog_5_method_2_code, exceptionTable := #[], attributes := #[] }
def k2m1 : Method := { name := "unranked", desc := "([I)Lcom/example/topsail/topsail/exec/Answer;", sig := { parameters := [(.array .int)], returnType := some (.object "com/example/topsail/topsail/exec/Answer") }, accessFlags := 9, code := some k2c1 }
def k2c2 : Code := { maxStack := 1, maxLocals := 1, code := prog_5_method_6_code, exceptionTable := #[], attributes := #[] }
def k2m2 : Method := { name := "ranked", desc := "()Z", sig := { parameters := [], returnType := some .boolean }, accessFlags := 1, code := some k2c2 }
def k2c3 : Code := { maxStack := 2, maxLocals := 2, code := prog_5_method_7_code, exceptionTable := #[], attributes := #[] }
def k2m3 : Method := { name := "grade", desc := "(I)D", sig := { parameters := [.int], returnType := some .double }, accessFlags := 1, code := some k2c3 }
/-- com/example/topsail/topsail/exec/Answer -/
def k2 : Class := { plain "com/example/topsail/topsail/exec/Answer" (some 0) with
  accessFlags := 33
  interfaces := #[]
  cf := some (fileOf pool2 8 #[] #[{ accessFlags := 0, nameIndex := 5, descriptorIndex := 24, attributes := #[] }, { accessFlags := 9, nameIndex := 56, descriptorIndex := 57, attributes := #[] }, { accessFlags := 1, nameIndex := 65, descriptorIndex := 66, attributes := #[] }, { accessFlags := 1, nameIndex := 67, descriptorIndex := 68, attributes := #[] }] 33 2 #[] #[{ accessFlags := 18, nameIndex := 11, descriptorIndex := 12, attributes := #[] }, { accessFlags := 18, nameIndex := 15, descriptorIndex := 16, attributes := #[] }])
  fields := #[{ name := "objects", type := (.array .int), accessFlags := 18, slot := 0, constantValue := 0 }, { name := "grades", type := (.array .double), accessFlags := 18, slot := 1, constantValue := 0 }]
  methods := #[k2m0, k2m1, k2m2, k2m3]
  instanceTypes := #[(.array .int), (.array .double)]
  staticTypes := #[]
  resolved := Array.replicate 72 none
  statics := none }

def pool3 : Array CpInfo := pool [(1, .class_ 2), (0, u "java/lang/Cloneable"), (0, .class_ 4), (0, u "java/lang/Object")] 2

/-- java/lang/Cloneable -/
def k3 : Class := { plain "java/lang/Cloneable" (some 0) with
  accessFlags := 1537
  interfaces := #[]
  cf := some (fileOf pool3 1 #[] #[] 1537 3 #[] #[])
  fields := #[]
  methods := #[]
  instanceTypes := #[]
  staticTypes := #[]
  resolved := Array.replicate 7 none
  statics := none }

def pool4 : Array CpInfo := pool [(1, u "java/io/Serializable"), (0, .class_ 1), (0, u "java/lang/Object"), (0, .class_ 3)] 3

/-- java/io/Serializable -/
def k4 : Class := { plain "java/io/Serializable" (some 0) with
  accessFlags := 1537
  interfaces := #[]
  cf := some (fileOf pool4 2 #[] #[] 1537 4 #[] #[])
  fields := #[]
  methods := #[]
  instanceTypes := #[]
  staticTypes := #[]
  resolved := Array.replicate 8 none
  statics := none }

/-- the primitive byte -/
def k5 : Class := { plain "byte" none with kind := .primitive 'B', accessFlags := 0x411 }
/-- [B -/
def k6 : Class := { plain "[B" (some 0) with kind := .array 5 .byte, interfaces := #[3, 4], accessFlags := 1041 }

/-- the primitive double -/
def k7 : Class := { plain "double" none with kind := .primitive 'D', accessFlags := 0x411 }
/-- [D -/
def k8 : Class := { plain "[D" (some 0) with kind := .array 7 .double, interfaces := #[3, 4], accessFlags := 1041 }

/-- the primitive int -/
def k9 : Class := { plain "int" none with kind := .primitive 'I', accessFlags := 0x411 }
/-- [I -/
def k10 : Class := { plain "[I" (some 0) with kind := .array 9 .int, interfaces := #[3, 4], accessFlags := 1041 }

def heap : Heap := #[]
def classes : Array Class := #[k0, k1, k2, k3, k4, k5, k6, k7, k8, k9, k10]
def interned : List (Array UInt16 × Addr) := []
def slotsUsed : Nat := 0
def theMethod : MethodId := ⟨1, 1⟩
def args0 : Array Value := #[.int 1, .int 2, .int 3]
def aboutOver (below : List Frame) : State where
  vm := { classes := classes, interned := interned.toArray }
  heap := heap
  slotsUsed := slotsUsed
  threads := #[{ frames := .invoking theMethod args0 :: below }]
def below0 : List Frame := [.native { method := ⟨0, 0⟩, args := #[] }]
def about1 : State := aboutOver below0
def p0 : Program := .bare "" "" ""
def e0 : Env := launch0.env 0 0 0
theorem w_frames : about1.frames = Frame.invoking theMethod args0 :: below0 := rfl
set_option maxRecDepth 65536 in
theorem w_args : argsFit about1.vm theMethod args0 = true := by decide +kernel
set_option maxRecDepth 65536 in
theorem w_heap : heapFits about1 = true := by decide +kernel
set_option maxRecDepth 65536 in
theorem w_runnable : about1.curStatus? = some .runnable := by decide +kernel
set_option maxRecDepth 65536 in
theorem w_alone : about1.alone = true := by decide +kernel
set_option maxRecDepth 65536 in
theorem w_named : about1.methodNamed? x = some theMethod := by decide +kernel
set_option maxRecDepth 65536 in
theorem w_hears : about1.hears theMethod below0 = true := by decide +kernel
set_option maxRecDepth 65536 in
theorem w_ripe : about1.ripe theMethod args0 below0 = true := by decide +kernel
theorem w_running : about1.status = .running := rfl
set_option maxRecDepth 65536 in
theorem w_room : about1.hasRoom e0.platform room_1 = true :=
  launch0.hasRoom_least _ room_1 (by decide +kernel) (by decide +kernel) (by decide +kernel) (by decide +kernel) (by decide +kernel) (by decide +kernel)
theorem allAtoms_all (ts : List Jvm.Cond) (a : Array Jvm.Value) (st : Jvm.State) : (allAtoms ts).before a st = ts.all (fun c => c.before a st) := by
  induction ts with
  | nil => rfl
  | cons c t ih =>
    show (Jvm.Cond.and c (allAtoms t)).before a st = _
    rw [Jvm.Cond.before_and, ih, List.all_cons]
def words1 : List Jvm.Cond := Jvm.Cond.code x code maxLocals ret :: tables_1
/-- a 'code' word, met by the world's own term for the bytes: nothing is compared byte by byte -/
theorem code_word {y : MethodName} {bytes : ByteArray} {mx : Nat} {rt : Option FieldType} {a : Array Value} {s : State} {m : MethodId} {meth : Method} {c : Code} (h1 : s.methodNamed? y = some m) (h2 : s.vm.method? m = some meth) (h3 : meth.code = some c) (h4 : c.code = bytes)
    (h5 : (c.maxLocals == mx && c.exceptionTable.isEmpty && decide (c.maxStack ≤ mostOperands) && decide (meth.sig.returnType = rt) && !meth.locks && decide (parseMethodDescriptor y.desc = some meth.sig)) = true) : (Jvm.Cond.code y bytes mx rt).before a s = true := by
  simp only [Bool.and_eq_true, beq_iff_eq, Bool.not_eq_true', decide_eq_true_eq] at h5
  obtain ⟨⟨⟨⟨⟨g1, g2⟩, g3⟩, g4⟩, g5⟩, g6⟩ := h5
  simp [Cond.before, Cond.holds, Cond.value, h1, h2, h3, h4, g1, g2, g3, g4, g5, g6]
def isCode : Jvm.Cond → Bool
  | .code _ _ _ _ => true
  | _ => false
theorem all_split {L : List Jvm.Cond} {P : Jvm.Cond → Bool} (h1 : L.all (fun c => isCode c || P c) = true) (h2 : ∀ c ∈ L.filter isCode, P c = true) : L.all P = true := by
  refine List.all_eq_true.mpr fun c hc => ?_
  have h := List.all_eq_true.mp h1 c hc
  rcases Bool.eq_false_or_eq_true (isCode c) with hi | hi
  · exact h2 c (List.mem_filter.mpr ⟨hc, hi⟩)
  · simpa [hi] using h
set_option maxRecDepth 65536 in
theorem w_c0 : (Jvm.Cond.code x code maxLocals ret).before args0 about1 = true := code_word (m := ⟨1, 1⟩) (meth := k1m1) (c := k1c1) (by decide +kernel) rfl rfl rfl (by decide +kernel)
set_option maxRecDepth 65536 in
theorem w_c1 : (Jvm.Cond.code ({ cls := "com/example/topsail/topsail/exec/Answer", name := "<init>", desc := "([I[D)V" } : Jvm.MethodName) prog_5_method_1_code (3 : Nat) (Option.none : Option Jvm.ClassFile.FieldType)).before args0 about1 = true := code_word (m := ⟨2, 0⟩) (meth := k2m0) (c := k2c0) (by decide +kernel) rfl rfl rfl (by decide +kernel)
set_option maxRecDepth 65536 in
theorem w_c2 : (Jvm.Cond.code ({ cls := "java/lang/Object", name := "<init>", desc := "()V" } : Jvm.MethodName) object_method_1_code (1 : Nat) (Option.none : Option Jvm.ClassFile.FieldType)).before args0 about1 = true := code_word (m := ⟨0, 0⟩) (meth := k0m0) (c := k0c0) (by decide +kernel) rfl rfl rfl (by decide +kernel)
set_option maxRecDepth 65536 in
theorem w_c3 : (Jvm.Cond.code ({ cls := "com/example/topsail/topsail/exec/Answer", name := "unranked", desc := "([I)Lcom/example/topsail/topsail/exec/Answer;" } : Jvm.MethodName) prog_5_method_2_code (1 : Nat) (Option.some (Jvm.ClassFile.FieldType.object "com/example/topsail/topsail/exec/Answer"))).before args0 about1 = true := code_word (m := ⟨2, 1⟩) (meth := k2m1) (c := k2c1) (by decide +kernel) rfl rfl rfl (by decide +kernel)
set_option maxRecDepth 65536 in
theorem w_c4 : (Jvm.Cond.code ({ cls := "com/example/topsail/topsail/exec/Answer", name := "ranked", desc := "()Z" } : Jvm.MethodName) prog_5_method_6_code (1 : Nat) (Option.some Jvm.ClassFile.FieldType.boolean)).before args0 about1 = true := code_word (m := ⟨2, 2⟩) (meth := k2m2) (c := k2c2) (by decide +kernel) rfl rfl rfl (by decide +kernel)
set_option maxRecDepth 65536 in
theorem w_c5 : (Jvm.Cond.code ({ cls := "com/example/topsail/topsail/exec/Answer", name := "grade", desc := "(I)D" } : Jvm.MethodName) prog_5_method_7_code (2 : Nat) (Option.some Jvm.ClassFile.FieldType.double)).before args0 about1 = true := code_word (m := ⟨2, 3⟩) (meth := k2m3) (c := k2c3) (by decide +kernel) rfl rfl rfl (by decide +kernel)
def codes1 : List Jvm.Cond := [Jvm.Cond.code x code maxLocals ret, Jvm.Cond.code ({ cls := "com/example/topsail/topsail/exec/Answer", name := "<init>", desc := "([I[D)V" } : Jvm.MethodName) prog_5_method_1_code (3 : Nat) (Option.none : Option Jvm.ClassFile.FieldType), Jvm.Cond.code ({ cls := "java/lang/Object", name := "<init>", desc := "()V" } : Jvm.MethodName) object_method_1_code (1 : Nat) (Option.none : Option Jvm.ClassFile.FieldType), Jvm.Cond.code ({ cls := "com/example/topsail/topsail/exec/Answer", name := "unranked", desc := "([I)Lcom/example/topsail/topsail/exec/Answer;" } : Jvm.MethodName) prog_5_method_2_code (1 : Nat) (Option.some (Jvm.ClassFile.FieldType.object "com/example/topsail/topsail/exec/Answer")), Jvm.Cond.code ({ cls := "com/example/topsail/topsail/exec/Answer", name := "ranked", desc := "()Z" } : Jvm.MethodName) prog_5_method_6_code (1 : Nat) (Option.some Jvm.ClassFile.FieldType.boolean), Jvm.Cond.code ({ cls := "com/example/topsail/topsail/exec/Answer", name := "grade", desc := "(I)D" } : Jvm.MethodName) prog_5_method_7_code (2 : Nat) (Option.some Jvm.ClassFile.FieldType.double)]
set_option maxRecDepth 65536 in
theorem codes_eq : words1.filter isCode = codes1 := rfl
theorem w_codes : ∀ c ∈ words1.filter isCode, c.before args0 about1 = true := by
  rw [codes_eq]
  intro c hc
  simp only [codes1, List.mem_cons, List.not_mem_nil, or_false] at hc
  rcases hc with rfl | rfl | rfl | rfl | rfl | rfl
  · exact w_c0
  · exact w_c1
  · exact w_c2
  · exact w_c3
  · exact w_c4
  · exact w_c5
set_option maxRecDepth 65536 in
theorem w_t1 : (words1.take 24).all (fun c => isCode c || c.before args0 about1) = true := by decide +kernel
set_option maxRecDepth 65536 in
theorem w_t2 : (words1.drop 24).all (fun c => isCode c || c.before args0 about1) = true := by decide +kernel
theorem w_tables : (allAtoms (Jvm.Cond.code x code maxLocals ret :: tables_1)).before args0 about1 = true := by
  rw [allAtoms_all]
  show words1.all (fun c => c.before args0 about1) = true
  refine all_split ?_ w_codes
  rw [← List.take_append_drop 24 words1, List.all_append, w_t1, w_t2]
  rfl
set_option maxRecDepth 65536 in
theorem w_case : (Jvm.Cond.and given_1 narrow_1).before args0 about1 = true := by decide +kernel
theorem w_applies : (headSpec (Jvm.Cond.code x code maxLocals ret :: tables_1) room_1).applies x e0.platform about1 = true :=
  (Spec.applies_iff w_frames).mpr ⟨w_running, w_runnable, w_alone, w_named, w_hears, w_ripe, w_room, w_tables⟩
theorem atStart : AtStart classFile x code maxLocals ret World_1 tables_1 room_1 Calls_1 rest_1 Pre_1 launch0 p0 e0 about1 theMethod args0 below0 :=
  ⟨lists_1, trivial, launch0.admits_env _ _ _, launch0.least_env, fairChoices_fair.cas, fairChoices_fair.clock, w_frames, w_args, w_heap, w_applies, trivial, trivial, w_case⟩
end start1
theorem witness_1 : WitnessClaimed_1 := ⟨start1.p0, start1.e0, start1.about1, start1.theMethod, start1.args0, start1.below0, start1.atStart⟩
end Jvm.Pilot.@@N@@
