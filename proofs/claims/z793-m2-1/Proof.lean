import JvmDerived
import JvmDerived.Pilot.@@N@@Statement
import JvmDerived.Pilot.@@N@@Code
set_option linter.unusedVariables false
set_option linter.unusedSimpArgs false
@@BLOCK:NumsL.lean.txt@@
namespace Jvm.RoadKit
open Sem ClassFile Op Lib Jvm.Stand Jvm.Free Jvm.LawKit
section New
variable {p : Program} {l : Launch} {e : Env} {R : Room} {s : State} {m : MethodId} {args : Array Value} {below : List Frame} {meth : Method} {c : Code} {T : State} {locs : List Loc} {cells slots : Nat}
theorem retI (X : Stand p l e R s m args below meth c T locs cells slots) (hx : p.tables.exec = Jvm.exec) {pc : Nat} {Ls : Array Slot} {z : Int32} {rest : List Value} (hret : meth.sig.returnType = some .int) (hd : decode c.code pc = .ok (.ireturn, 1)) {fs : List Frame}
    (hl : ∀ (f : JFrame) (acts : List Action), f.method = m → f.locked = none → f.entered = [] → (doReturn e (T.setTop f) acts (some (.int z))).1 = T.setFrames fs) : Steps p.tables e below (T.setTop (mkF m pc Ls (.int z :: rest))) (T.setFrames fs) := by
  have hm' : T.vm.method? m = some meth := X.method'
  have hn : narrow .int (.int z) = .int z := rfl
  show Steps p.tables e below (T.setTop { method := m, pc := pc, locals := Ls, stack := _ :: rest, locked := none }) _
  jvm_step X.here [X.here.top, hx, hd, hm', hret, hn]
  first | (intro acts; rw [hl _ acts rfl rfl rfl]) | rw [hl _ _ rfl rfl rfl]
  exact Steps.refl _
end New
end Jvm.RoadKit
namespace Jvm.OwnFP
open Jvm.FP
/-- a double's value in units of 2^-1074 -/
def zv (a : UInt64) : Int := Core.zval Core.b64 (Core.val64 a)
/-- how many units make one -/
def U : Int := (Core.one64 : Int)
theorem U_pos : 0 < U := by have := Core.one64_pos; unfold U; omega
theorem U_pow (k : Nat) (h : k ≤ 1074) : U = 2 ^ (1074 - k) * 2 ^ k := by
  have e : (2 : Int) ^ (1074 - k) * 2 ^ k = 2 ^ 1074 := by rw [← Int.pow_add]; congr 1; omega
  rw [e]; unfold U Core.one64; rw [Int.natCast_pow]; rfl
theorem pow_pos (k : Nat) : (0 : Int) < 2 ^ k := Int.pow_pos (by decide)
theorem notNan {a : UInt64} (h : Core.DFin a) : Core.val64 a ≠ .nan := by obtain ⟨s, c, q, h⟩ := h; rw [h]; exact Core.Datum.noConfusion
theorem fin_parts {a : UInt64} (h : Core.DFin a) : ∃ (s : Bool) (c i : Nat), Core.val64 a = .fin s c ((i : Int) - 1074) ∧ Core.fits Core.b64 (.fin s c ((i : Int) - 1074)) ∧ zv a = Core.signed s (c * 2 ^ i) := by
  obtain ⟨s, c, q, h⟩ := h
  have hf := Core.val64_fits a
  rw [h] at hf
  have hq : -1074 ≤ q := by have := hf.2.1; rw [Core.qmin_b64] at this; exact this
  obtain ⟨i, hi⟩ : ∃ i : Nat, q = (i : Int) - 1074 := ⟨(q + 1074).toNat, by omega⟩
  subst hi
  refine ⟨s, c, i, h, hf, ?_⟩
  unfold zv Core.zval; rw [h]
  show Core.signed s (c * 2 ^ ((i : Int) - 1074 - Core.b64.qmin).toNat) = _
  rw [Core.qmin_b64, show ((i : Int) - 1074 - -1074).toNat = i by omega]
/-- rounding a quotient is monotone: at most a number of the format -/
theorem ratio_le {s : Bool} {A B : Nat} {e e0 : Int} {V : Core.Datum} (hB : 0 < B) (hV : Core.fits Core.b64 V) (hn : V ≠ .nan) (h0 : e0 ≤ Core.b64.qmin) (h0e : e0 ≤ e)
    (h : Core.signed s (Core.inUnits A e e0) ≤ Core.zval Core.b64 V * ((2 ^ (Core.b64.qmin - e0).toNat * B : Nat) : Int)) :
    Core.zval Core.b64 (Core.roundRatio Core.b64 s A B e) ≤ Core.zval Core.b64 V := by
  have hle := Core.zmag_roundRatio_le Core.good_b64 (s := s) (A := A) hB hV hn h0 h0e
  have hge := Core.zmag_roundRatio_ge Core.good_b64 (s := s) (A := A) hB hV h0 h0e
  have hP : 0 < 2 ^ (Core.b64.qmin - e0).toNat * B := Nat.mul_pos (Nat.two_pow_pos _) hB
  rw [Nat.mul_assoc] at hle hge
  unfold Core.zval at h ⊢
  rw [Core.sgn_roundRatio]
  rw [← Core.signed_mul] at h
  have hz : Core.zmag Core.b64 V * (2 ^ (Core.b64.qmin - e0).toNat * B) = 0 → Core.zmag Core.b64 V = 0 := fun q => by
    rcases Nat.mul_eq_zero.mp q with q | q
    · exact q
    · omega
  generalize Core.zmag Core.b64 V * (2 ^ (Core.b64.qmin - e0).toNat * B) = vP at *
  generalize Core.sgn V = t at *
  generalize Core.zmag Core.b64 V = z at *
  generalize Core.zmag Core.b64 (Core.roundRatio Core.b64 s A B e) = r at *
  generalize Core.inUnits A e e0 = x at *
  cases s <;> cases t <;> simp only [Core.signed, if_true, Bool.false_eq_true, if_false] at h ⊢
  · have := hle (by omega); omega
  · have := hle (by omega); have := hz (by omega); omega
  · omega
  · have := hge (by omega); omega
theorem ratio_ge {s : Bool} {A B : Nat} {e e0 : Int} {V : Core.Datum} (hB : 0 < B) (hV : Core.fits Core.b64 V) (hn : V ≠ .nan) (h0 : e0 ≤ Core.b64.qmin) (h0e : e0 ≤ e)
    (h : Core.zval Core.b64 V * ((2 ^ (Core.b64.qmin - e0).toNat * B : Nat) : Int) ≤ Core.signed s (Core.inUnits A e e0)) :
    Core.zval Core.b64 V ≤ Core.zval Core.b64 (Core.roundRatio Core.b64 s A B e) := by
  have h1 := ratio_le (s := !s) (V := Core.negate V) hB (Core.negate_fits hV) (Core.negate_ne_nan hn) h0 h0e (by
    rw [Core.zval_negate, Int.neg_mul, Core.signed_not]; exact Int.neg_le_neg h)
  rw [Core.zval_negate, ← Core.negate_roundRatio, Core.zval_negate] at h1
  omega
theorem signed_pos_parts {t : Bool} {n : Nat} (h : 0 < Core.signed t n) : t = false ∧ 0 < n := by
  cases t <;> simp [Core.signed] at h ⊢ <;> omega
/-- the quotient as a rounded ratio -/
theorem ddiv_parts {a b : UInt64} (ha : Core.DFin a) (hb : Core.DFin b) (pb : 0 < zv b) :
    ∃ (s : Bool) (c d i j : Nat), zv a = Core.signed s (c * 2 ^ i) ∧ zv b = ((d * 2 ^ j : Nat) : Int) ∧ 0 < d ∧ Core.val64 (FP.ddiv a b) = Core.roundRatio Core.b64 s c d ((i : Int) - (j : Int)) := by
  obtain ⟨s, c, i, h1, f1, z1⟩ := fin_parts ha
  obtain ⟨t, d, j, h2, f2, z2⟩ := fin_parts hb
  rw [z2] at pb
  obtain ⟨rfl, hd⟩ := signed_pos_parts pb
  have hd' : 0 < d := Nat.pos_of_mul_pos_right hd
  refine ⟨s, c, d, i, j, z1, z2, hd', ?_⟩
  show Core.val64 (Core.ddiv a b) = _
  rw [Core.val64_ddiv, h1, h2]
  show (if d = 0 then _ else Core.roundRatio Core.b64 (s != false) c d ((i : Int) - 1074 - ((j : Int) - 1074))) = _
  rw [if_neg (by omega), show ((i : Int) - 1074 - ((j : Int) - 1074)) = (i : Int) - j by omega]
  cases s <;> rfl
theorem div_key {s : Bool} {c d i j : Nat} : Core.signed s (Core.inUnits c ((i : Int) - j) (-1074 - (j : Int))) = Core.signed s (c * 2 ^ i) * U ∧ ((2 ^ (Core.b64.qmin - (-1074 - (j : Int))).toNat * d : Nat) : Int) = ((d * 2 ^ j : Nat) : Int) := by
  constructor
  · unfold Core.inUnits
    rw [show ((i : Int) - j - (-1074 - (j : Int))).toNat = i + 1074 by omega, Nat.pow_add, ← Nat.mul_assoc, Core.signed_mul]
    rfl
  · rw [Core.qmin_b64, show (-1074 - (-1074 - (j : Int))).toNat = j by omega, Nat.mul_comm]
theorem ddiv_le {a b V : UInt64} (ha : Core.DFin a) (hb : Core.DFin b) (pb : 0 < zv b) (hV : Core.val64 V ≠ .nan) (h : zv a * U ≤ zv V * zv b) : zv (FP.ddiv a b) ≤ zv V := by
  obtain ⟨s, c, d, i, j, z1, z2, hd, hr⟩ := ddiv_parts ha hb pb
  have e : zv (FP.ddiv a b) = Core.zval Core.b64 (Core.roundRatio Core.b64 s c d ((i : Int) - (j : Int))) := by unfold zv; rw [hr]
  rw [e]
  refine ratio_le (e0 := -1074 - (j : Int)) hd (Core.val64_fits V) hV (by rw [Core.qmin_b64]; omega) (by omega) ?_
  rw [(div_key (d := d)).1, (div_key (s := s) (c := c) (i := i)).2, ← z1, ← z2]; exact h
theorem ddiv_ge {a b V : UInt64} (ha : Core.DFin a) (hb : Core.DFin b) (pb : 0 < zv b) (hV : Core.val64 V ≠ .nan) (h : zv V * zv b ≤ zv a * U) : zv V ≤ zv (FP.ddiv a b) := by
  obtain ⟨s, c, d, i, j, z1, z2, hd, hr⟩ := ddiv_parts ha hb pb
  have e : zv (FP.ddiv a b) = Core.zval Core.b64 (Core.roundRatio Core.b64 s c d ((i : Int) - (j : Int))) := by unfold zv; rw [hr]
  rw [e]
  refine ratio_ge (e0 := -1074 - (j : Int)) hd (Core.val64_fits V) hV (by rw [Core.qmin_b64]; omega) (by omega) ?_
  rw [(div_key (d := d)).1, (div_key (s := s) (c := c) (i := i)).2, ← z1, ← z2]; exact h
theorem ddiv_nn {a b : UInt64} (ha : Core.DFin a) (hb : Core.DFin b) (pb : 0 < zv b) : Core.val64 (FP.ddiv a b) ≠ .nan := by
  obtain ⟨s, c, d, i, j, z1, z2, hd, hr⟩ := ddiv_parts ha hb pb
  rw [hr]; exact Core.roundRatio_ne_nan _ _ _ _ _
/-- two quotients of one value -/
theorem ddiv_congr {a b a' b' : UInt64} (ha : Core.DFin a) (hb : Core.DFin b) (pb : 0 < zv b) (ha' : Core.DFin a') (hb' : Core.DFin b') (pb' : 0 < zv b') (hs : Core.sgn (Core.val64 a) = Core.sgn (Core.val64 a')) (h : zv a * zv b' = zv a' * zv b) : FP.ddiv a b = FP.ddiv a' b' := by
  obtain ⟨s, c, i, h1, f1, z1⟩ := fin_parts ha
  obtain ⟨s', c', i', h1', f1', z1'⟩ := fin_parts ha'
  obtain ⟨t, d, j, h2, f2, z2⟩ := fin_parts hb
  obtain ⟨t', d', j', h2', f2', z2'⟩ := fin_parts hb'
  rw [z2] at pb; rw [z2'] at pb'
  obtain ⟨rfl, hd⟩ := signed_pos_parts pb
  obtain ⟨rfl, hd'⟩ := signed_pos_parts pb'
  have hd1 : 0 < d := Nat.pos_of_mul_pos_right hd
  have hd1' : 0 < d' := Nat.pos_of_mul_pos_right hd'
  have es : s = s' := by rw [h1, h1'] at hs; exact hs
  subst es
  show Core.of64 (Core.quotient Core.b64 (Core.val64 a) (Core.val64 b)) = Core.of64 (Core.quotient Core.b64 (Core.val64 a') (Core.val64 b'))
  congr 1
  rw [h1, h2, h1', h2']
  show (if d = 0 then _ else Core.roundRatio Core.b64 (s != false) c d ((i : Int) - 1074 - ((j : Int) - 1074))) = (if d' = 0 then _ else Core.roundRatio Core.b64 (s != false) c' d' ((i' : Int) - 1074 - ((j' : Int) - 1074)))
  rw [if_neg (by omega), if_neg (by omega)]
  apply Core.roundRatio_congr hd1 hd1'
  have hn : (c * 2 ^ i) * (d' * 2 ^ j') = (c' * 2 ^ i') * (d * 2 ^ j) := by
    rw [z1, z1', z2, z2'] at h
    have : ∀ n : Nat, Core.signed false n = (n : Int) := fun _ => rfl
    rw [this, this, ← Core.signed_mul, ← Core.signed_mul] at h
    have := congrArg Int.natAbs h
    rwa [Core.natAbs_signed, Core.natAbs_signed] at this
  generalize hE : (i : Int) - 1074 - ((j : Int) - 1074) = E
  generalize hE' : (i' : Int) - 1074 - ((j' : Int) - 1074) = E'
  have k1 : c * d' * 2 ^ (i + j') = c' * d * 2 ^ (i' + j) := by
    rw [Nat.pow_add, Nat.pow_add]
    calc c * d' * (2 ^ i * 2 ^ j') = (c * 2 ^ i) * (d' * 2 ^ j') := by ac_rfl
      _ = (c' * 2 ^ i') * (d * 2 ^ j) := hn
      _ = c' * d * (2 ^ i' * 2 ^ j) := by ac_rfl
  by_cases hle : i' + j ≤ i + j'
  · have e1 : (E - E').toNat = i + j' - (i' + j) := by omega
    have e2 : (E' - E).toNat = 0 := by omega
    rw [e1, e2]
    have : 2 ^ (i + j') = 2 ^ (i + j' - (i' + j)) * 2 ^ (i' + j) := by rw [← Nat.pow_add]; congr 1; omega
    rw [this, ← Nat.mul_assoc] at k1
    simpa using Nat.eq_of_mul_eq_mul_right (Nat.two_pow_pos _) k1
  · have e1 : (E - E').toNat = 0 := by omega
    have e2 : (E' - E).toNat = i' + j - (i + j') := by omega
    rw [e1, e2]
    have : 2 ^ (i' + j) = 2 ^ (i' + j - (i + j')) * 2 ^ (i + j') := by rw [← Nat.pow_add]; congr 1; omega
    rw [this, ← Nat.mul_assoc] at k1
    simpa using Nat.eq_of_mul_eq_mul_right (Nat.two_pow_pos _) k1
theorem dmul_parts {a b : UInt64} (ha : Core.DFin a) (hb : Core.DFin b) :
    ∃ (s : Bool) (n : Nat) (e : Int), Core.val64 (FP.dmul a b) = Core.round Core.b64 (.fin s n e) ∧ -2148 ≤ e ∧ Core.signed s (Core.inUnits n e (-2148)) = zv a * zv b := by
  obtain ⟨s, c, i, h1, f1, z1⟩ := fin_parts ha
  obtain ⟨t, d, j, h2, f2, z2⟩ := fin_parts hb
  obtain ⟨p1, p2, p3⟩ := Core.product_units f1 f2
  refine ⟨s != t, c * d, (i : Int) - 1074 + ((j : Int) - 1074), ?_, by omega, ?_⟩
  · show Core.val64 (Core.dmul a b) = _
    rw [Core.val64_dmul, h1, h2, p1]
  · rw [z1, z2]
    unfold Core.inUnits
    rw [show ((i : Int) - 1074 + ((j : Int) - 1074) - (-2148)).toNat = i + j by omega, Nat.pow_add,
      show c * d * (2 ^ i * 2 ^ j) = (c * 2 ^ i) * (d * 2 ^ j) by ac_rfl, Core.signed_xor]
theorem mul_key : ((2 ^ (Core.b64.qmin - (-2148 : Int)).toNat : Nat) : Int) = U := by
  rw [Core.qmin_b64]; rfl
theorem dmul_le {a b V : UInt64} (ha : Core.DFin a) (hb : Core.DFin b) (hV : Core.val64 V ≠ .nan) (h : zv a * zv b ≤ zv V * U) : zv (FP.dmul a b) ≤ zv V := by
  obtain ⟨s, n, e, h1, h2, h3⟩ := dmul_parts ha hb
  have e1 : zv (FP.dmul a b) = Core.zval Core.b64 (Core.round Core.b64 (.fin s n e)) := by unfold zv; rw [h1]
  rw [e1]
  refine Core.zval_round_le Core.good_b64 (e0 := -2148) (Core.val64_fits V) hV (by rw [Core.qmin_b64]; decide) h2 ?_
  rw [h3, mul_key]; exact h
theorem dmul_ge {a b V : UInt64} (ha : Core.DFin a) (hb : Core.DFin b) (hV : Core.val64 V ≠ .nan) (h : zv V * U ≤ zv a * zv b) : zv V ≤ zv (FP.dmul a b) := by
  obtain ⟨s, n, e, h1, h2, h3⟩ := dmul_parts ha hb
  have e1 : zv (FP.dmul a b) = Core.zval Core.b64 (Core.round Core.b64 (.fin s n e)) := by unfold zv; rw [h1]
  rw [e1]
  refine Core.zval_round_ge Core.good_b64 (e0 := -2148) (Core.val64_fits V) hV (by rw [Core.qmin_b64]; decide) h2 ?_
  rw [h3, mul_key]; exact h
theorem dmul_nn {a b : UInt64} (ha : Core.DFin a) (hb : Core.DFin b) : Core.val64 (FP.dmul a b) ≠ .nan := by
  obtain ⟨s, n, e, h1, h2, h3⟩ := dmul_parts ha hb
  rw [h1]; exact Core.roundRatio_ne_nan _ _ _ _ _
theorem dadd_le {a b V : UInt64} (ha : Core.DFin a) (hb : Core.DFin b) (hV : Core.val64 V ≠ .nan) (h : zv a + zv b ≤ zv V) : zv (FP.dadd a b) ≤ zv V := by
  have := Core.sum_le Core.good_b64 ha hb (Core.val64_fits a) (Core.val64_fits b) (Core.val64_fits V) hV h
  unfold zv; show Core.zval Core.b64 (Core.val64 (Core.dadd a b)) ≤ _
  rw [Core.val64_dadd]; exact this
theorem dadd_ge {a b V : UInt64} (ha : Core.DFin a) (hb : Core.DFin b) (hV : Core.val64 V ≠ .nan) (h : zv V ≤ zv a + zv b) : zv V ≤ zv (FP.dadd a b) := by
  have := Core.sum_ge Core.good_b64 ha hb (Core.val64_fits a) (Core.val64_fits b) (Core.val64_fits V) hV h
  unfold zv; show _ ≤ Core.zval Core.b64 (Core.val64 (Core.dadd a b))
  rw [Core.val64_dadd]; exact this
theorem dadd_nn {a b : UInt64} (ha : Core.DFin a) (hb : Core.DFin b) : Core.val64 (FP.dadd a b) ≠ .nan := by
  have := Core.dadd_out (notNaN_of ha) hb
  exact (Core.notNaN_iff _).mp this
where notNaN_of {a : UInt64} (h : Core.DFin a) : Core.dIsNaN a = false := (Core.notNaN_iff a).mpr (notNan h)
theorem zv_dneg (a : UInt64) : zv (FP.dneg a) = - zv a := by
  unfold zv; rw [FP.val64_dneg, Core.zval_negate]
theorem fin_dneg {a : UInt64} (h : Core.DFin a) : Core.DFin (FP.dneg a) := by
  obtain ⟨s, c, q, h⟩ := h
  refine ⟨!s, c, q, ?_⟩
  rw [FP.val64_dneg, h]; rfl
theorem dsub_dadd {a b : UInt64} (hb : Core.DFin b) : FP.dsub a b = FP.dadd a (FP.dneg b) := by
  have h1 : FP.dneg b = Core.dneg b := FP.dneg_core ((Core.notNaN_iff b).mpr (notNan hb))
  rw [h1]; exact Core.dsub_eq a b
theorem dsub_le {a b V : UInt64} (ha : Core.DFin a) (hb : Core.DFin b) (hV : Core.val64 V ≠ .nan) (h : zv a - zv b ≤ zv V) : zv (FP.dsub a b) ≤ zv V := by
  rw [dsub_dadd hb]; exact dadd_le ha (fin_dneg hb) hV (by rw [zv_dneg]; omega)
theorem dsub_ge {a b V : UInt64} (ha : Core.DFin a) (hb : Core.DFin b) (hV : Core.val64 V ≠ .nan) (h : zv V ≤ zv a - zv b) : zv V ≤ zv (FP.dsub a b) := by
  rw [dsub_dadd hb]; exact dadd_ge ha (fin_dneg hb) hV (by rw [zv_dneg]; omega)
theorem dsub_nn {a b : UInt64} (ha : Core.DFin a) (hb : Core.DFin b) : Core.val64 (FP.dsub a b) ≠ .nan := by
  rw [dsub_dadd hb]; exact dadd_nn ha (fin_dneg hb)
/-- finite, if it lies between two finite ones -/
theorem fin_between {a V W : UInt64} (n : Core.val64 a ≠ .nan) (hV : Core.DFin V) (hW : Core.DFin W) (h1 : zv V ≤ zv a) (h2 : zv a ≤ zv W) : Core.DFin a := by
  have hv := hV.zval_lt; have hw := hW.zval_lt
  unfold zv Core.zval at h1 h2
  cases e : Core.val64 a with
  | nan => exact absurd e n
  | fin s c q => exact ⟨s, c, q, e⟩
  | inf s =>
    exfalso
    rw [e] at h1 h2
    have t : Core.zmag Core.b64 (.inf s) = Core.b64.tails * 2 ^ (Core.b64.exps - 2) := rfl
    rw [t] at h1 h2
    generalize Core.b64.tails * 2 ^ (Core.b64.exps - 2) = top at *
    generalize Core.zmag Core.b64 (Core.val64 V) = v at *
    generalize Core.zmag Core.b64 (Core.val64 W) = w at *
    generalize Core.sgn (Core.val64 V) = sv at *
    generalize Core.sgn (Core.val64 W) = sw at *
    cases s <;> cases sv <;> cases sw <;> simp [Core.signed, Core.sgn] at h1 h2 <;> omega
theorem signed_of (n : Int) : Core.signed (decide (n < 0)) n.natAbs = n := by
  unfold Core.signed
  by_cases q : n < 0
  · simp [q]; omega
  · simp [q]; omega
/-- n * 2^E units are a double -/
theorem repE (n : Int) (E : Nat) (hn : n.natAbs < 2 ^ 53) (hE : E ≤ 2045) : ∃ V, Core.DFin V ∧ zv V = n * 2 ^ E := by
  have hq : Core.b64.qmax = 971 := by decide
  obtain ⟨c', q', h1, h2⟩ := Core.round_exact Core.good_b64 (decide (n < 0)) (c := n.natAbs) (q := (E : Int) - 1074) hn (by rw [Core.qmin_b64]; omega) (by rw [hq]; omega)
  have h3 : Core.val64 (Core.of64 (Core.round Core.b64 (.fin (decide (n < 0)) n.natAbs ((E : Int) - 1074)))) = .fin (decide (n < 0)) c' q' := by
    rw [Core.val64_of64 (Core.round_fits Core.good_b64 _), h1]
  refine ⟨_, ⟨_, _, _, h3⟩, ?_⟩
  unfold zv Core.zval
  rw [h3]
  show Core.signed (decide (n < 0)) (Core.inUnits c' q' Core.b64.qmin) = _
  rw [h2]
  unfold Core.inUnits
  rw [Core.qmin_b64, show ((E : Int) - 1074 - -1074).toNat = E by omega, Core.signed_mul, signed_of, Int.natCast_pow]
  rfl
/-- n / 2^k is a double -/
theorem rep (n : Int) (k : Nat) (hn : n.natAbs ≤ 2 ^ 53) (hk : k ≤ 1000) : ∃ V, Core.DFin V ∧ zv V * 2 ^ k = n * U := by
  by_cases h : n.natAbs < 2 ^ 53
  · obtain ⟨V, fV, zV⟩ := repE n (1074 - k) h (by omega)
    exact ⟨V, fV, by rw [zV, U_pow k (by omega), Int.mul_assoc]⟩
  · by_cases hs : n < 0
    · obtain ⟨V, fV, zV⟩ := repE (-1) (53 + (1074 - k)) (by decide) (by omega)
      exact ⟨V, fV, by rw [zV, U_pow k (by omega), show n = -1 * 2 ^ 53 by omega, Int.pow_add]; ac_rfl⟩
    · obtain ⟨V, fV, zV⟩ := repE 1 (53 + (1074 - k)) (by decide) (by omega)
      exact ⟨V, fV, by rw [zV, U_pow k (by omega), show n = 1 * 2 ^ 53 by omega, Int.pow_add]; ac_rfl⟩
/-- and so are, with the infinities, the numbers up to 2^53 * 2^E -/
theorem repI (n : Int) (E : Nat) (hn : n.natAbs ≤ 2 ^ 53) (hE : E ≤ 2045) : ∃ V, Core.val64 V ≠ .nan ∧ zv V = n * 2 ^ E := by
  by_cases h : n.natAbs < 2 ^ 53
  · obtain ⟨V, fV, zV⟩ := repE n E h hE; exact ⟨V, notNan fV, zV⟩
  · by_cases hE2 : E + 53 ≤ 2045
    · by_cases hs : n < 0
      · obtain ⟨V, fV, zV⟩ := repE (-1) (53 + E) (by decide) (by omega)
        exact ⟨V, notNan fV, by rw [zV, show n = -1 * 2 ^ 53 by omega, Int.pow_add, Int.mul_assoc]⟩
      · obtain ⟨V, fV, zV⟩ := repE 1 (53 + E) (by decide) (by omega)
        exact ⟨V, notNan fV, by rw [zV, show n = 1 * 2 ^ 53 by omega, Int.pow_add, Int.mul_assoc]⟩
    · by_cases hE3 : E = 2045
      · subst hE3
        have v1 : Core.val64 9218868437227405312 = .inf false := by decide +kernel
        have v2 : Core.val64 18442240474082181120 = .inf true := by decide +kernel
        have z1 : Core.zmag Core.b64 (.inf false) = 2 ^ 53 * 2 ^ 2045 := by decide +kernel
        by_cases hs : n < 0
        · refine ⟨18442240474082181120, by rw [v2]; exact Core.Datum.noConfusion, ?_⟩
          unfold zv Core.zval; rw [v2]
          show Core.signed true (Core.zmag Core.b64 (.inf false)) = _
          rw [z1, Core.signed_mul, show n = -2 ^ 53 by omega, Int.natCast_pow]; rfl
        · refine ⟨9218868437227405312, by rw [v1]; exact Core.Datum.noConfusion, ?_⟩
          unfold zv Core.zval; rw [v1]
          show Core.signed false (Core.zmag Core.b64 (.inf false)) = _
          rw [z1, Core.signed_mul, show n = 2 ^ 53 by omega, Int.natCast_pow]; rfl
      · by_cases hs : n < 0
        · obtain ⟨V, fV, zV⟩ := repE (-2 ^ 52) (1 + E) (by decide) (by omega)
          exact ⟨V, notNan fV, by rw [zV, show n = -2 ^ 52 * 2 ^ 1 by omega, Int.pow_add, Int.mul_assoc]⟩
        · obtain ⟨V, fV, zV⟩ := repE (2 ^ 52) (1 + E) (by decide) (by omega)
          exact ⟨V, notNan fV, by rw [zV, show n = 2 ^ 52 * 2 ^ 1 by omega, Int.pow_add, Int.mul_assoc]⟩
theorem dmul_eq {a b V : UInt64} (ha : Core.DFin a) (hb : Core.DFin b) (hV : Core.val64 V ≠ .nan) (h : zv a * zv b = zv V * U) : zv (FP.dmul a b) = zv V := by
  have := dmul_le ha hb hV (Int.le_of_eq h); have := dmul_ge ha hb hV (Int.le_of_eq h.symm); omega
/-! ## values n / 2^k -/
/-- finite, and worth n / 2^k -/
def DS (n : Int) (k : Nat) (a : UInt64) : Prop := Core.DFin a ∧ zv a * 2 ^ k = n * U
def Le (a : UInt64) (n : Int) (k : Nat) : Prop := zv a * 2 ^ k ≤ n * U
def Ge (a : UInt64) (n : Int) (k : Nat) : Prop := n * U ≤ zv a * 2 ^ k
theorem DS.le {n : Int} {k : Nat} {a : UInt64} (h : DS n k a) : Le a n k := Int.le_of_eq h.2
theorem DS.ge {n : Int} {k : Nat} {a : UInt64} (h : DS n k a) : Ge a n k := Int.le_of_eq h.2.symm
theorem DS.int {i : Int} {a : UInt64} (h : Core.DInt i a) : DS i 0 a := by
  refine ⟨?_, ?_⟩
  · unfold Core.DInt at h
    cases e : Core.val64 a with
    | nan => rw [e] at h; exact h.elim
    | inf => rw [e] at h; exact h.elim
    | fin s c q => exact ⟨s, c, q, e⟩
  · show zv a * 2 ^ 0 = i * U
    rw [Int.pow_zero, Int.mul_one]; exact Core.DInt_zval h
theorem DS.i2d (x : Int32) : DS x.toInt 0 (FP.i2d x) := DS.int (Core.i2d_int x)
theorem DS.l2d {x : Int64} (h : x.toInt.natAbs ≤ 2 ^ 53) : DS x.toInt 0 (FP.l2d x) := DS.int (Core.l2d_int h)
theorem mul_cancel {a b c : Int} (hc : 0 < c) (h : a * c = b * c) : a = b := Int.eq_of_mul_eq_mul_right (by omega) h
theorem le_cancel {a b c : Int} (hc : 0 < c) (h : a * c ≤ b * c) : a ≤ b := Int.le_of_mul_le_mul_right h hc
theorem DS.up {n : Int} {k : Nat} {a : UInt64} (h : DS n k a) (j : Nat) : DS (n * 2 ^ j) (k + j) a := ⟨h.1, by
  rw [Int.pow_add, ← Int.mul_assoc, h.2]; grind⟩
theorem Le.up {n : Int} {k : Nat} {a : UInt64} (h : Le a n k) (j : Nat) : Le a (n * 2 ^ j) (k + j) := by
  unfold Le at *
  have := Int.mul_le_mul_of_nonneg_right h (Int.le_of_lt (pow_pos j))
  rw [Int.pow_add]; grind
theorem Ge.up {n : Int} {k : Nat} {a : UInt64} (h : Ge a n k) (j : Nat) : Ge a (n * 2 ^ j) (k + j) := by
  unfold Ge at *
  have := Int.mul_le_mul_of_nonneg_right h (Int.le_of_lt (pow_pos j))
  rw [Int.pow_add]; grind
/-- what lies between two bounds n / 2^k is finite -/
theorem fin_of {a : UInt64} {n m : Int} {k j : Nat} (nn : Core.val64 a ≠ .nan) (h1 : Ge a n k) (h2 : Le a m j) (bn : n.natAbs ≤ 2 ^ 53) (bm : m.natAbs ≤ 2 ^ 53) (hk : k ≤ 1000) (hj : j ≤ 1000) : Core.DFin a := by
  obtain ⟨V, fV, zV⟩ := rep n k bn hk
  obtain ⟨W, fW, zW⟩ := rep m j bm hj
  refine fin_between nn fV fW ?_ ?_
  · exact le_cancel (pow_pos k) (by unfold Ge at h1; omega)
  · exact le_cancel (pow_pos j) (by unfold Le at h2; omega)
theorem DS.of {a : UInt64} {n : Int} {k : Nat} (nn : Core.val64 a ≠ .nan) (h1 : Ge a n k) (h2 : Le a n k) (bn : n.natAbs ≤ 2 ^ 53) (hk : k ≤ 1000) : DS n k a :=
  ⟨fin_of nn h1 h2 bn bn hk hk, by unfold Ge at h1; unfold Le at h2; omega⟩
/-! the operations against bounds -/
theorem add_Le {a b : UInt64} {n m q : Int} {k : Nat} (fa : Core.DFin a) (fb : Core.DFin b) (ha : Le a n k) (hb : Le b m k) (h : n + m ≤ q) (bq : q.natAbs ≤ 2 ^ 53) (hk : k ≤ 1000) : Le (FP.dadd a b) q k := by
  obtain ⟨V, fV, zV⟩ := rep q k bq hk
  have h1 : zv (FP.dadd a b) ≤ zv V := dadd_le fa fb (notNan fV) (le_cancel (pow_pos k) (by
    unfold Le at ha hb
    rw [Int.add_mul, zV]
    have := Int.mul_le_mul_of_nonneg_right h (Int.le_of_lt U_pos)
    rw [Int.add_mul] at this; omega))
  unfold Le; rw [← zV]; exact Int.mul_le_mul_of_nonneg_right h1 (Int.le_of_lt (pow_pos k))
theorem add_Ge {a b : UInt64} {n m q : Int} {k : Nat} (fa : Core.DFin a) (fb : Core.DFin b) (ha : Ge a n k) (hb : Ge b m k) (h : q ≤ n + m) (bq : q.natAbs ≤ 2 ^ 53) (hk : k ≤ 1000) : Ge (FP.dadd a b) q k := by
  obtain ⟨V, fV, zV⟩ := rep q k bq hk
  have h1 : zv V ≤ zv (FP.dadd a b) := dadd_ge fa fb (notNan fV) (le_cancel (pow_pos k) (by
    unfold Ge at ha hb
    rw [Int.add_mul, zV]
    have := Int.mul_le_mul_of_nonneg_right h (Int.le_of_lt U_pos)
    rw [Int.add_mul] at this; omega))
  unfold Ge; rw [← zV]; exact Int.mul_le_mul_of_nonneg_right h1 (Int.le_of_lt (pow_pos k))
theorem DS.add {a b : UInt64} {n m : Int} {k : Nat} (ha : DS n k a) (hb : DS m k b) (bq : (n + m).natAbs ≤ 2 ^ 53) (hk : k ≤ 1000) : DS (n + m) k (FP.dadd a b) :=
  DS.of (dadd_nn ha.1 hb.1) (add_Ge ha.1 hb.1 ha.ge hb.ge (Int.le_refl _) bq hk) (add_Le ha.1 hb.1 ha.le hb.le (Int.le_refl _) bq hk) bq hk
theorem DS.neg {a : UInt64} {n : Int} {k : Nat} (ha : DS n k a) : DS (-n) k (FP.dneg a) := ⟨fin_dneg ha.1, by rw [zv_dneg, Int.neg_mul, ha.2, Int.neg_mul]⟩
theorem DS.sub {a b : UInt64} {n m : Int} {k : Nat} (ha : DS n k a) (hb : DS m k b) (bq : (n - m).natAbs ≤ 2 ^ 53) (hk : k ≤ 1000) : DS (n - m) k (FP.dsub a b) := by
  rw [dsub_dadd hb.1, show n - m = n + -m by omega]; exact ha.add hb.neg (by rw [← Int.sub_eq_add_neg]; exact bq) hk
theorem DS.mul {a b : UInt64} {n m : Int} {k j : Nat} (ha : DS n k a) (hb : DS m j b) (bq : (n * m).natAbs ≤ 2 ^ 53) (hk : k + j ≤ 1000) : DS (n * m) (k + j) (FP.dmul a b) := by
  obtain ⟨V, fV, zV⟩ := rep (n * m) (k + j) bq hk
  have e : zv a * zv b = zv V * U := by
    have h1 := ha.2; have h2 := hb.2
    refine mul_cancel (pow_pos (k + j)) ?_
    calc zv a * zv b * 2 ^ (k + j) = (zv a * 2 ^ k) * (zv b * 2 ^ j) := by rw [Int.pow_add]; grind
      _ = (n * U) * (m * U) := by rw [h1, h2]
      _ = (n * m * U) * U := by grind
      _ = zv V * U * 2 ^ (k + j) := by rw [← zV]; grind
  have g1 := dmul_le ha.1 hb.1 (notNan fV) (Int.le_of_eq e)
  have g2 := dmul_ge ha.1 hb.1 (notNan fV) (Int.le_of_eq e.symm)
  have g : zv (FP.dmul a b) = zv V := by omega
  exact ⟨fin_between (dmul_nn ha.1 hb.1) fV fV (by omega) (by omega), by rw [g, zV]⟩
theorem DS.pos {b : UInt64} {m : Int} {j : Nat} (hb : DS m j b) (hm : 0 < m) : 0 < zv b := by
  have h1 : 0 < zv b * 2 ^ j := by rw [hb.2]; exact Int.mul_pos hm U_pos
  exact Int.pos_of_mul_pos_left h1 (pow_pos j)
/-- a quotient against a bound q / 2^l -/
theorem div_Le {a b : UInt64} {n m q : Int} {k j l : Nat} (ha : DS n k a) (hb : DS m j b) (hm : 0 < m) (h : n * 2 ^ j * 2 ^ l ≤ q * m * 2 ^ k) (bq : q.natAbs ≤ 2 ^ 53) (hl : l ≤ 1000) : Le (FP.ddiv a b) q l := by
  obtain ⟨V, fV, zV⟩ := rep q l bq hl
  have h1 : zv (FP.ddiv a b) ≤ zv V := ddiv_le ha.1 hb.1 (hb.pos hm) (notNan fV) (by
    refine le_cancel (pow_pos (k + j + l)) ?_
    have e1 : zv a * U * 2 ^ (k + j + l) = (n * 2 ^ j * 2 ^ l) * (U * U) := by
      calc zv a * U * 2 ^ (k + j + l) = (zv a * 2 ^ k) * U * 2 ^ j * 2 ^ l := by rw [Int.pow_add, Int.pow_add]; grind
        _ = _ := by rw [ha.2]; grind
    have e2 : zv V * zv b * 2 ^ (k + j + l) = (q * m * 2 ^ k) * (U * U) := by
      calc zv V * zv b * 2 ^ (k + j + l) = (zv V * 2 ^ l) * (zv b * 2 ^ j) * 2 ^ k := by rw [Int.pow_add, Int.pow_add]; grind
        _ = _ := by rw [zV, hb.2]; grind
    rw [e1, e2]
    exact Int.mul_le_mul_of_nonneg_right h (Int.le_of_lt (Int.mul_pos U_pos U_pos)))
  unfold Le; rw [← zV]; exact Int.mul_le_mul_of_nonneg_right h1 (Int.le_of_lt (pow_pos l))
theorem div_Ge {a b : UInt64} {n m q : Int} {k j l : Nat} (ha : DS n k a) (hb : DS m j b) (hm : 0 < m) (h : q * m * 2 ^ k ≤ n * 2 ^ j * 2 ^ l) (bq : q.natAbs ≤ 2 ^ 53) (hl : l ≤ 1000) : Ge (FP.ddiv a b) q l := by
  obtain ⟨V, fV, zV⟩ := rep q l bq hl
  have h1 : zv V ≤ zv (FP.ddiv a b) := ddiv_ge ha.1 hb.1 (hb.pos hm) (notNan fV) (by
    refine le_cancel (pow_pos (k + j + l)) ?_
    have e1 : zv a * U * 2 ^ (k + j + l) = (n * 2 ^ j * 2 ^ l) * (U * U) := by
      calc zv a * U * 2 ^ (k + j + l) = (zv a * 2 ^ k) * U * 2 ^ j * 2 ^ l := by rw [Int.pow_add, Int.pow_add]; grind
        _ = _ := by rw [ha.2]; grind
    have e2 : zv V * zv b * 2 ^ (k + j + l) = (q * m * 2 ^ k) * (U * U) := by
      calc zv V * zv b * 2 ^ (k + j + l) = (zv V * 2 ^ l) * (zv b * 2 ^ j) * 2 ^ k := by rw [Int.pow_add, Int.pow_add]; grind
        _ = _ := by rw [zV, hb.2]; grind
    rw [e1, e2]
    exact Int.mul_le_mul_of_nonneg_right h (Int.le_of_lt (Int.mul_pos U_pos U_pos)))
  unfold Ge; rw [← zV]; exact Int.mul_le_mul_of_nonneg_right h1 (Int.le_of_lt (pow_pos l))
theorem DS.div {a b : UInt64} {n m q : Int} {k j l : Nat} (ha : DS n k a) (hb : DS m j b) (hm : 0 < m) (h : n * 2 ^ j * 2 ^ l = q * m * 2 ^ k) (bq : q.natAbs ≤ 2 ^ 53) (hl : l ≤ 1000) : DS q l (FP.ddiv a b) :=
  DS.of (ddiv_nn ha.1 hb.1 (hb.pos hm)) (div_Ge ha hb hm (Int.le_of_eq h.symm) bq hl) (div_Le ha hb hm (Int.le_of_eq h) bq hl) bq hl
/-! comparisons -/
theorem cmp_zv {a b : UInt64} (ha : Core.val64 a ≠ .nan) (hb : Core.val64 b ≠ .nan) : FP.dcmp a b = some (compare (zv a) (zv b)) := Core.dcmp_zval ha hb
theorem cmpV_of {a b : UInt64} (ha : Core.val64 a ≠ .nan) (hb : Core.val64 b ≠ .nan) (o : ClassFile.CmpOp) : Op.cmpValue (FP.dcmp a b) o = if zv a < zv b then -1 else if zv a = zv b then 0 else 1 := by
  rw [cmp_zv ha hb, Core.compare_ite]
  split
  · rfl
  · split <;> rfl
theorem cmp_gt {a b : UInt64} (ha : Core.val64 a ≠ .nan) (hb : Core.val64 b ≠ .nan) (h : zv b < zv a) (o : ClassFile.CmpOp) : Op.cmpValue (FP.dcmp a b) o = 1 := by
  rw [cmpV_of ha hb, if_neg (by omega), if_neg (by omega)]
theorem cmp_lt {a b : UInt64} (ha : Core.val64 a ≠ .nan) (hb : Core.val64 b ≠ .nan) (h : zv a < zv b) (o : ClassFile.CmpOp) : Op.cmpValue (FP.dcmp a b) o = -1 := by
  rw [cmpV_of ha hb, if_pos h]
theorem cmp_eq {a b : UInt64} (ha : Core.val64 a ≠ .nan) (hb : Core.val64 b ≠ .nan) (h : zv a = zv b) (o : ClassFile.CmpOp) : Op.cmpValue (FP.dcmp a b) o = 0 := by
  rw [cmpV_of ha hb, if_neg (by omega), if_pos h]
theorem zv_zero : zv FP.dconst0 = 0 := Core.zval64_zero
theorem cmp_neg {a b : UInt64} {k : Int32} {o : ClassFile.CmpOp} (h : Op.cmpValue (FP.dcmp a b) o = k) (ha : Core.val64 a ≠ .nan) (hb : Core.val64 b ≠ .nan) : k < 0 ↔ zv a < zv b := by
  rw [← h, cmpV_of ha hb]; split
  · exact ⟨fun _ => by assumption, fun _ => by decide⟩
  · split
    · exact ⟨fun h => absurd h (by decide), fun h => absurd h (by assumption)⟩
    · exact ⟨fun h => absurd h (by decide), fun h => absurd h (by assumption)⟩
theorem cmp_pos {a b : UInt64} {k : Int32} {o : ClassFile.CmpOp} (h : Op.cmpValue (FP.dcmp a b) o = k) (ha : Core.val64 a ≠ .nan) (hb : Core.val64 b ≠ .nan) : 0 < k ↔ zv b < zv a := by
  rw [← h, cmpV_of ha hb]; split
  · exact ⟨fun h => absurd h (by decide), fun h => by omega⟩
  · split
    · exact ⟨fun h => absurd h (by decide), fun h => by omega⟩
    · exact ⟨fun h => by omega, fun _ => by decide⟩
theorem cmp_nul {a b : UInt64} {k : Int32} {o : ClassFile.CmpOp} (h : Op.cmpValue (FP.dcmp a b) o = k) (ha : Core.val64 a ≠ .nan) (hb : Core.val64 b ≠ .nan) : k = 0 ↔ zv a = zv b := by
  rw [← h, cmpV_of ha hb]; split
  · exact ⟨fun h => absurd h (by decide), fun h => by omega⟩
  · split
    · exact ⟨fun _ => by assumption, fun _ => rfl⟩
    · exact ⟨fun h => absurd h (by decide), fun h => by omega⟩
theorem lt_of {a b : UInt64} {n m : Int} {k : Nat} (h1 : Le a n k) (h2 : Ge b m k) (h : n < m) : zv a < zv b := by
  unfold Le at h1; unfold Ge at h2
  have : n * U < m * U := Int.mul_lt_mul_of_pos_right h U_pos
  exact Int.lt_of_mul_lt_mul_right (a := 2 ^ k) (by omega) (Int.le_of_lt (pow_pos k))
theorem le_of {a b : UInt64} {n m : Int} {k : Nat} (h1 : Le a n k) (h2 : Ge b m k) (h : n ≤ m) : zv a ≤ zv b := by
  unfold Le at h1; unfold Ge at h2
  have : n * U ≤ m * U := Int.mul_le_mul_of_nonneg_right h (Int.le_of_lt U_pos)
  exact Int.le_of_mul_le_mul_right (a := 2 ^ k) (by omega) (pow_pos k)
theorem DS.cmp {a b : UInt64} {n m : Int} {k : Nat} (ha : DS n k a) (hb : DS m k b) (o : ClassFile.CmpOp) : Op.cmpValue (FP.dcmp a b) o = if n < m then -1 else if n = m then 0 else 1 := by
  rw [cmpV_of (notNan ha.1) (notNan hb.1)]
  by_cases h1 : n < m
  · rw [if_pos h1, if_pos (lt_of ha.le hb.ge h1)]
  · by_cases h2 : n = m
    · have e : zv a = zv b := by
        subst h2; have := le_of ha.le hb.ge (Int.le_refl _); have := le_of hb.le ha.ge (Int.le_refl _); omega
      rw [if_neg h1, if_pos h2, if_neg (by omega), if_pos e]
    · have := lt_of hb.le ha.ge (show m < n by omega)
      rw [if_neg h1, if_neg h2, if_neg (by omega), if_neg (by omega)]
theorem DS.zero : DS 0 0 FP.dconst0 := ⟨⟨false, 0, _, Core.val64_dconst0⟩, by
  have : zv FP.dconst0 = 0 := Core.zval64_zero
  rw [this]; simp⟩
theorem DS.one : DS 1 0 FP.dconst1 := DS.int Core.dint_one
theorem zv_one : zv FP.dconst1 = U := by have := DS.one.2; rwa [Int.pow_zero, Int.mul_one, Int.one_mul] at this
theorem DS.noNaN {n : Int} {k : Nat} {a : UInt64} (h : DS n k a) : Jvm.Free.Fl.NoNaN64 a := (Jvm.Free.Fl.fin64_core.mpr h.1).noNaN
theorem noNaN_of {a : UInt64} (h : Core.val64 a ≠ .nan) : Jvm.Free.Fl.NoNaN64 a := Jvm.Free.Fl.noNaN64_no.mpr ((Core.notNaN_iff a).mpr h)
end Jvm.OwnFP
namespace Jvm.OwnFP
open Jvm.FP
theorem sgn_pos {a : UInt64} (h : 0 < zv a) : Core.sgn (Core.val64 a) = false := by
  unfold zv Core.zval at h
  cases e : Core.sgn (Core.val64 a) with
  | false => rfl
  | true => rw [e] at h; simp only [Core.signed, if_true] at h; omega
/-- one quotient by two roads -/
theorem DS.div_same {a a' b b' : UInt64} {n d : Int} {k j : Nat} (ha : DS n k a) (ha' : DS n k a') (hb : DS d j b) (hb' : DS d j b') (hn : 0 < n) (hd : 0 < d) : FP.ddiv a b = FP.ddiv a' b' := by
  have e1 : zv a = zv a' := mul_cancel (pow_pos k) (by rw [ha.2, ha'.2])
  have e2 : zv b = zv b' := mul_cancel (pow_pos j) (by rw [hb.2, hb'.2])
  refine ddiv_congr ha.1 hb.1 (hb.pos hd) ha'.1 hb'.1 (hb'.pos hd) ?_ (by rw [e1, e2])
  rw [sgn_pos (ha.pos hn), sgn_pos (ha'.pos hn)]
end Jvm.OwnFP
namespace Jvm.OwnFP
open Jvm.FP
theorem Le.neg {a : UInt64} {n : Int} {k : Nat} (h : Le a n k) : Ge (FP.dneg a) (-n) k := by unfold Le at h; unfold Ge; rw [zv_dneg, Int.neg_mul, Int.neg_mul]; omega
theorem Ge.neg {a : UInt64} {n : Int} {k : Nat} (h : Ge a n k) : Le (FP.dneg a) (-n) k := by unfold Ge at h; unfold Le; rw [zv_dneg, Int.neg_mul, Int.neg_mul]; omega
theorem sub_Le {a b : UInt64} {n m q : Int} {k : Nat} (fa : Core.DFin a) (fb : Core.DFin b) (ha : Le a n k) (hb : Ge b m k) (h : n - m ≤ q) (bq : q.natAbs ≤ 2 ^ 53) (hk : k ≤ 1000) : Le (FP.dsub a b) q k := by
  rw [dsub_dadd fb]; exact add_Le fa (fin_dneg fb) ha hb.neg (by omega) bq hk
theorem sub_Ge {a b : UInt64} {n m q : Int} {k : Nat} (fa : Core.DFin a) (fb : Core.DFin b) (ha : Ge a n k) (hb : Le b m k) (h : q ≤ n - m) (bq : q.natAbs ≤ 2 ^ 53) (hk : k ≤ 1000) : Ge (FP.dsub a b) q k := by
  rw [dsub_dadd fb]; exact add_Ge fa (fin_dneg fb) ha hb.neg (by omega) bq hk
/-- one quotient at two scales -/
theorem DS.div_scale {a a' b b' : UInt64} {n d : Int} {k k' : Nat} (ha : DS n k a) (ha' : DS n k' a') (hb : DS d k b) (hb' : DS d k' b') (hn : 0 < n) (hd : 0 < d) : FP.ddiv a b = FP.ddiv a' b' := by
  refine ddiv_congr ha.1 hb.1 (hb.pos hd) ha'.1 hb'.1 (hb'.pos hd) ?_ ?_
  · rw [sgn_pos (ha.pos hn), sgn_pos (ha'.pos hn)]
  · refine mul_cancel (pow_pos (k + k')) ?_
    calc zv a * zv b' * 2 ^ (k + k') = (zv a * 2 ^ k) * (zv b' * 2 ^ k') := by rw [Int.pow_add]; ac_rfl
      _ = (zv a' * 2 ^ k') * (zv b * 2 ^ k) := by rw [ha.2, hb'.2, ha'.2, hb.2]
      _ = zv a' * zv b * 2 ^ (k + k') := by rw [Int.pow_add]; ac_rfl
end Jvm.OwnFP
namespace Jvm.OwnArr
open Jvm Jvm.ClassFile Sem Op Lib Jvm.Free Jvm.Stand Jvm.LawKit Jvm.RoadKit
section
variable {p : Program} {l : Launch} {e : Env} {R : Room} {s : State} {m : MethodId} {args : Array Value} {below : List Frame} {meth : Method} {c : Code} {T : State} {locs : List Loc} {cells slots : Nat} {Z : State} {h h' : Heap} {a b : Addr} {ty : FieldType} {n : Nat} {f : Nat → Value}
/-- the array at a has n places of the kind ty; place j holds f j -/
def Ag (Z : State) (h : Heap) (a : Addr) (ty : FieldType) (n : Nat) (f : Nat → Value) : Prop := ∃ cl : Cell, Arr Z h a cl ty ∧ cl.slots.size = n ∧ ∀ j, j < n → cl.slots[j]? = some (f j)
theorem Ag.lt (F : Ag Z h a ty n f) : a < h.size := by obtain ⟨c, A, -⟩ := F; exact A.lt
theorem Ag.ext (F : Ag Z h a ty n f) (E : Ext h h') : Ag Z h' a ty n f := by obtain ⟨c, A, r⟩ := F; exact ⟨c, A.ext E, r⟩
theorem Ag.other {sl : Nat} {v : Value} (F : Ag Z h b ty n f) (W : Wr h h' a sl v) (q : b ≠ a) : Ag Z h' b ty n f := by obtain ⟨c, A, r⟩ := F; exact ⟨c, A.other W q, r⟩
theorem Ag.keep {ws : List Addr} (F : Ag Z h a ty n f) (K : Keep h h' ws) (q : a ∉ ws) : Ag Z h' a ty n f := by obtain ⟨c, A, r⟩ := F; exact ⟨c, ⟨K.2.1 a c A.1 q, A.2⟩, r⟩
theorem Ag.congr {g : Nat → Value} (F : Ag Z h a ty n f) (q : ∀ j, j < n → f j = g j) : Ag Z h a ty n g := by obtain ⟨c, A, S, H⟩ := F; exact ⟨c, A, S, fun j hj => by rw [H j hj, q j hj]⟩
theorem Ag.set {j : Nat} {v : Value} (F : Ag Z h a ty n f) (W : Wr h h' a j v) : Ag Z h' a ty n (fun i => if i = j then v else f i) := by
  obtain ⟨c, A, S, H⟩ := F
  refine ⟨c.setSlot j v, A.same W, by rw [sz_set]; exact S, fun i hi => ?_⟩
  show (c.slots.setIfInBounds j v)[i]? = some (if i = j then v else f i)
  by_cases q : i = j
  · subst q; rw [if_pos rfl, Array.getElem?_setIfInBounds_self_of_lt (by omega)]
  · rw [if_neg q, Array.getElem?_setIfInBounds_ne (Ne.symm q)]; exact H i hi
theorem Ag.new {k : ClassId} {z : Int32} (A : Arr Z h a (newA k ty z) ty) {N : Nat} (hz : z.toInt = (N : Int)) : Ag Z h a ty N (fun _ => defaultValue ty) := by
  have e : z.toNatClampNeg = N := by rw [Int32.toNatClampNeg]; omega
  refine ⟨_, A, by rw [sz_new, e], fun j hj => ?_⟩
  show (Array.replicate z.toNatClampNeg (defaultValue ty))[j]? = _
  rw [e]; simp [hj]
theorem nat32 {j : Int32} {J : Nat} (hj : j.toInt = (J : Int)) : j.toNatClampNeg = J := by rw [Int32.toNatClampNeg]; omega
theorem inb {cl : Cell} {j : Int32} {J : Nat} (hj : j.toInt = (J : Int)) (S : cl.slots.size = n) (hn : J < n) : ¬ (j < 0 ∨ cl.slots.size ≤ j.toNatClampNeg) := by
  rw [nat32 hj, S]
  rintro (q | q)
  · have := Int32.lt_iff_toInt_lt.mp q; rw [Int32.toInt_zero] at this; omega
  · omega
theorem ldD (X : Stand p l e R s m args below meth c T locs cells slots) (hx : p.tables.exec = Jvm.exec) (hZ : Z.Warmed39 s.vm) (eT : T.heap = h) (F : Ag Z h a .double n f) {j : Int32} {J : Nat} (hj : j.toInt = (J : Int)) (hn : J < n) {x : UInt64} (hv : f J = .double x) {g : JFrame} (hg : g.method = m) {rest : List Value} (hs : g.stack = .int j :: .ref a :: rest) (hd : decode c.code g.pc = .ok (.daload, 1)) {target : State}
    (hr : Steps p.tables e below (T.setTop { g with pc := g.pc + 1, stack := .double x :: rest }) target) : Steps p.tables e below (T.setTop g) target := by
  obtain ⟨cl, A, S, H⟩ := F
  exact X.daload hx (by rw [eT]; exact A.1) (State.isArrayOf_alike hZ.alike A.2.1) A.2.2 (inb hj S hn) (by rw [nat32 hj, H J hn, hv]) hg hs hd _ hr
theorem ldI (X : Stand p l e R s m args below meth c T locs cells slots) (hx : p.tables.exec = Jvm.exec) (hZ : Z.Warmed39 s.vm) (eT : T.heap = h) (F : Ag Z h a .int n f) {j : Int32} {J : Nat} (hj : j.toInt = (J : Int)) (hn : J < n) {x : Int32} (hv : f J = .int x) {g : JFrame} (hg : g.method = m) {rest : List Value} (hs : g.stack = .int j :: .ref a :: rest) (hd : decode c.code g.pc = .ok (.iaload, 1)) {target : State}
    (hr : Steps p.tables e below (T.setTop { g with pc := g.pc + 1, stack := .int x :: rest }) target) : Steps p.tables e below (T.setTop g) target := by
  obtain ⟨cl, A, S, H⟩ := F
  exact X.iaload hx (by rw [eT]; exact A.1) (State.isArrayOf_alike hZ.alike A.2.1) A.2.2 (inb hj S hn) (by rw [nat32 hj, H J hn, hv]) hg hs hd _ hr
theorem ldJ (X : Stand p l e R s m args below meth c T locs cells slots) (hx : p.tables.exec = Jvm.exec) (hZ : Z.Warmed39 s.vm) (eT : T.heap = h) (F : Ag Z h a .long n f) {j : Int32} {J : Nat} (hj : j.toInt = (J : Int)) (hn : J < n) {x : Int64} (hv : f J = .long x) {g : JFrame} (hg : g.method = m) {rest : List Value} (hs : g.stack = .int j :: .ref a :: rest) (hd : decode c.code g.pc = .ok (.laload, 1)) {target : State}
    (hr : Steps p.tables e below (T.setTop { g with pc := g.pc + 1, stack := .long x :: rest }) target) : Steps p.tables e below (T.setTop g) target := by
  obtain ⟨cl, A, S, H⟩ := F
  exact X.laload hx (by rw [eT]; exact A.1) (State.isArrayOf_alike hZ.alike A.2.1) A.2.2 (inb hj S hn) (by rw [nat32 hj, H J hn, hv]) hg hs hd _ hr
theorem lenA (X : Stand p l e R s m args below meth c T locs cells slots) (hx : p.tables.exec = Jvm.exec) (hZ : Z.Warmed39 s.vm) (eT : T.heap = h) (F : Ag Z h a ty n f) {z : Int32} (hz : z.toInt = (n : Int)) {g : JFrame} (hg : g.method = m) {rest : List Value} (hs : g.stack = .ref a :: rest) (hd : decode c.code g.pc = .ok (.arraylength, 1)) {target : State}
    (hr : Steps p.tables e below (T.setTop { g with pc := g.pc + 1, stack := .int z :: rest }) target) : Steps p.tables e below (T.setTop g) target := by
  obtain ⟨cl, A, S, H⟩ := F
  have q : cl.slots.size.toInt32 = z := by
    have h1 := Int32.toInt_lt z
    apply Int32.toInt_inj.mp
    rw [S, hz]; exact Int32.toInt_ofNat_small (by omega)
  exact X.arraylength hx (by rw [eT]; exact A.1) (State.isArrayOf_alike hZ.alike A.2.1) hg hs hd _ (by rw [q]; exact hr)
theorem stDA (X : Stand p l e R s m args below meth c T locs cells slots) (hx : p.tables.exec = Jvm.exec) (hZ : Z.Warmed39 s.vm) (eT : T.heap = h) (F : Ag Z h a .double n f) {j : Int32} {J : Nat} (hj : j.toInt = (J : Int)) (hn : J < n) {x : UInt64} {g : JFrame} (hg : g.method = m) {rest : List Value} (hs : g.stack = .double x :: .int j :: .ref a :: rest) (hd : decode c.code g.pc = .ok (.dastore, 1)) :
    ∃ T' h', Stand p l e R s m args below meth c T' (locs ++ [⟨a, J⟩]) cells slots ∧ T'.heap = h' ∧ Wr h h' a J (.double x) ∧ ∀ target, Steps p.tables e below (T'.setTop { g with pc := g.pc + 1, stack := rest }) target → Steps p.tables e below (T.setTop g) target := by
  obtain ⟨cl, A, S, H⟩ := F
  have q := stD X hx hZ eT A (inb hj S hn) hg hs hd
  rw [nat32 hj] at q; exact q
theorem stIA (X : Stand p l e R s m args below meth c T locs cells slots) (hx : p.tables.exec = Jvm.exec) (hZ : Z.Warmed39 s.vm) (eT : T.heap = h) (F : Ag Z h a .int n f) {j : Int32} {J : Nat} (hj : j.toInt = (J : Int)) (hn : J < n) {x : Int32} {g : JFrame} (hg : g.method = m) {rest : List Value} (hs : g.stack = .int x :: .int j :: .ref a :: rest) (hd : decode c.code g.pc = .ok (.iastore, 1)) :
    ∃ T' h', Stand p l e R s m args below meth c T' (locs ++ [⟨a, J⟩]) cells slots ∧ T'.heap = h' ∧ Wr h h' a J (.int x) ∧ ∀ target, Steps p.tables e below (T'.setTop { g with pc := g.pc + 1, stack := rest }) target → Steps p.tables e below (T.setTop g) target := by
  obtain ⟨cl, A, S, H⟩ := F
  have q := stI X hx hZ eT A (inb hj S hn) hg hs hd
  rw [nat32 hj] at q; exact q
theorem stJA (X : Stand p l e R s m args below meth c T locs cells slots) (hx : p.tables.exec = Jvm.exec) (hZ : Z.Warmed39 s.vm) (eT : T.heap = h) (F : Ag Z h a .long n f) {j : Int32} {J : Nat} (hj : j.toInt = (J : Int)) (hn : J < n) {x : Int64} {g : JFrame} (hg : g.method = m) {rest : List Value} (hs : g.stack = .long x :: .int j :: .ref a :: rest) (hd : decode c.code g.pc = .ok (.lastore, 1)) :
    ∃ T' h', Stand p l e R s m args below meth c T' (locs ++ [⟨a, J⟩]) cells slots ∧ T'.heap = h' ∧ Wr h h' a J (.long x) ∧ ∀ target, Steps p.tables e below (T'.setTop { g with pc := g.pc + 1, stack := rest }) target → Steps p.tables e below (T.setTop g) target := by
  obtain ⟨cl, A, S, H⟩ := F
  have q := stJ X hx hZ eT A (inb hj S hn) hg hs hd
  rw [nat32 hj] at q; exact q
end
end Jvm.OwnArr
namespace Jvm.OwnP2
open Jvm Jvm.ClassFile Sem Op Lib Jvm.Free Jvm.Stand Jvm.LawKit Jvm.RoadKit
theorem pop2D {tb : Tables} [Ours tb] {e : Env} {below : List Frame} {T target : State} {m : MethodId} {c : Code} {g : JFrame} (h : At T m c below) (hx : tb.exec = Jvm.exec) (hg : g.method = m) {x : UInt64} {rest : List Value} (hd : decode c.code g.pc = .ok (.pop2, 1)) (hs : g.stack = .double x :: rest)
    (hr : Steps tb e below (T.setTop { g with pc := g.pc + 1, stack := rest }) target) : Steps tb e below (T.setTop g) target := by
  subst hg
  jvm_step h [h.top, hx, hd, hs]
  exact hr
end Jvm.OwnP2
namespace Jvm.Pilot.@@N@@
open Jvm Jvm.ClassFile Sem Op Lib Jvm.Free Jvm.Stand Jvm.LawKit Jvm.RoadKit Bundle Jvm.Pilot.@@N@@.Jvm.D
open Jvm.OwnFP Jvm.FP
theorem pn_com_example_topple_topple_markov_PoissonWeightsNextPinLaw : plainName "com/example/topple/topple/markov/PoissonWeightsNextPinLaw" = true := by first | (simp [plainName, overriddenIn]; done) | decide +kernel
theorem pn_com_example_topple_topple_markov_PoissonWeights : plainName "com/example/topple/topple/markov/PoissonWeights" = true := by first | (simp [plainName, overriddenIn]; done) | decide +kernel
theorem pd___V : parseMethodDescriptor "()V" = some ⟨[], none⟩ := by decide +kernel
theorem pd__D_V : parseMethodDescriptor "(D)V" = some ⟨[.double], none⟩ := by decide +kernel
theorem pd___D : parseMethodDescriptor "()D" = some ⟨[], some .double⟩ := by decide +kernel
theorem pd___I : parseMethodDescriptor "()I" = some ⟨[], some .int⟩ := by decide +kernel
theorem pd__IDDDDI_Z : parseMethodDescriptor "(IDDDDI)Z" = some ⟨[.int, .double, .double, .double, .double, .int], some .boolean⟩ := by decide +kernel
theorem nat_i {n : Nat} (h : n ≤ 5000) : (Int32.ofNat n).toInt = (n : Int) := Int32.toInt_ofNat_small (by omega)
theorem i_ext {a b : Int32} (h : a.toInt = b.toInt) : a = b := Int32.toInt_inj.mp h
theorem dec_k {M k : Nat} (h : k < M) (h2 : M ≤ 5000) : Int32.ofNat (M - k) + (-1 : Int32) = Int32.ofNat (M - (k + 1)) := by
  apply i_ext
  have e : (-1 : Int32).toInt = -1 := by decide
  have a := nat_i (n := M - k) (by omega); have b := nat_i (n := M - (k + 1)) (by omega)
  rw [Kit.i32_add (by omega) (by omega), b]; omega
theorem pos_k {n : Nat} (h : 0 < n) (h2 : n ≤ 5000) : (0 : Int32) < Int32.ofNat n := by
  rw [Int32.lt_iff_toInt_lt, nat_i h2, Int32.toInt_zero]; omega
theorem lt_k {a b : Nat} (ha : a ≤ 5000) (hb : b ≤ 5000) : Int32.ofNat a < Int32.ofNat b ↔ a < b := by
  rw [Int32.lt_iff_toInt_lt, nat_i ha, nat_i hb]; omega
theorem sub_k {a b : Nat} (h : b ≤ a) (ha : a ≤ 5000) : (Int32.ofNat a - Int32.ofNat b).toInt = ((a - b : Nat) : Int) := by
  have x := nat_i ha; have y := nat_i (n := b) (by omega)
  rw [Kit.i32_sub (by omega) (by omega)]; omega
theorem len_k {a b : Nat} (h : b ≤ a) (ha : a ≤ 5000) : ((Int32.ofNat a - Int32.ofNat b) + (1 : Int32)).toInt = ((a - b + 1 : Nat) : Int) := by
  have x := sub_k h ha; have e : (1 : Int32).toInt = 1 := by decide
  rw [Kit.i32_add (by omega) (by omega)]; omega
theorem sub1_k {a b : Nat} (h : b < a) (ha : a ≤ 5000) : ((Int32.ofNat a - (1 : Int32)) - Int32.ofNat b).toInt = ((a - 1 - b : Nat) : Int) := by
  have x := nat_i ha; have y := nat_i (n := b) (by omega); have e : (1 : Int32).toInt = 1 := by decide
  have z : (Int32.ofNat a - (1 : Int32)).toInt = (a : Int) - 1 := by rw [Kit.i32_sub (by omega) (by omega)]; omega
  rw [Kit.i32_sub (by omega) (by omega)]; omega
theorem fz_k {M F k : Nat} {tm : Nat → UInt64} (h : k < M - F) : (if M - F ≤ (M - k - F) + k then tm (M - F - (M - k - F)) else 0) = tm k := by
  rw [if_pos (by omega), show M - F - (M - k - F) = k by omega]
def mnF (t : Nat) : UInt64 := FP.ddiv (FP.i2d (Int32.ofNat t)) (4611686018427387904 : UInt64)
def prF (t : Nat) : Nat → UInt64
  | 0 => FP.dconst1
  | k + 1 => FP.dmul (prF t k) (FP.ddiv (FP.i2d (Int32.ofNat (t / 2 - k))) (mnF t))
def tmF (t : Nat) : Nat → UInt64
  | 0 => FP.dconst1
  | k + 1 => FP.ddiv (FP.dmul (tmF t k) (FP.i2d (Int32.ofNat (t / 2 - k)))) (mnF t)
--CUT
theorem two_c : DS 2 0 (4611686018427387904 : UInt64) := ⟨by rw [Core.fin_bits]; decide, by decide +kernel⟩
theorem i_ds {n : Nat} (h : n ≤ 5000) : DS (n : Int) 0 (FP.i2d (Int32.ofNat n)) := by
  have := DS.i2d (Int32.ofNat n); rwa [nat_i h] at this
theorem mn_ds {t : Nat} (h : t ≤ 5000) : DS (t : Int) 1 (mnF t) :=
  (i_ds h).div two_c (by decide) (by simp) (by omega) (by decide)
theorem ratio_k {t i : Nat} (h1 : 1 ≤ t) (h2 : t ≤ 5000) (hi : i ≤ t / 2) : Core.DFin (FP.ddiv (FP.i2d (Int32.ofNat i)) (mnF t)) ∧ 0 ≤ zv (FP.ddiv (FP.i2d (Int32.ofNat i)) (mnF t)) ∧ zv (FP.ddiv (FP.i2d (Int32.ofNat i)) (mnF t)) ≤ U := by
  have di := i_ds (n := i) (by omega)
  have dm := mn_ds h2
  have nn := ddiv_nn di.1 dm.1 (dm.pos (by omega))
  have g : Ge (FP.ddiv (FP.i2d (Int32.ofNat i)) (mnF t)) 0 0 := div_Ge di dm (by omega) (by rw [Int.pow_zero, Int.mul_one, Int.pow_one]; omega) (by decide) (by decide)
  have l : Le (FP.ddiv (FP.i2d (Int32.ofNat i)) (mnF t)) 1 0 := div_Le di dm (by omega) (by rw [Int.pow_zero, Int.mul_one, Int.pow_one]; omega) (by decide) (by decide)
  refine ⟨fin_of nn g l (by decide) (by decide) (by decide) (by decide), ?_, ?_⟩
  · unfold Ge at g; rwa [Int.pow_zero, Int.mul_one, Int.zero_mul] at g
  · unfold Le at l; rwa [Int.pow_zero, Int.mul_one, Int.one_mul] at l
theorem mul01 {a b : UInt64} (fa : Core.DFin a) (a0 : 0 ≤ zv a) (a1 : zv a ≤ U) (fb : Core.DFin b) (b0 : 0 ≤ zv b) : Core.DFin (FP.dmul a b) ∧ 0 ≤ zv (FP.dmul a b) ∧ zv (FP.dmul a b) ≤ zv b := by
  have l := dmul_le (V := b) fa fb (notNan fb) (by rw [Int.mul_comm]; exact Int.mul_le_mul_of_nonneg_left a1 b0)
  have g := dmul_ge (V := FP.dconst0) fa fb (notNan DS.zero.1) (by rw [zv_zero, Int.zero_mul]; exact Int.mul_nonneg a0 b0)
  rw [zv_zero] at g
  exact ⟨fin_between (dmul_nn fa fb) DS.zero.1 fb (by rw [zv_zero]; exact g) l, g, l⟩
theorem pr_ok {t : Nat} (h1 : 1 ≤ t) (h2 : t ≤ 5000) (k : Nat) : Core.DFin (prF t k) ∧ 0 ≤ zv (prF t k) ∧ zv (prF t k) ≤ U := by
  induction k with
  | zero => exact ⟨DS.one.1, by show 0 ≤ zv FP.dconst1; rw [zv_one]; exact Int.le_of_lt U_pos, by show zv FP.dconst1 ≤ U; rw [zv_one]; exact Int.le_refl _⟩
  | succ k ih =>
    obtain ⟨fa, a0, a1⟩ := ih
    obtain ⟨fb, b0, b1⟩ := ratio_k h1 h2 (i := t / 2 - k) (by omega)
    obtain ⟨x, y, z⟩ := mul01 fa a0 a1 fb b0
    exact ⟨x, y, Int.le_trans z b1⟩
theorem tm_ok {t : Nat} (h1 : 1 ≤ t) (h2 : t ≤ 5000) (k : Nat) : (Core.DFin (tmF t k) ∧ 0 ≤ zv (tmF t k) ∧ zv (tmF t k) ≤ U) ∧ Core.DFin (FP.dmul (tmF t k) (FP.i2d (Int32.ofNat (t / 2 - k)))) := by
  induction k with
  | zero =>
    have o : Core.DFin (tmF t 0) ∧ 0 ≤ zv (tmF t 0) ∧ zv (tmF t 0) ≤ U := ⟨DS.one.1, by show 0 ≤ zv FP.dconst1; rw [zv_one]; exact Int.le_of_lt U_pos, by show zv FP.dconst1 ≤ U; rw [zv_one]; exact Int.le_refl _⟩
    have di := i_ds (n := t / 2 - 0) (by omega)
    have d0 : 0 ≤ zv (FP.i2d (Int32.ofNat (t / 2 - 0))) := by have := le_of DS.zero.le di.ge (by omega); rwa [zv_zero] at this
    exact ⟨o, (mul01 o.1 o.2.1 o.2.2 di.1 d0).1⟩
  | succ k ih =>
    obtain ⟨⟨fa, a0, a1⟩, -⟩ := ih
    have di := i_ds (n := t / 2 - k) (by omega)
    have d0 : 0 ≤ zv (FP.i2d (Int32.ofNat (t / 2 - k))) := by have := le_of DS.zero.le di.ge (by omega); rwa [zv_zero] at this
    obtain ⟨fx, x0, x1⟩ := mul01 fa a0 a1 di.1 d0
    have dm := mn_ds h2
    have pm := dm.pos (by omega)
    have lm : zv (FP.dmul (tmF t k) (FP.i2d (Int32.ofNat (t / 2 - k)))) ≤ zv (mnF t) := by
      have u := le_of ((di.le).up 1) dm.ge (by rw [Int.pow_one]; omega)
      exact Int.le_trans x1 u
    have l := ddiv_le (V := FP.dconst1) fx dm.1 pm (notNan DS.one.1) (by rw [zv_one, Int.mul_comm]; exact Int.mul_le_mul_of_nonneg_left lm (Int.le_of_lt U_pos))
    have g := ddiv_ge (V := FP.dconst0) fx dm.1 pm (notNan DS.zero.1) (by rw [zv_zero, Int.zero_mul]; exact Int.mul_nonneg x0 (Int.le_of_lt U_pos))
    rw [zv_one] at l; rw [zv_zero] at g
    have o : Core.DFin (tmF t (k + 1)) ∧ 0 ≤ zv (tmF t (k + 1)) ∧ zv (tmF t (k + 1)) ≤ U := ⟨fin_between (ddiv_nn fx dm.1 pm) DS.zero.1 DS.one.1 (by rw [zv_zero]; exact g) (by rw [zv_one]; exact l), g, l⟩
    have di2 := i_ds (n := t / 2 - (k + 1)) (by omega)
    have d02 : 0 ≤ zv (FP.i2d (Int32.ofNat (t / 2 - (k + 1)))) := by have := le_of DS.zero.le di2.ge (by omega); rwa [zv_zero] at this
    exact ⟨o, (mul01 o.1 o.2.1 o.2.2 di2.1 d02).1⟩
/-- an upper bound n / 2^e of the product, kept short -/
def bnd : Nat → Nat × Nat
  | 0 => (1, 0)
  | s + 1 => if (bnd s).1 * (((1000 - s) * 64 + 999) / 1000) < 1024 then ((bnd s).1 * (((1000 - s) * 64 + 999) / 1000), (bnd s).2 + 6) else (((bnd s).1 * (((1000 - s) * 64 + 999) / 1000) + 63) / 64, (bnd s).2)
theorem bnd_end : bnd 920 = (39, 1002) := by decide +kernel
theorem bnd_n (s : Nat) : (bnd s).1 < 1024 := by
  induction s with
  | zero => decide
  | succ s ih =>
    unfold bnd
    generalize hc : ((1000 - s) * 64 + 999) / 1000 = c
    have c64 : c ≤ 64 := by omega
    have m := Nat.mul_le_mul (show (bnd s).1 ≤ 1023 by omega) c64
    split
    · assumption
    · show ((bnd s).1 * c + 63) / 64 < 1024; omega
theorem bnd_mono (s : Nat) : (bnd s).2 ≤ (bnd (s + 1)).2 := by
  rw [show bnd (s + 1) = if (bnd s).1 * (((1000 - s) * 64 + 999) / 1000) < 1024 then ((bnd s).1 * (((1000 - s) * 64 + 999) / 1000), (bnd s).2 + 6) else (((bnd s).1 * (((1000 - s) * 64 + 999) / 1000) + 63) / 64, (bnd s).2) from rfl]
  split
  · show (bnd s).2 ≤ (bnd s).2 + 6; omega
  · exact Nat.le_refl _
theorem bnd_le {s r : Nat} (h : s ≤ r) : (bnd s).2 ≤ (bnd r).2 := by
  induction h with
  | refl => exact Nat.le_refl _
  | step h ih => exact Nat.le_trans ih (bnd_mono _)
theorem bnd_e {s : Nat} (h : s ≤ 920) : (bnd s).2 ≤ 1002 := by have := bnd_le h; rwa [bnd_end] at this
theorem bnd_step (s : Nat) : (bnd s).1 * (((1000 - s) * 64 + 999) / 1000) * 2 ^ (bnd (s + 1)).2 ≤ (bnd (s + 1)).1 * 2 ^ ((bnd s).2 + 6) := by
  rw [show bnd (s + 1) = if (bnd s).1 * (((1000 - s) * 64 + 999) / 1000) < 1024 then ((bnd s).1 * (((1000 - s) * 64 + 999) / 1000), (bnd s).2 + 6) else (((bnd s).1 * (((1000 - s) * 64 + 999) / 1000) + 63) / 64, (bnd s).2) from rfl]
  generalize (bnd s).1 * (((1000 - s) * 64 + 999) / 1000) = x
  split
  · exact Nat.le_refl _
  · show x * 2 ^ (bnd s).2 ≤ (x + 63) / 64 * 2 ^ ((bnd s).2 + 6)
    rw [Nat.pow_add, show (2 : Nat) ^ 6 = 64 by decide, Nat.mul_comm (2 ^ (bnd s).2) 64, ← Nat.mul_assoc]
    exact Nat.mul_le_mul_right _ (by omega)
theorem acA (a r x y z : Int) : (a * r * z) * (x * y) = ((a * x) * (r * y)) * z := by ac_rfl
theorem acB (n u x : Int) : n * u * u * x = (n * x) * (u * u) := by ac_rfl
theorem acC (n c u x : Int) : ((n * u) * (c * u)) * x = (n * c * x) * (u * u) := by ac_rfl
theorem mulLe {a r : UInt64} {n c n' : Int} {e f e' : Nat} (fa : Core.DFin a) (fr : Core.DFin r) (a0 : 0 ≤ zv a) (r0 : 0 ≤ zv r) (ha : Le a n e) (hr : Le r c f) (hn : 0 ≤ n) (h : n * c * 2 ^ e' ≤ n' * 2 ^ (e + f)) (bn : n'.natAbs < 2 ^ 53) (he : e' ≤ 1074) : Le (FP.dmul a r) n' e' := by
  obtain ⟨V, fV, zV⟩ := repE n' (1074 - e') bn (by omega)
  have pu := U_pos
  have vU : zv V * 2 ^ e' = n' * U := by rw [zV, U_pow e' he, Int.mul_assoc]
  have k1 : (zv a * 2 ^ e) * (zv r * 2 ^ f) ≤ (n * U) * (c * U) := Int.mul_le_mul ha hr (Int.mul_nonneg r0 (Int.le_of_lt (pow_pos f))) (Int.mul_nonneg hn (Int.le_of_lt pu))
  have k2 : (zv a * zv r * 2 ^ e') * 2 ^ (e + f) ≤ (zv V * U * 2 ^ e') * 2 ^ (e + f) := by
    have q1 : (zv a * zv r * 2 ^ e') * 2 ^ (e + f) = ((zv a * 2 ^ e) * (zv r * 2 ^ f)) * 2 ^ e' := by rw [Int.pow_add]; exact acA _ _ _ _ _
    have q2 : (zv V * U * 2 ^ e') * 2 ^ (e + f) = (n' * 2 ^ (e + f)) * (U * U) := by rw [Int.mul_right_comm (zv V) U, vU]; exact acB _ _ _
    have q3 : ((n * U) * (c * U)) * 2 ^ e' = (n * c * 2 ^ e') * (U * U) := acC _ _ _ _
    rw [q1, q2]
    refine Int.le_trans (Int.mul_le_mul_of_nonneg_right k1 (Int.le_of_lt (pow_pos e'))) ?_
    rw [q3]
    exact Int.mul_le_mul_of_nonneg_right h (Int.mul_nonneg (Int.le_of_lt pu) (Int.le_of_lt pu))
  have k3 : zv a * zv r ≤ zv V * U := le_cancel (pow_pos e') (le_cancel (pow_pos (e + f)) k2)
  have k4 := dmul_le fa fr (notNan fV) k3
  show zv (FP.dmul a r) * 2 ^ e' ≤ n' * U
  rw [← vU]; exact Int.mul_le_mul_of_nonneg_right k4 (Int.le_of_lt (pow_pos e'))
theorem ratio_b {t s : Nat} (h1 : 2000 ≤ t) (h2 : t ≤ 5000) (hs : s ≤ 1000) : Le (FP.ddiv (FP.i2d (Int32.ofNat (1000 - s))) (mnF t)) ((((1000 - s) * 64 + 999) / 1000 : Nat) : Int) 6 := by
  have di := i_ds (n := 1000 - s) (by omega)
  have dm := mn_ds h2
  generalize hc : ((1000 - s) * 64 + 999) / 1000 = c
  have g : (1000 - s) * 128 ≤ c * t := by
    have x1 : (1000 - s) * 64 ≤ c * 1000 := by omega
    have x2 : c * 2000 ≤ c * t := Nat.mul_le_mul_left c h1
    omega
  refine div_Le di dm (by omega) ?_ (by omega) (by decide)
  rw [Int.pow_zero, Int.mul_one, Int.pow_one, show (2 : Int) ^ 6 = 64 by decide]
  have g' : (((1000 - s) * 128 : Nat) : Int) ≤ ((c * t : Nat) : Int) := Int.ofNat_le.mpr g
  rw [Int.natCast_mul c t] at g'
  omega
theorem pr_b {t : Nat} (h1 : 2000 ≤ t) (h2 : t ≤ 5000) (s : Nat) (hs : s ≤ 920) : Le (prF t (t / 2 - 1000 + s)) ((bnd s).1 : Int) (bnd s).2 := by
  induction s with
  | zero =>
    have := (pr_ok (t := t) (by omega) h2 (t / 2 - 1000 + 0)).2.2
    show zv (prF t (t / 2 - 1000 + 0)) * 2 ^ 0 ≤ 1 * U
    rw [Int.pow_zero, Int.mul_one, Int.one_mul]; exact this
  | succ s ih =>
    have a := pr_ok (t := t) (by omega) h2 (t / 2 - 1000 + s)
    have e : t / 2 - (t / 2 - 1000 + s) = 1000 - s := by omega
    have r := ratio_k (t := t) (i := 1000 - s) (by omega) h2 (by omega)
    show Le (FP.dmul (prF t (t / 2 - 1000 + s)) (FP.ddiv (FP.i2d (Int32.ofNat (t / 2 - (t / 2 - 1000 + s)))) (mnF t))) _ _
    rw [e]
    refine mulLe a.1 r.1 a.2.1 r.2.1 (ih (by omega)) (ratio_b h1 h2 (by omega)) (Int.natCast_nonneg _) ?_ ?_ ?_
    · have := Int.ofNat_le.mpr (bnd_step s)
      rw [Int.natCast_mul, Int.natCast_mul, Int.natCast_mul, Int.natCast_pow, Int.natCast_pow] at this
      exact this
    · have := bnd_n (s + 1); omega
    · have := bnd_e hs; omega
theorem fin_eps : Core.DFin (118622047889322841 : UInt64) := by rw [Core.fin_bits]; decide
theorem eps_b : 39 * U < zv (118622047889322841 : UInt64) * 2 ^ 1002 := by decide +kernel
theorem pr_small {t : Nat} (h1 : 2000 ≤ t) (h2 : t ≤ 5000) : zv (prF t (t / 2 - 1000 + 920)) < zv (118622047889322841 : UInt64) := by
  have h := pr_b h1 h2 920 (Nat.le_refl _)
  rw [bnd_end] at h
  have h' : zv (prF t (t / 2 - 1000 + 920)) * 2 ^ 1002 ≤ 39 * U := h
  have := eps_b
  exact Int.lt_of_mul_lt_mul_right (Int.lt_of_le_of_lt h' this) (Int.le_of_lt (pow_pos 1002))
theorem least {P : Nat → Prop} (n : Nat) (h : P n) : ∃ k, k ≤ n ∧ P k ∧ ∀ m, m < k → ¬ P m := by
  induction n using Nat.strongRecOn with
  | ind n ih =>
    by_cases q : ∃ m, m < n ∧ P m
    · obtain ⟨m, hm, pm⟩ := q
      obtain ⟨k, a, b, c⟩ := ih m hm pm
      exact ⟨k, by omega, b, c⟩
    · exact ⟨n, Nat.le_refl _, h, fun m hm pm => q ⟨m, hm, pm⟩⟩
/-- where the search for the fewest ends -/
theorem stop_k {t : Nat} (h1 : 2000 ≤ t) (h2 : t ≤ 5000) : ∃ k, k ≤ t / 2 - 81 ∧ zv (prF t (k + 1)) < zv (118622047889322841 : UInt64) ∧ ∀ m, m < k → ¬ zv (prF t (m + 1)) < zv (118622047889322841 : UInt64) := by
  obtain ⟨k, a, b, c⟩ := least (P := fun k => zv (prF t (k + 1)) < zv (118622047889322841 : UInt64)) (t / 2 - 1000 + 919) (pr_small h1 h2)
  exact ⟨k, by omega, b, c⟩

def nnB (a : UInt64) : Bool := decide (a &&& 0x7fffffffffffffff ≤ 0x7ff0000000000000)
theorem nn_of {a : UInt64} (h : nnB a = true) : Jvm.Free.Fl.NoNaN64 a := of_decide_eq_true h
def WF (j : Nat) : Nat → UInt64
  | 0 => tmF j (j / 2)
  | c + 1 => if c + 1 ≤ j / 2 then tmF j (j / 2 - (c + 1)) else FP.ddiv (FP.dmul (WF j c) (mnF j)) (FP.i2d (Int32.ofNat (c + 1)))
theorem mn_nn : ∀ j : Fin 16, nnB (mnF j.val) = true := by decide +kernel
theorem mn_md : ∀ j : Fin 16, FP.d2i (mnF j.val) = Int32.ofNat (j.val / 2) := by decide +kernel
theorem mnL_md : ∀ j : Fin 2048, FP.d2i (mnF (2000 + j.val)) = Int32.ofNat ((2000 + j.val) / 2) := by decide +kernel
theorem hp_c : ∀ j : Fin 16, ∀ k : Fin 7, k.val < j.val / 2 → nnB (FP.ddiv (FP.i2d (Int32.ofNat (j.val / 2 - k.val))) (mnF j.val)) = true ∧ nnB (prF j.val (k.val + 1)) = true ∧ ¬ cmpValue (FP.dcmp (prF j.val (k.val + 1)) (118622047889322841 : UInt64)) .g < 0 := by decide +kernel
theorem ht_c : ∀ j : Fin 16, ∀ k : Fin 7, k.val < j.val / 2 → nnB (FP.dmul (tmF j.val k.val) (FP.i2d (Int32.ofNat (j.val / 2 - k.val)))) = true ∧ nnB (tmF j.val (k.val + 1)) = true := by decide +kernel
theorem j_k (x : Int32) : ∃ j : Nat, j < 16 ∧ (x &&& (15 : Int32)) = Int32.ofNat j := by
  have h1 := Kit.i32_mask x 15 (k := 4) (by decide) (by decide)
  refine ⟨(x &&& (15 : Int32)).toInt.toNat, by omega, i_ext ?_⟩
  rw [nat_i (by omega)]; omega
theorem md_k : ∀ j : Fin 16, Int32.ofNat j.val >>> ((1 : Int32) &&& 31) = Int32.ofNat (j.val / 2) := by decide +kernel
theorem t_k (x y : Int32) : ∃ j : Nat, j < 2048 ∧ (((2000 : Int32) + ((x &&& (1023 : Int32)) <<< ((1 : Int32) &&& 31))) + (y &&& (1 : Int32))) = Int32.ofNat (2000 + j) := by
  have h1 := Kit.i32_mask x 1023 (k := 10) (by decide) (by decide)
  have h2 := Kit.i32_mask y 1 (k := 1) (by decide) (by decide)
  have h3 := Kit.i32_shl (x &&& (1023 : Int32)) ((1 : Int32) &&& 31) (k := 1) (by decide) (by omega) (by omega)
  have e : (2000 : Int32).toInt = 2000 := by decide
  have h4 : ((2000 : Int32) + ((x &&& (1023 : Int32)) <<< ((1 : Int32) &&& 31))).toInt = 2000 + (x &&& (1023 : Int32)).toInt * 2 ^ 1 := by
    rw [Kit.i32_add (by omega) (by omega), e, h3]
  have h5 : (((2000 : Int32) + ((x &&& (1023 : Int32)) <<< ((1 : Int32) &&& 31))) + (y &&& (1 : Int32))).toInt = 2000 + (x &&& (1023 : Int32)).toInt * 2 ^ 1 + (y &&& (1 : Int32)).toInt := by
    rw [Kit.i32_add (by omega) (by omega), h4]
  refine ⟨((x &&& (1023 : Int32)).toInt * 2 ^ 1 + (y &&& (1 : Int32)).toInt).toNat, by omega, i_ext ?_⟩
  rw [h5, nat_i (by omega)]; omega
theorem sk_k {c : Int32} {n F : Nat} (h : c.toInt = (n : Int)) (h1 : n < F) (h2 : F ≤ 5000) : c < Int32.ofNat F := by
  rw [Int32.lt_iff_toInt_lt, nat_i h2, h]; omega
theorem z_c : cmpValue (FP.dcmp (0 : UInt64) FP.dconst0) .l = 0 := by decide +kernel
theorem nlo_0 : ∀ j : Fin 16, ¬ Int32.ofNat (j.val / 2) < (0 : Int32) → ((0 : Int32) - Int32.ofNat 0).toInt = ((0 : Nat) : Int) ∧ 0 < j.val / 2 - 0 + 1 ∧ tmF j.val (j.val / 2 - 0 - 0) = WF j.val 0 := by decide +kernel
theorem nhi_0 : ∀ j : Fin 16, Int32.ofNat (j.val / 2) < (0 : Int32) → nnB (FP.dmul (0 : UInt64) (mnF j.val)) = true ∧ nnB (WF j.val 0) = true ∧ FP.ddiv (FP.dmul (0 : UInt64) (mnF j.val)) (FP.i2d (0 : Int32)) = WF j.val 0 := by decide +kernel
theorem oke_0 : ∀ j : Fin 16, (0 : Int32) = Int32.ofNat (j.val / 2) → cmpValue (FP.dcmp (WF j.val 0) FP.dconst1) .l = 0 := by decide +kernel
theorem okl_0 : ∀ j : Fin 16, ¬ (0 : Int32) = Int32.ofNat (j.val / 2) → (0 : Int32) < Int32.ofNat (j.val / 2) → nnB (FP.dmul (WF j.val 1) (FP.i2d ((0 : Int32) + (1 : Int32)))) = true ∧ nnB (FP.ddiv (FP.dmul (WF j.val 1) (FP.i2d ((0 : Int32) + (1 : Int32)))) (mnF j.val)) = true ∧ cmpValue (FP.dcmp (WF j.val 0) (FP.ddiv (FP.dmul (WF j.val 1) (FP.i2d ((0 : Int32) + (1 : Int32)))) (mnF j.val))) .l = 0 := by decide +kernel
theorem okg_0 : ∀ j : Fin 16, ¬ (0 : Int32) = Int32.ofNat (j.val / 2) → ¬ (0 : Int32) < Int32.ofNat (j.val / 2) → nnB (FP.dmul FP.dconst0 (mnF j.val)) = true ∧ nnB (FP.ddiv (FP.dmul FP.dconst0 (mnF j.val)) (FP.i2d (0 : Int32))) = true ∧ cmpValue (FP.dcmp (WF j.val 0) (FP.ddiv (FP.dmul FP.dconst0 (mnF j.val)) (FP.i2d (0 : Int32)))) .l = 0 := by decide +kernel
theorem nlo_1 : ∀ j : Fin 16, ¬ Int32.ofNat (j.val / 2) < (1 : Int32) → ((1 : Int32) - Int32.ofNat 0).toInt = ((1 : Nat) : Int) ∧ 1 < j.val / 2 - 0 + 1 ∧ tmF j.val (j.val / 2 - 0 - 1) = WF j.val 1 := by decide +kernel
theorem nhi_1 : ∀ j : Fin 16, Int32.ofNat (j.val / 2) < (1 : Int32) → nnB (FP.dmul (WF j.val 0) (mnF j.val)) = true ∧ nnB (WF j.val 1) = true ∧ FP.ddiv (FP.dmul (WF j.val 0) (mnF j.val)) (FP.i2d (1 : Int32)) = WF j.val 1 := by decide +kernel
theorem oke_1 : ∀ j : Fin 16, (1 : Int32) = Int32.ofNat (j.val / 2) → cmpValue (FP.dcmp (WF j.val 1) FP.dconst1) .l = 0 := by decide +kernel
theorem okl_1 : ∀ j : Fin 16, ¬ (1 : Int32) = Int32.ofNat (j.val / 2) → (1 : Int32) < Int32.ofNat (j.val / 2) → nnB (FP.dmul (WF j.val 2) (FP.i2d ((1 : Int32) + (1 : Int32)))) = true ∧ nnB (FP.ddiv (FP.dmul (WF j.val 2) (FP.i2d ((1 : Int32) + (1 : Int32)))) (mnF j.val)) = true ∧ cmpValue (FP.dcmp (WF j.val 1) (FP.ddiv (FP.dmul (WF j.val 2) (FP.i2d ((1 : Int32) + (1 : Int32)))) (mnF j.val))) .l = 0 := by decide +kernel
theorem okg_1 : ∀ j : Fin 16, ¬ (1 : Int32) = Int32.ofNat (j.val / 2) → ¬ (1 : Int32) < Int32.ofNat (j.val / 2) → nnB (FP.dmul (WF j.val 0) (mnF j.val)) = true ∧ nnB (FP.ddiv (FP.dmul (WF j.val 0) (mnF j.val)) (FP.i2d (1 : Int32))) = true ∧ cmpValue (FP.dcmp (WF j.val 1) (FP.ddiv (FP.dmul (WF j.val 0) (mnF j.val)) (FP.i2d (1 : Int32)))) .l = 0 := by decide +kernel
theorem nlo_2 : ∀ j : Fin 16, ¬ Int32.ofNat (j.val / 2) < (2 : Int32) → ((2 : Int32) - Int32.ofNat 0).toInt = ((2 : Nat) : Int) ∧ 2 < j.val / 2 - 0 + 1 ∧ tmF j.val (j.val / 2 - 0 - 2) = WF j.val 2 := by decide +kernel
theorem nhi_2 : ∀ j : Fin 16, Int32.ofNat (j.val / 2) < (2 : Int32) → nnB (FP.dmul (WF j.val 1) (mnF j.val)) = true ∧ nnB (WF j.val 2) = true ∧ FP.ddiv (FP.dmul (WF j.val 1) (mnF j.val)) (FP.i2d (2 : Int32)) = WF j.val 2 := by decide +kernel
theorem oke_2 : ∀ j : Fin 16, (2 : Int32) = Int32.ofNat (j.val / 2) → cmpValue (FP.dcmp (WF j.val 2) FP.dconst1) .l = 0 := by decide +kernel
theorem okl_2 : ∀ j : Fin 16, ¬ (2 : Int32) = Int32.ofNat (j.val / 2) → (2 : Int32) < Int32.ofNat (j.val / 2) → nnB (FP.dmul (WF j.val 3) (FP.i2d ((2 : Int32) + (1 : Int32)))) = true ∧ nnB (FP.ddiv (FP.dmul (WF j.val 3) (FP.i2d ((2 : Int32) + (1 : Int32)))) (mnF j.val)) = true ∧ cmpValue (FP.dcmp (WF j.val 2) (FP.ddiv (FP.dmul (WF j.val 3) (FP.i2d ((2 : Int32) + (1 : Int32)))) (mnF j.val))) .l = 0 := by decide +kernel
theorem okg_2 : ∀ j : Fin 16, ¬ (2 : Int32) = Int32.ofNat (j.val / 2) → ¬ (2 : Int32) < Int32.ofNat (j.val / 2) → nnB (FP.dmul (WF j.val 1) (mnF j.val)) = true ∧ nnB (FP.ddiv (FP.dmul (WF j.val 1) (mnF j.val)) (FP.i2d (2 : Int32))) = true ∧ cmpValue (FP.dcmp (WF j.val 2) (FP.ddiv (FP.dmul (WF j.val 1) (mnF j.val)) (FP.i2d (2 : Int32)))) .l = 0 := by decide +kernel
theorem nlo_3 : ∀ j : Fin 16, ¬ Int32.ofNat (j.val / 2) < (3 : Int32) → ((3 : Int32) - Int32.ofNat 0).toInt = ((3 : Nat) : Int) ∧ 3 < j.val / 2 - 0 + 1 ∧ tmF j.val (j.val / 2 - 0 - 3) = WF j.val 3 := by decide +kernel
theorem nhi_3 : ∀ j : Fin 16, Int32.ofNat (j.val / 2) < (3 : Int32) → nnB (FP.dmul (WF j.val 2) (mnF j.val)) = true ∧ nnB (WF j.val 3) = true ∧ FP.ddiv (FP.dmul (WF j.val 2) (mnF j.val)) (FP.i2d (3 : Int32)) = WF j.val 3 := by decide +kernel
theorem oke_3 : ∀ j : Fin 16, (3 : Int32) = Int32.ofNat (j.val / 2) → cmpValue (FP.dcmp (WF j.val 3) FP.dconst1) .l = 0 := by decide +kernel
theorem okl_3 : ∀ j : Fin 16, ¬ (3 : Int32) = Int32.ofNat (j.val / 2) → (3 : Int32) < Int32.ofNat (j.val / 2) → nnB (FP.dmul (WF j.val 4) (FP.i2d ((3 : Int32) + (1 : Int32)))) = true ∧ nnB (FP.ddiv (FP.dmul (WF j.val 4) (FP.i2d ((3 : Int32) + (1 : Int32)))) (mnF j.val)) = true ∧ cmpValue (FP.dcmp (WF j.val 3) (FP.ddiv (FP.dmul (WF j.val 4) (FP.i2d ((3 : Int32) + (1 : Int32)))) (mnF j.val))) .l = 0 := by decide +kernel
theorem okg_3 : ∀ j : Fin 16, ¬ (3 : Int32) = Int32.ofNat (j.val / 2) → ¬ (3 : Int32) < Int32.ofNat (j.val / 2) → nnB (FP.dmul (WF j.val 2) (mnF j.val)) = true ∧ nnB (FP.ddiv (FP.dmul (WF j.val 2) (mnF j.val)) (FP.i2d (3 : Int32))) = true ∧ cmpValue (FP.dcmp (WF j.val 3) (FP.ddiv (FP.dmul (WF j.val 2) (mnF j.val)) (FP.i2d (3 : Int32)))) .l = 0 := by decide +kernel
theorem nlo_4 : ∀ j : Fin 16, ¬ Int32.ofNat (j.val / 2) < (4 : Int32) → ((4 : Int32) - Int32.ofNat 0).toInt = ((4 : Nat) : Int) ∧ 4 < j.val / 2 - 0 + 1 ∧ tmF j.val (j.val / 2 - 0 - 4) = WF j.val 4 := by decide +kernel
theorem nhi_4 : ∀ j : Fin 16, Int32.ofNat (j.val / 2) < (4 : Int32) → nnB (FP.dmul (WF j.val 3) (mnF j.val)) = true ∧ nnB (WF j.val 4) = true ∧ FP.ddiv (FP.dmul (WF j.val 3) (mnF j.val)) (FP.i2d (4 : Int32)) = WF j.val 4 := by decide +kernel
theorem oke_4 : ∀ j : Fin 16, (4 : Int32) = Int32.ofNat (j.val / 2) → cmpValue (FP.dcmp (WF j.val 4) FP.dconst1) .l = 0 := by decide +kernel
theorem okl_4 : ∀ j : Fin 16, ¬ (4 : Int32) = Int32.ofNat (j.val / 2) → (4 : Int32) < Int32.ofNat (j.val / 2) → nnB (FP.dmul (WF j.val 5) (FP.i2d ((4 : Int32) + (1 : Int32)))) = true ∧ nnB (FP.ddiv (FP.dmul (WF j.val 5) (FP.i2d ((4 : Int32) + (1 : Int32)))) (mnF j.val)) = true ∧ cmpValue (FP.dcmp (WF j.val 4) (FP.ddiv (FP.dmul (WF j.val 5) (FP.i2d ((4 : Int32) + (1 : Int32)))) (mnF j.val))) .l = 0 := by decide +kernel
theorem okg_4 : ∀ j : Fin 16, ¬ (4 : Int32) = Int32.ofNat (j.val / 2) → ¬ (4 : Int32) < Int32.ofNat (j.val / 2) → nnB (FP.dmul (WF j.val 3) (mnF j.val)) = true ∧ nnB (FP.ddiv (FP.dmul (WF j.val 3) (mnF j.val)) (FP.i2d (4 : Int32))) = true ∧ cmpValue (FP.dcmp (WF j.val 4) (FP.ddiv (FP.dmul (WF j.val 3) (mnF j.val)) (FP.i2d (4 : Int32)))) .l = 0 := by decide +kernel
theorem nlo_5 : ∀ j : Fin 16, ¬ Int32.ofNat (j.val / 2) < (5 : Int32) → ((5 : Int32) - Int32.ofNat 0).toInt = ((5 : Nat) : Int) ∧ 5 < j.val / 2 - 0 + 1 ∧ tmF j.val (j.val / 2 - 0 - 5) = WF j.val 5 := by decide +kernel
theorem nhi_5 : ∀ j : Fin 16, Int32.ofNat (j.val / 2) < (5 : Int32) → nnB (FP.dmul (WF j.val 4) (mnF j.val)) = true ∧ nnB (WF j.val 5) = true ∧ FP.ddiv (FP.dmul (WF j.val 4) (mnF j.val)) (FP.i2d (5 : Int32)) = WF j.val 5 := by decide +kernel
theorem oke_5 : ∀ j : Fin 16, (5 : Int32) = Int32.ofNat (j.val / 2) → cmpValue (FP.dcmp (WF j.val 5) FP.dconst1) .l = 0 := by decide +kernel
theorem okl_5 : ∀ j : Fin 16, ¬ (5 : Int32) = Int32.ofNat (j.val / 2) → (5 : Int32) < Int32.ofNat (j.val / 2) → nnB (FP.dmul (WF j.val 6) (FP.i2d ((5 : Int32) + (1 : Int32)))) = true ∧ nnB (FP.ddiv (FP.dmul (WF j.val 6) (FP.i2d ((5 : Int32) + (1 : Int32)))) (mnF j.val)) = true ∧ cmpValue (FP.dcmp (WF j.val 5) (FP.ddiv (FP.dmul (WF j.val 6) (FP.i2d ((5 : Int32) + (1 : Int32)))) (mnF j.val))) .l = 0 := by decide +kernel
theorem okg_5 : ∀ j : Fin 16, ¬ (5 : Int32) = Int32.ofNat (j.val / 2) → ¬ (5 : Int32) < Int32.ofNat (j.val / 2) → nnB (FP.dmul (WF j.val 4) (mnF j.val)) = true ∧ nnB (FP.ddiv (FP.dmul (WF j.val 4) (mnF j.val)) (FP.i2d (5 : Int32))) = true ∧ cmpValue (FP.dcmp (WF j.val 5) (FP.ddiv (FP.dmul (WF j.val 4) (mnF j.val)) (FP.i2d (5 : Int32)))) .l = 0 := by decide +kernel
theorem nlo_6 : ∀ j : Fin 16, ¬ Int32.ofNat (j.val / 2) < (6 : Int32) → ((6 : Int32) - Int32.ofNat 0).toInt = ((6 : Nat) : Int) ∧ 6 < j.val / 2 - 0 + 1 ∧ tmF j.val (j.val / 2 - 0 - 6) = WF j.val 6 := by decide +kernel
theorem nhi_6 : ∀ j : Fin 16, Int32.ofNat (j.val / 2) < (6 : Int32) → nnB (FP.dmul (WF j.val 5) (mnF j.val)) = true ∧ nnB (WF j.val 6) = true ∧ FP.ddiv (FP.dmul (WF j.val 5) (mnF j.val)) (FP.i2d (6 : Int32)) = WF j.val 6 := by decide +kernel
theorem oke_6 : ∀ j : Fin 16, (6 : Int32) = Int32.ofNat (j.val / 2) → cmpValue (FP.dcmp (WF j.val 6) FP.dconst1) .l = 0 := by decide +kernel
theorem okl_6 : ∀ j : Fin 16, ¬ (6 : Int32) = Int32.ofNat (j.val / 2) → (6 : Int32) < Int32.ofNat (j.val / 2) → nnB (FP.dmul (WF j.val 7) (FP.i2d ((6 : Int32) + (1 : Int32)))) = true ∧ nnB (FP.ddiv (FP.dmul (WF j.val 7) (FP.i2d ((6 : Int32) + (1 : Int32)))) (mnF j.val)) = true ∧ cmpValue (FP.dcmp (WF j.val 6) (FP.ddiv (FP.dmul (WF j.val 7) (FP.i2d ((6 : Int32) + (1 : Int32)))) (mnF j.val))) .l = 0 := by decide +kernel
theorem okg_6 : ∀ j : Fin 16, ¬ (6 : Int32) = Int32.ofNat (j.val / 2) → ¬ (6 : Int32) < Int32.ofNat (j.val / 2) → nnB (FP.dmul (WF j.val 5) (mnF j.val)) = true ∧ nnB (FP.ddiv (FP.dmul (WF j.val 5) (mnF j.val)) (FP.i2d (6 : Int32))) = true ∧ cmpValue (FP.dcmp (WF j.val 6) (FP.ddiv (FP.dmul (WF j.val 5) (mnF j.val)) (FP.i2d (6 : Int32)))) .l = 0 := by decide +kernel
theorem nlo_7 : ∀ j : Fin 16, ¬ Int32.ofNat (j.val / 2) < (7 : Int32) → ((7 : Int32) - Int32.ofNat 0).toInt = ((7 : Nat) : Int) ∧ 7 < j.val / 2 - 0 + 1 ∧ tmF j.val (j.val / 2 - 0 - 7) = WF j.val 7 := by decide +kernel
theorem nhi_7 : ∀ j : Fin 16, Int32.ofNat (j.val / 2) < (7 : Int32) → nnB (FP.dmul (WF j.val 6) (mnF j.val)) = true ∧ nnB (WF j.val 7) = true ∧ FP.ddiv (FP.dmul (WF j.val 6) (mnF j.val)) (FP.i2d (7 : Int32)) = WF j.val 7 := by decide +kernel
theorem oke_7 : ∀ j : Fin 16, (7 : Int32) = Int32.ofNat (j.val / 2) → cmpValue (FP.dcmp (WF j.val 7) FP.dconst1) .l = 0 := by decide +kernel
theorem okl_7 : ∀ j : Fin 16, ¬ (7 : Int32) = Int32.ofNat (j.val / 2) → (7 : Int32) < Int32.ofNat (j.val / 2) → nnB (FP.dmul FP.dconst0 (FP.i2d ((7 : Int32) + (1 : Int32)))) = true ∧ nnB (FP.ddiv (FP.dmul FP.dconst0 (FP.i2d ((7 : Int32) + (1 : Int32)))) (mnF j.val)) = true ∧ cmpValue (FP.dcmp (WF j.val 7) (FP.ddiv (FP.dmul FP.dconst0 (FP.i2d ((7 : Int32) + (1 : Int32)))) (mnF j.val))) .l = 0 := by decide +kernel
theorem okg_7 : ∀ j : Fin 16, ¬ (7 : Int32) = Int32.ofNat (j.val / 2) → ¬ (7 : Int32) < Int32.ofNat (j.val / 2) → nnB (FP.dmul (WF j.val 6) (mnF j.val)) = true ∧ nnB (FP.ddiv (FP.dmul (WF j.val 6) (mnF j.val)) (FP.i2d (7 : Int32))) = true ∧ cmpValue (FP.dcmp (WF j.val 7) (FP.ddiv (FP.dmul (WF j.val 6) (mnF j.val)) (FP.i2d (7 : Int32)))) .l = 0 := by decide +kernel
theorem d1_0 : decode prog_39_method_1_code 0 = .ok (.aload_n 0, 1) := by decide +kernel
theorem d1_1 : decode prog_39_method_1_code 1 = .ok (.invokespecial 1, 3) := by decide +kernel
theorem d1_4 : decode prog_39_method_1_code 4 = .ok (.aload_n 0, 1) := by decide +kernel
theorem d1_5 : decode prog_39_method_1_code 5 = .ok (.iconst (-1), 1) := by decide +kernel
theorem d1_6 : decode prog_39_method_1_code 6 = .ok (.putfield 7, 3) := by decide +kernel
theorem d1_9 : decode prog_39_method_1_code 9 = .ok (.aload_n 0, 1) := by decide +kernel
theorem d1_10 : decode prog_39_method_1_code 10 = .ok (.dload_n 1, 1) := by decide +kernel
theorem d1_11 : decode prog_39_method_1_code 11 = .ok (.putfield 13, 3) := by decide +kernel
theorem d1_14 : decode prog_39_method_1_code 14 = .ok (.aload_n 0, 1) := by decide +kernel
theorem d1_15 : decode prog_39_method_1_code 15 = .ok (.dload_n 1, 1) := by decide +kernel
theorem d1_16 : decode prog_39_method_1_code 16 = .ok (.d2i, 1) := by decide +kernel
theorem d1_17 : decode prog_39_method_1_code 17 = .ok (.putfield 17, 3) := by decide +kernel
theorem d1_20 : decode prog_39_method_1_code 20 = .ok (.aload_n 0, 1) := by decide +kernel
theorem d1_21 : decode prog_39_method_1_code 21 = .ok (.getfield 17, 3) := by decide +kernel
theorem d1_24 : decode prog_39_method_1_code 24 = .ok (.istore_n 3, 1) := by decide +kernel
theorem d1_25 : decode prog_39_method_1_code 25 = .ok (.dconst 1, 1) := by decide +kernel
theorem d1_26 : decode prog_39_method_1_code 26 = .ok (.dstore 4, 2) := by decide +kernel
theorem d1_28 : decode prog_39_method_1_code 28 = .ok (.iload_n 3, 1) := by decide +kernel
theorem d1_29 : decode prog_39_method_1_code 29 = .ok (.ifCond .le 30, 3) := by decide +kernel
theorem d1_32 : decode prog_39_method_1_code 32 = .ok (.dload 4, 2) := by decide +kernel
theorem d1_34 : decode prog_39_method_1_code 34 = .ok (.iload_n 3, 1) := by decide +kernel
theorem d1_35 : decode prog_39_method_1_code 35 = .ok (.i2d, 1) := by decide +kernel
theorem d1_36 : decode prog_39_method_1_code 36 = .ok (.dload_n 1, 1) := by decide +kernel
theorem d1_37 : decode prog_39_method_1_code 37 = .ok (.ddiv, 1) := by decide +kernel
theorem d1_38 : decode prog_39_method_1_code 38 = .ok (.dmul, 1) := by decide +kernel
theorem d1_39 : decode prog_39_method_1_code 39 = .ok (.dstore 4, 2) := by decide +kernel
theorem d1_41 : decode prog_39_method_1_code 41 = .ok (.dload 4, 2) := by decide +kernel
theorem d1_43 : decode prog_39_method_1_code 43 = .ok (.ldc2_w 20, 3) := by decide +kernel
theorem d1_46 : decode prog_39_method_1_code 46 = .ok (.dcmp .g, 1) := by decide +kernel
theorem d1_47 : decode prog_39_method_1_code 47 = .ok (.ifCond .ge 6, 3) := by decide +kernel
theorem d1_50 : decode prog_39_method_1_code 50 = .ok (.goto 9, 3) := by decide +kernel
theorem d1_53 : decode prog_39_method_1_code 53 = .ok (.iinc 3 (-1), 3) := by decide +kernel
theorem d1_56 : decode prog_39_method_1_code 56 = .ok (.goto (-28), 3) := by decide +kernel
theorem d1_59 : decode prog_39_method_1_code 59 = .ok (.aload_n 0, 1) := by decide +kernel
theorem d1_60 : decode prog_39_method_1_code 60 = .ok (.iload_n 3, 1) := by decide +kernel
theorem d1_61 : decode prog_39_method_1_code 61 = .ok (.putfield 22, 3) := by decide +kernel
theorem d1_64 : decode prog_39_method_1_code 64 = .ok (.aload_n 0, 1) := by decide +kernel
theorem d1_65 : decode prog_39_method_1_code 65 = .ok (.aload_n 0, 1) := by decide +kernel
theorem d1_66 : decode prog_39_method_1_code 66 = .ok (.getfield 17, 3) := by decide +kernel
theorem d1_69 : decode prog_39_method_1_code 69 = .ok (.iload_n 3, 1) := by decide +kernel
theorem d1_70 : decode prog_39_method_1_code 70 = .ok (.isub, 1) := by decide +kernel
theorem d1_71 : decode prog_39_method_1_code 71 = .ok (.iconst 1, 1) := by decide +kernel
theorem d1_72 : decode prog_39_method_1_code 72 = .ok (.iadd, 1) := by decide +kernel
theorem d1_73 : decode prog_39_method_1_code 73 = .ok (.newarray .double, 2) := by decide +kernel
theorem d1_75 : decode prog_39_method_1_code 75 = .ok (.putfield 25, 3) := by decide +kernel
theorem d1_78 : decode prog_39_method_1_code 78 = .ok (.aload_n 0, 1) := by decide +kernel
theorem d1_79 : decode prog_39_method_1_code 79 = .ok (.getfield 25, 3) := by decide +kernel
theorem d1_82 : decode prog_39_method_1_code 82 = .ok (.aload_n 0, 1) := by decide +kernel
theorem d1_83 : decode prog_39_method_1_code 83 = .ok (.getfield 17, 3) := by decide +kernel
theorem d1_86 : decode prog_39_method_1_code 86 = .ok (.iload_n 3, 1) := by decide +kernel
theorem d1_87 : decode prog_39_method_1_code 87 = .ok (.isub, 1) := by decide +kernel
theorem d1_88 : decode prog_39_method_1_code 88 = .ok (.dconst 1, 1) := by decide +kernel
theorem d1_89 : decode prog_39_method_1_code 89 = .ok (.dastore, 1) := by decide +kernel
theorem d1_90 : decode prog_39_method_1_code 90 = .ok (.aload_n 0, 1) := by decide +kernel
theorem d1_91 : decode prog_39_method_1_code 91 = .ok (.getfield 17, 3) := by decide +kernel
theorem d1_94 : decode prog_39_method_1_code 94 = .ok (.istore 4, 2) := by decide +kernel
theorem d1_96 : decode prog_39_method_1_code 96 = .ok (.iload 4, 2) := by decide +kernel
theorem d1_98 : decode prog_39_method_1_code 98 = .ok (.iload_n 3, 1) := by decide +kernel
theorem d1_99 : decode prog_39_method_1_code 99 = .ok (.if_icmp .le 35, 3) := by decide +kernel
theorem d1_102 : decode prog_39_method_1_code 102 = .ok (.aload_n 0, 1) := by decide +kernel
theorem d1_103 : decode prog_39_method_1_code 103 = .ok (.getfield 25, 3) := by decide +kernel
theorem d1_106 : decode prog_39_method_1_code 106 = .ok (.iload 4, 2) := by decide +kernel
theorem d1_108 : decode prog_39_method_1_code 108 = .ok (.iconst 1, 1) := by decide +kernel
theorem d1_109 : decode prog_39_method_1_code 109 = .ok (.isub, 1) := by decide +kernel
theorem d1_110 : decode prog_39_method_1_code 110 = .ok (.iload_n 3, 1) := by decide +kernel
theorem d1_111 : decode prog_39_method_1_code 111 = .ok (.isub, 1) := by decide +kernel
theorem d1_112 : decode prog_39_method_1_code 112 = .ok (.aload_n 0, 1) := by decide +kernel
theorem d1_113 : decode prog_39_method_1_code 113 = .ok (.getfield 25, 3) := by decide +kernel
theorem d1_116 : decode prog_39_method_1_code 116 = .ok (.iload 4, 2) := by decide +kernel
theorem d1_118 : decode prog_39_method_1_code 118 = .ok (.iload_n 3, 1) := by decide +kernel
theorem d1_119 : decode prog_39_method_1_code 119 = .ok (.isub, 1) := by decide +kernel
theorem d1_120 : decode prog_39_method_1_code 120 = .ok (.daload, 1) := by decide +kernel
theorem d1_121 : decode prog_39_method_1_code 121 = .ok (.iload 4, 2) := by decide +kernel
theorem d1_123 : decode prog_39_method_1_code 123 = .ok (.i2d, 1) := by decide +kernel
theorem d1_124 : decode prog_39_method_1_code 124 = .ok (.dmul, 1) := by decide +kernel
theorem d1_125 : decode prog_39_method_1_code 125 = .ok (.dload_n 1, 1) := by decide +kernel
theorem d1_126 : decode prog_39_method_1_code 126 = .ok (.ddiv, 1) := by decide +kernel
theorem d1_127 : decode prog_39_method_1_code 127 = .ok (.dastore, 1) := by decide +kernel
theorem d1_128 : decode prog_39_method_1_code 128 = .ok (.iinc 4 (-1), 3) := by decide +kernel
theorem d1_131 : decode prog_39_method_1_code 131 = .ok (.goto (-35), 3) := by decide +kernel
theorem d1_134 : decode prog_39_method_1_code 134 = .ok (.return_, 1) := by decide +kernel
theorem ef_ct (m : MethodId) (a1 : Addr) (pm : UInt64) (M F : Nat) (pr tm : Nat → UInt64) : entryFrame m #[(.ref a1), (.double pm)] 6 = (mkF m 0 #[.val (.ref a1), .val (.double pm), .second, .unset, .unset, .unset] []) := by first | (simp [entryFrame, mkF, argsToLocals, Value.category]; done) | rfl
def Q_ct (Z : State) (a1 : Addr) (pm : UInt64) (M F : Nat) (pr tm : Nat → UInt64) (h0 : Heap) (n0 : Nat) (v : Option Value) (h : Heap) (L : List Loc) : Prop := ∃ ta : Addr, v = none ∧ Fr n0 L ∧ Keep h0 h [a1] ∧ ta ≠ a1 ∧ Exa Z h a1 "com/example/topple/topple/markov/PoissonWeights" ∧ Fld Z h a1 "com/example/topple/topple/markov/PoissonWeights" "count" "I" (.int (-1 : Int32)) ∧ Fld Z h a1 "com/example/topple/topple/markov/PoissonWeights" "mean" "D" (.double pm) ∧ Fld Z h a1 "com/example/topple/topple/markov/PoissonWeights" "mode" "I" (.int (Int32.ofNat M)) ∧ Fld Z h a1 "com/example/topple/topple/markov/PoissonWeights" "fewest" "I" (.int (Int32.ofNat F)) ∧ Fld Z h a1 "com/example/topple/topple/markov/PoissonWeights" "toMode" "[D" (.ref ta) ∧ Fld Z h a1 "com/example/topple/topple/markov/PoissonWeights" "weight" "D" (.double (0 : UInt64)) ∧ OwnArr.Ag Z h ta .double (M - F + 1) (fun i => .double (tm (M - F - i)))
set_option maxRecDepth 65536 in
set_option maxHeartbeats 2000000 in
theorem rm_ct (l : Launch) (Z : State) (a0 : Array Value) (hw : ∀ d ∈ tables_1, d.before a0 Z = true) (ws : List Jvm.Cond) (a1 : Addr) (pm : UInt64) (M F : Nat) (pr tm : Nat → UInt64) (h0 : Heap) (n0 : Nat) (Z0 : n0 ≤ h0.size) (E_a1 : Exa Z h0 a1 "com/example/topple/topple/markov/PoissonWeights") (F_0 : Fld Z h0 a1 "com/example/topple/topple/markov/PoissonWeights" "count" "I" (.int (0 : Int32))) (F_1 : Fld Z h0 a1 "com/example/topple/topple/markov/PoissonWeights" "mean" "D" (.double (0 : UInt64))) (F_2 : Fld Z h0 a1 "com/example/topple/topple/markov/PoissonWeights" "mode" "I" (.int (0 : Int32))) (F_3 : Fld Z h0 a1 "com/example/topple/topple/markov/PoissonWeights" "fewest" "I" (.int (0 : Int32))) (F_4 : Fld Z h0 a1 "com/example/topple/topple/markov/PoissonWeights" "toMode" "[D" .null) (F_5 : Fld Z h0 a1 "com/example/topple/topple/markov/PoissonWeights" "weight" "D" (.double (0 : UInt64))) (g_a1 : n0 ≤ a1) (hM2 : M ≤ 5000) (hF : F ≤ M) (hcap : M - F + 1 ≤ 2000) (hmi : FP.d2i pm = Int32.ofNat M) (hp0 : pr 0 = FP.dconst1) (hp : ∀ k, k < M - F → Jvm.Free.Fl.NoNaN64 (FP.ddiv (FP.i2d (Int32.ofNat (M - k))) pm) ∧ FP.dmul (pr k) (FP.ddiv (FP.i2d (Int32.ofNat (M - k))) pm) = pr (k + 1) ∧ Jvm.Free.Fl.NoNaN64 (pr (k + 1)) ∧ ¬ cmpValue (FP.dcmp (pr (k + 1)) (118622047889322841 : UInt64)) .g < 0) (hx1 : F = 0 ∨ (0 < F ∧ Jvm.Free.Fl.NoNaN64 (FP.ddiv (FP.i2d (Int32.ofNat (M - (M - F)))) pm) ∧ FP.dmul (pr (M - F)) (FP.ddiv (FP.i2d (Int32.ofNat (M - (M - F)))) pm) = pr ((M - F) + 1) ∧ Jvm.Free.Fl.NoNaN64 (pr ((M - F) + 1)) ∧ cmpValue (FP.dcmp (pr (M - F + 1)) (118622047889322841 : UInt64)) .g < 0)) (ht0 : tm 0 = FP.dconst1) (ht : ∀ k, k < M - F → Jvm.Free.Fl.NoNaN64 (FP.dmul (tm k) (FP.i2d (Int32.ofNat (M - k)))) ∧ Jvm.Free.Fl.NoNaN64 (tm (k + 1)) ∧ FP.ddiv (FP.dmul (tm k) (FP.i2d (Int32.ofNat (M - k)))) pm = tm (k + 1)) :
    MetFree l (⟨"com/example/topple/topple/markov/PoissonWeights", "<init>", "(D)V"⟩ : MethodName) (head1 (Jvm.Cond.code (⟨"com/example/topple/topple/markov/PoissonWeights", "<init>", "(D)V"⟩ : MethodName) prog_39_method_1_code 6 none :: ws) ({ frames := 1, cells := 1, slots := 2000, locals := 20 } : Room)) (fun aa UU => aa = #[(.ref a1), (.double pm)] ∧ Z.Warmed39 UU.vm ∧ UU.heap = h0) (fun _ _ _ _ _ => True) (fun _ UU oo UU' => ∃ v L, oo = .returned v ∧ Q_ct Z a1 pm M F pr tm h0 n0 v UU'.heap L ∧ FrameEnd UU oo UU' L ({ frames := 1, cells := 1, slots := 2000, locals := 20 } : Room).cells ({ frames := 1, cells := 1, slots := 2000, locals := 20 } : Room).slots) := by
  refine MetFree.of_bodySF (plainFor_of_name pn_com_example_topple_topple_markov_PoissonWeights) hisR ?_
  intro p e s m args below meth c s₁ Bd hml0 hP hK
  obtain ⟨rfl, hZ, hh⟩ := hP
  have hx := Bd.exec
  have hby := Bd.bytes
  have hml : c.maxLocals = 6 := hml0
  have hown : s.vm.findClass "com/example/topple/topple/markov/PoissonWeights" = some m.cls := findClass_of_methodNamed Bd.named
  have hnaM := (name_of_methodNamed Bd.named Bd.method).1
  have X0 : Stand p l e ({ frames := 1, cells := 1, slots := 2000, locals := 20 } : Room) s m #[(.ref a1), (.double pm)] below meth c s₁ [] 0 0 := Stand.of_body Bd
  have e0 : s₁.heap = h0 := by rw [← hh, Bd.state]; rfl
  have N0 := Fr.nil n0
  have pre0 : ∀ t, Steps p.tables e below (s₁.setTop (entryFrame m #[(.ref a1), (.double pm)] 6)) t → Steps p.tables e below (s₁.setTop (entryFrame m #[(.ref a1), (.double pm)] 6)) t := fun t k => k
  have c0 : ∀ t, Steps p.tables e below (s₁.setTop (mkF m 0 #[.val (.ref a1), .val (.double pm), .second, .unset, .unset, .unset] [])) t → Steps p.tables e below (s₁.setTop (entryFrame m #[(.ref a1), (.double pm)] 6)) t := fun t k => castTop (ef_ct m a1 pm M F pr tm) k
  have K0 := Keep.refl h0 [a1]
  have c1 : ∀ t, Steps p.tables e below (s₁.setTop (mkF m 1 #[.val (.ref a1), .val (.double pm), .second, .unset, .unset, .unset] [(.ref a1)])) t → Steps p.tables e below (s₁.setTop (entryFrame m #[(.ref a1), (.double pm)] 6)) t := fun t k => c0 t (by
    show Steps p.tables e below (s₁.setTop (mkF m 0 #[.val (.ref a1), .val (.double pm), .second, .unset, .unset, .unset] [])) _
    refine XS.aloadN X0.here hx rfl (hb hby d1_0) rfl rfl ?_
    show Steps p.tables e below (s₁.setTop (mkF m 1 #[.val (.ref a1), .val (.double pm), .second, .unset, .unset, .unset] [(.ref a1)])) _
    exact k)
  obtain ⟨T2, X2, e2, st2⟩ := initO X0 hx hZ hown (hw _ (List.mem_of_getElem? (i := 7) rfl)) (hw _ (List.mem_of_getElem? (i := 8) rfl)) (hw _ (List.mem_of_getElem? (i := 9) rfl)) e0 (g := (mkF m 1 #[.val (.ref a1), .val (.double pm), .second, .unset, .unset, .unset] [(.ref a1)])) rfl (by rw [hml]; rfl) rfl (hb hby d1_1) (by decide) (W := 0) (by show 2 * 0 + _ ≤ _; exact Nat.le_of_eq rfl) (by decide)
  have c3 : ∀ t, Steps p.tables e below (T2.setTop (mkF m 4 #[.val (.ref a1), .val (.double pm), .second, .unset, .unset, .unset] [])) t → Steps p.tables e below (s₁.setTop (entryFrame m #[(.ref a1), (.double pm)] 6)) t := fun t k => c1 t (st2 _ k)
  have c4 : ∀ t, Steps p.tables e below (T2.setTop (mkF m 6 #[.val (.ref a1), .val (.double pm), .second, .unset, .unset, .unset] [(.int (-1 : Int32)), (.ref a1)])) t → Steps p.tables e below (s₁.setTop (entryFrame m #[(.ref a1), (.double pm)] 6)) t := fun t k => c3 t (by
    show Steps p.tables e below (T2.setTop (mkF m 4 #[.val (.ref a1), .val (.double pm), .second, .unset, .unset, .unset] [])) _
    refine XS.aloadN X2.here hx rfl (hb hby d1_4) rfl rfl ?_
    show Steps p.tables e below (T2.setTop (mkF m 5 #[.val (.ref a1), .val (.double pm), .second, .unset, .unset, .unset] [(.ref a1)])) _
    refine XS.iconst X2.here hx rfl (hb hby d1_5) ?_
    show Steps p.tables e below (T2.setTop (mkF m 6 #[.val (.ref a1), .val (.double pm), .second, .unset, .unset, .unset] [(.int (-1 : Int32)), (.ref a1)])) _
    exact k)
  obtain ⟨T5, h5, X5, e5, W5, st5⟩ := putF X2 hx hZ hown (host := "") (Or.inl (hw _ (List.mem_of_getElem? (i := 10) rfl))) Via.refl e2 F_0 E_a1 (Or.inl (hw _ (List.mem_of_getElem? (i := 11) rfl))) (hw _ (List.mem_of_getElem? (i := 2) rfl)) (ty := .int) (by decide) rfl rfl (g := (mkF m 6 #[.val (.ref a1), .val (.double pm), .second, .unset, .unset, .unset] [(.int (-1 : Int32)), (.ref a1)])) rfl rfl (hb hby d1_6)
  have F6 : Fld Z h5 a1 "com/example/topple/topple/markov/PoissonWeights" "count" "I" (.int (-1 : Int32)) := F_0.same W5
  have F7 : Exa Z h5 a1 "com/example/topple/topple/markov/PoissonWeights" := (E_a1.wr W5)
  have F8 : Fld Z h5 a1 "com/example/topple/topple/markov/PoissonWeights" "mean" "D" (.double (0 : UInt64)) := (F_1.other W5 (Or.inr (slot_ne (Or.inr (hw _ (List.mem_of_getElem? (i := 13) rfl))) (Or.inl (hw _ (List.mem_of_getElem? (i := 11) rfl))) (by decide) (t := .double) (t' := .int) (by decide) (by decide))))
  have F9 : Fld Z h5 a1 "com/example/topple/topple/markov/PoissonWeights" "mode" "I" (.int (0 : Int32)) := (F_2.other W5 (Or.inr (slot_ne (Or.inr (hw _ (List.mem_of_getElem? (i := 15) rfl))) (Or.inl (hw _ (List.mem_of_getElem? (i := 11) rfl))) (by decide) (t := .int) (t' := .int) (by decide) (by decide))))
  have F10 : Fld Z h5 a1 "com/example/topple/topple/markov/PoissonWeights" "fewest" "I" (.int (0 : Int32)) := (F_3.other W5 (Or.inr (slot_ne (Or.inr (hw _ (List.mem_of_getElem? (i := 18) rfl))) (Or.inl (hw _ (List.mem_of_getElem? (i := 11) rfl))) (by decide) (t := .int) (t' := .int) (by decide) (by decide))))
  have F11 : Fld Z h5 a1 "com/example/topple/topple/markov/PoissonWeights" "toMode" "[D" .null := (F_4.other W5 (Or.inr (slot_ne (Or.inr (hw _ (List.mem_of_getElem? (i := 21) rfl))) (Or.inl (hw _ (List.mem_of_getElem? (i := 11) rfl))) (by decide) (t := (.array .double)) (t' := .int) (by decide) (by decide))))
  have F12 : Fld Z h5 a1 "com/example/topple/topple/markov/PoissonWeights" "weight" "D" (.double (0 : UInt64)) := (F_5.other W5 (Or.inr (slot_ne (Or.inl (hw _ (List.mem_of_getElem? (i := 28) rfl))) (Or.inl (hw _ (List.mem_of_getElem? (i := 11) rfl))) (by decide) (t := .double) (t' := .int) (by decide) (by decide))))
  have N5 := Fr.snoc X5 N0 g_a1
  have K13 : Keep h0 h5 [a1] := K0.wr W5 (Or.inl (List.mem_of_getElem? (i := 0) rfl))
  have c14 : ∀ t, Steps p.tables e below (T5.setTop (mkF m 9 #[.val (.ref a1), .val (.double pm), .second, .unset, .unset, .unset] [])) t → Steps p.tables e below (s₁.setTop (entryFrame m #[(.ref a1), (.double pm)] 6)) t := fun t k => c4 t (st5 _ k)
  have c15 : ∀ t, Steps p.tables e below (T5.setTop (mkF m 11 #[.val (.ref a1), .val (.double pm), .second, .unset, .unset, .unset] [(.double pm), (.ref a1)])) t → Steps p.tables e below (s₁.setTop (entryFrame m #[(.ref a1), (.double pm)] 6)) t := fun t k => c14 t (by
    show Steps p.tables e below (T5.setTop (mkF m 9 #[.val (.ref a1), .val (.double pm), .second, .unset, .unset, .unset] [])) _
    refine XS.aloadN X5.here hx rfl (hb hby d1_9) rfl rfl ?_
    show Steps p.tables e below (T5.setTop (mkF m 10 #[.val (.ref a1), .val (.double pm), .second, .unset, .unset, .unset] [(.ref a1)])) _
    refine XS.dloadN X5.here hx rfl (hb hby d1_10) rfl ?_
    show Steps p.tables e below (T5.setTop (mkF m 11 #[.val (.ref a1), .val (.double pm), .second, .unset, .unset, .unset] [(.double pm), (.ref a1)])) _
    exact k)
  obtain ⟨T16, h16, X16, e16, W16, st16⟩ := putF X5 hx hZ hown (host := "") (Or.inl (hw _ (List.mem_of_getElem? (i := 12) rfl))) Via.refl e5 F8 F7 (Or.inr ⟨(hw _ (List.mem_of_getElem? (i := 13) rfl)), rfl, hnaM⟩) (hw _ (List.mem_of_getElem? (i := 2) rfl)) (ty := .double) (by decide) rfl rfl (g := (mkF m 11 #[.val (.ref a1), .val (.double pm), .second, .unset, .unset, .unset] [(.double pm), (.ref a1)])) rfl rfl (hb hby d1_11)
  have F17 : Fld Z h16 a1 "com/example/topple/topple/markov/PoissonWeights" "mean" "D" (.double pm) := F8.same W16
  have F18 : Exa Z h16 a1 "com/example/topple/topple/markov/PoissonWeights" := (F7.wr W16)
  have F19 : Fld Z h16 a1 "com/example/topple/topple/markov/PoissonWeights" "count" "I" (.int (-1 : Int32)) := (F6.other W16 (Or.inr (slot_ne (Or.inl (hw _ (List.mem_of_getElem? (i := 11) rfl))) (Or.inr (hw _ (List.mem_of_getElem? (i := 13) rfl))) (by decide) (t := .int) (t' := .double) (by decide) (by decide))))
  have F20 : Fld Z h16 a1 "com/example/topple/topple/markov/PoissonWeights" "mode" "I" (.int (0 : Int32)) := (F9.other W16 (Or.inr (slot_ne (Or.inr (hw _ (List.mem_of_getElem? (i := 15) rfl))) (Or.inr (hw _ (List.mem_of_getElem? (i := 13) rfl))) (by decide) (t := .int) (t' := .double) (by decide) (by decide))))
  have F21 : Fld Z h16 a1 "com/example/topple/topple/markov/PoissonWeights" "fewest" "I" (.int (0 : Int32)) := (F10.other W16 (Or.inr (slot_ne (Or.inr (hw _ (List.mem_of_getElem? (i := 18) rfl))) (Or.inr (hw _ (List.mem_of_getElem? (i := 13) rfl))) (by decide) (t := .int) (t' := .double) (by decide) (by decide))))
  have F22 : Fld Z h16 a1 "com/example/topple/topple/markov/PoissonWeights" "toMode" "[D" .null := (F11.other W16 (Or.inr (slot_ne (Or.inr (hw _ (List.mem_of_getElem? (i := 21) rfl))) (Or.inr (hw _ (List.mem_of_getElem? (i := 13) rfl))) (by decide) (t := (.array .double)) (t' := .double) (by decide) (by decide))))
  have F23 : Fld Z h16 a1 "com/example/topple/topple/markov/PoissonWeights" "weight" "D" (.double (0 : UInt64)) := (F12.other W16 (Or.inr (slot_ne (Or.inl (hw _ (List.mem_of_getElem? (i := 28) rfl))) (Or.inr (hw _ (List.mem_of_getElem? (i := 13) rfl))) (by decide) (t := .double) (t' := .double) (by decide) (by decide))))
  have N16 := Fr.snoc X16 N5 g_a1
  have K24 : Keep h0 h16 [a1] := K13.wr W16 (Or.inl (List.mem_of_getElem? (i := 0) rfl))
  have c25 : ∀ t, Steps p.tables e below (T16.setTop (mkF m 14 #[.val (.ref a1), .val (.double pm), .second, .unset, .unset, .unset] [])) t → Steps p.tables e below (s₁.setTop (entryFrame m #[(.ref a1), (.double pm)] 6)) t := fun t k => c15 t (st16 _ k)
  have c26 : ∀ t, Steps p.tables e below (T16.setTop (mkF m 17 #[.val (.ref a1), .val (.double pm), .second, .unset, .unset, .unset] [(.int (Int32.ofNat M)), (.ref a1)])) t → Steps p.tables e below (s₁.setTop (entryFrame m #[(.ref a1), (.double pm)] 6)) t := fun t k => c25 t (by
    show Steps p.tables e below (T16.setTop (mkF m 14 #[.val (.ref a1), .val (.double pm), .second, .unset, .unset, .unset] [])) _
    refine XS.aloadN X16.here hx rfl (hb hby d1_14) rfl rfl ?_
    show Steps p.tables e below (T16.setTop (mkF m 15 #[.val (.ref a1), .val (.double pm), .second, .unset, .unset, .unset] [(.ref a1)])) _
    refine XS.dloadN X16.here hx rfl (hb hby d1_15) rfl ?_
    show Steps p.tables e below (T16.setTop (mkF m 16 #[.val (.ref a1), .val (.double pm), .second, .unset, .unset, .unset] [(.double pm), (.ref a1)])) _
    refine XS.d2iS X16.here hx rfl (hb hby d1_16) rfl hmi ?_
    show Steps p.tables e below (T16.setTop (mkF m 17 #[.val (.ref a1), .val (.double pm), .second, .unset, .unset, .unset] [(.int (Int32.ofNat M)), (.ref a1)])) _
    exact k)
  obtain ⟨T27, h27, X27, e27, W27, st27⟩ := putF X16 hx hZ hown (host := "") (Or.inl (hw _ (List.mem_of_getElem? (i := 14) rfl))) Via.refl e16 F20 F18 (Or.inr ⟨(hw _ (List.mem_of_getElem? (i := 15) rfl)), rfl, hnaM⟩) (hw _ (List.mem_of_getElem? (i := 2) rfl)) (ty := .int) (by decide) rfl rfl (g := (mkF m 17 #[.val (.ref a1), .val (.double pm), .second, .unset, .unset, .unset] [(.int (Int32.ofNat M)), (.ref a1)])) rfl rfl (hb hby d1_17)
  have F28 : Fld Z h27 a1 "com/example/topple/topple/markov/PoissonWeights" "mode" "I" (.int (Int32.ofNat M)) := F20.same W27
  have F29 : Exa Z h27 a1 "com/example/topple/topple/markov/PoissonWeights" := (F18.wr W27)
  have F30 : Fld Z h27 a1 "com/example/topple/topple/markov/PoissonWeights" "count" "I" (.int (-1 : Int32)) := (F19.other W27 (Or.inr (slot_ne (Or.inl (hw _ (List.mem_of_getElem? (i := 11) rfl))) (Or.inr (hw _ (List.mem_of_getElem? (i := 15) rfl))) (by decide) (t := .int) (t' := .int) (by decide) (by decide))))
  have F31 : Fld Z h27 a1 "com/example/topple/topple/markov/PoissonWeights" "mean" "D" (.double pm) := (F17.other W27 (Or.inr (slot_ne (Or.inr (hw _ (List.mem_of_getElem? (i := 13) rfl))) (Or.inr (hw _ (List.mem_of_getElem? (i := 15) rfl))) (by decide) (t := .double) (t' := .int) (by decide) (by decide))))
  have F32 : Fld Z h27 a1 "com/example/topple/topple/markov/PoissonWeights" "fewest" "I" (.int (0 : Int32)) := (F21.other W27 (Or.inr (slot_ne (Or.inr (hw _ (List.mem_of_getElem? (i := 18) rfl))) (Or.inr (hw _ (List.mem_of_getElem? (i := 15) rfl))) (by decide) (t := .int) (t' := .int) (by decide) (by decide))))
  have F33 : Fld Z h27 a1 "com/example/topple/topple/markov/PoissonWeights" "toMode" "[D" .null := (F22.other W27 (Or.inr (slot_ne (Or.inr (hw _ (List.mem_of_getElem? (i := 21) rfl))) (Or.inr (hw _ (List.mem_of_getElem? (i := 15) rfl))) (by decide) (t := (.array .double)) (t' := .int) (by decide) (by decide))))
  have F34 : Fld Z h27 a1 "com/example/topple/topple/markov/PoissonWeights" "weight" "D" (.double (0 : UInt64)) := (F23.other W27 (Or.inr (slot_ne (Or.inl (hw _ (List.mem_of_getElem? (i := 28) rfl))) (Or.inr (hw _ (List.mem_of_getElem? (i := 15) rfl))) (by decide) (t := .double) (t' := .int) (by decide) (by decide))))
  have N27 := Fr.snoc X27 N16 g_a1
  have K35 : Keep h0 h27 [a1] := K24.wr W27 (Or.inl (List.mem_of_getElem? (i := 0) rfl))
  have c36 : ∀ t, Steps p.tables e below (T27.setTop (mkF m 20 #[.val (.ref a1), .val (.double pm), .second, .unset, .unset, .unset] [])) t → Steps p.tables e below (s₁.setTop (entryFrame m #[(.ref a1), (.double pm)] 6)) t := fun t k => c26 t (st27 _ k)
  have c37 : ∀ t, Steps p.tables e below (T27.setTop (mkF m 21 #[.val (.ref a1), .val (.double pm), .second, .unset, .unset, .unset] [(.ref a1)])) t → Steps p.tables e below (s₁.setTop (entryFrame m #[(.ref a1), (.double pm)] 6)) t := fun t k => c36 t (by
    show Steps p.tables e below (T27.setTop (mkF m 20 #[.val (.ref a1), .val (.double pm), .second, .unset, .unset, .unset] [])) _
    refine XS.aloadN X27.here hx rfl (hb hby d1_20) rfl rfl ?_
    show Steps p.tables e below (T27.setTop (mkF m 21 #[.val (.ref a1), .val (.double pm), .second, .unset, .unset, .unset] [(.ref a1)])) _
    exact k)
  obtain ⟨T38, X38, e38, st38⟩ := getF X27 hx hZ hown (host := "") (Or.inl (hw _ (List.mem_of_getElem? (i := 14) rfl))) Via.refl e27 F28 (g := (mkF m 21 #[.val (.ref a1), .val (.double pm), .second, .unset, .unset, .unset] [(.ref a1)])) rfl rfl (hb hby d1_21)
  have c39 : ∀ t, Steps p.tables e below (T38.setTop (mkF m 24 #[.val (.ref a1), .val (.double pm), .second, .unset, .unset, .unset] [(.int (Int32.ofNat M))])) t → Steps p.tables e below (s₁.setTop (entryFrame m #[(.ref a1), (.double pm)] 6)) t := fun t k => c37 t (st38 _ k)
  have c40 : ∀ t, Steps p.tables e below (T38.setTop (mkF m 28 #[.val (.ref a1), .val (.double pm), .second, .val (.int (Int32.ofNat M)), .val (.double FP.dconst1), .second] [])) t → Steps p.tables e below (s₁.setTop (entryFrame m #[(.ref a1), (.double pm)] 6)) t := fun t k => c39 t (by
    show Steps p.tables e below (T38.setTop (mkF m 24 #[.val (.ref a1), .val (.double pm), .second, .unset, .unset, .unset] [(.int (Int32.ofNat M))])) _
    refine XS.istoreN X38.here hx rfl (hb hby d1_24) rfl (l' := #[.val (.ref a1), .val (.double pm), .second, .val (.int (Int32.ofNat M)), .unset, .unset]) rfl ?_
    show Steps p.tables e below (T38.setTop (mkF m 25 #[.val (.ref a1), .val (.double pm), .second, .val (.int (Int32.ofNat M)), .unset, .unset] [])) _
    refine XS.dconst1 X38.here hx rfl (hb hby d1_25) rfl ?_
    show Steps p.tables e below (T38.setTop (mkF m 26 #[.val (.ref a1), .val (.double pm), .second, .val (.int (Int32.ofNat M)), .unset, .unset] [(.double FP.dconst1)])) _
    refine XS.dstore X38.here hx rfl (hb hby d1_26) rfl (l' := #[.val (.ref a1), .val (.double pm), .second, .val (.int (Int32.ofNat M)), .val (.double FP.dconst1), .second]) rfl ?_
    show Steps p.tables e below (T38.setTop (mkF m 28 #[.val (.ref a1), .val (.double pm), .second, .val (.int (Int32.ofNat M)), .val (.double FP.dconst1), .second] [])) _
    exact k)
  have LP1 : ∀ kq : Nat, kq ≤ M - F → ∀ t, Steps p.tables e below (T38.setTop (mkF m 28 #[.val (.ref a1), .val (.double pm), .second, .val (.int (Int32.ofNat (M - kq))), .val (.double (pr kq)), .second] [])) t → Steps p.tables e below (s₁.setTop (entryFrame m #[(.ref a1), (.double pm)] 6)) t := by
    intro kq
    induction kq with
    | zero => intro _; rw [hp0]; exact c40
    | succ kq ih =>
      intro hk
      have cy := ih (by omega)
      have hq := hp kq (by omega)
      obtain ⟨d35, hd35⟩ : ∃ v : UInt64, FP.i2d (Int32.ofNat (M - kq)) = v := ⟨_, rfl⟩
      obtain ⟨d37, hd37⟩ : ∃ v : UInt64, FP.ddiv d35 pm = v := ⟨_, rfl⟩
      have u37 : FP.dmul (pr kq) d37 = pr (kq + 1) := by rw [← hd37, ← hd35]; exact hq.2.1
      have n37 : Jvm.Free.Fl.NoNaN64 (FP.ddiv d35 pm) := by rw [← hd35]; exact hq.1
      obtain ⟨k46, hk46⟩ : ∃ v : Int32, cmpValue (FP.dcmp (pr (kq + 1)) (118622047889322841 : UInt64)) .g = v := ⟨_, rfl⟩
      obtain ⟨ni, hni⟩ : ∃ v : Int32, v = ((Int32.ofNat (M - kq)) + (-1 : Int32)) := ⟨_, rfl⟩
      have c41 : ∀ t, Steps p.tables e below (T38.setTop (mkF m 56 #[.val (.ref a1), .val (.double pm), .second, .val (.int ni), .val (.double (pr (kq + 1))), .second] [])) t → Steps p.tables e below (s₁.setTop (entryFrame m #[(.ref a1), (.double pm)] 6)) t := fun t k => cy t (by
        rw [hni] at k
        show Steps p.tables e below (T38.setTop (mkF m 28 #[.val (.ref a1), .val (.double pm), .second, .val (.int (Int32.ofNat (M - kq))), .val (.double (pr kq)), .second] [])) _
        refine XS.iloadN X38.here hx rfl (hb hby d1_28) rfl ?_
        show Steps p.tables e below (T38.setTop (mkF m 29 #[.val (.ref a1), .val (.double pm), .second, .val (.int (Int32.ofNat (M - kq))), .val (.double (pr kq)), .second] [(.int (Int32.ofNat (M - kq)))])) _
        refine XS.ifNo X38.here hx rfl (hb hby d1_29) rfl (XT.i0_le_f (pos_k (by omega) (by omega))) ?_
        show Steps p.tables e below (T38.setTop (mkF m 32 #[.val (.ref a1), .val (.double pm), .second, .val (.int (Int32.ofNat (M - kq))), .val (.double (pr kq)), .second] [])) _
        refine XS.dload X38.here hx rfl (hb hby d1_32) rfl ?_
        show Steps p.tables e below (T38.setTop (mkF m 34 #[.val (.ref a1), .val (.double pm), .second, .val (.int (Int32.ofNat (M - kq))), .val (.double (pr kq)), .second] [(.double (pr kq))])) _
        refine XS.iloadN X38.here hx rfl (hb hby d1_34) rfl ?_
        show Steps p.tables e below (T38.setTop (mkF m 35 #[.val (.ref a1), .val (.double pm), .second, .val (.int (Int32.ofNat (M - kq))), .val (.double (pr kq)), .second] [(.int (Int32.ofNat (M - kq))), (.double (pr kq))])) _
        refine XS.i2dS X38.here hx rfl (hb hby d1_35) rfl hd35 ?_
        show Steps p.tables e below (T38.setTop (mkF m 36 #[.val (.ref a1), .val (.double pm), .second, .val (.int (Int32.ofNat (M - kq))), .val (.double (pr kq)), .second] [(.double d35), (.double (pr kq))])) _
        refine XS.dloadN X38.here hx rfl (hb hby d1_36) rfl ?_
        show Steps p.tables e below (T38.setTop (mkF m 37 #[.val (.ref a1), .val (.double pm), .second, .val (.int (Int32.ofNat (M - kq))), .val (.double (pr kq)), .second] [(.double pm), (.double d35), (.double (pr kq))])) _
        refine XS.ddivS X38.here hx rfl (hb hby d1_37) rfl n37 hd37 ?_
        show Steps p.tables e below (T38.setTop (mkF m 38 #[.val (.ref a1), .val (.double pm), .second, .val (.int (Int32.ofNat (M - kq))), .val (.double (pr kq)), .second] [(.double d37), (.double (pr kq))])) _
        refine XS.dmulS X38.here hx rfl (hb hby d1_38) rfl (u37 ▸ hq.2.2.1) u37 ?_
        show Steps p.tables e below (T38.setTop (mkF m 39 #[.val (.ref a1), .val (.double pm), .second, .val (.int (Int32.ofNat (M - kq))), .val (.double (pr kq)), .second] [(.double (pr (kq + 1)))])) _
        refine XS.dstore X38.here hx rfl (hb hby d1_39) rfl (l' := #[.val (.ref a1), .val (.double pm), .second, .val (.int (Int32.ofNat (M - kq))), .val (.double (pr (kq + 1))), .second]) rfl ?_
        show Steps p.tables e below (T38.setTop (mkF m 41 #[.val (.ref a1), .val (.double pm), .second, .val (.int (Int32.ofNat (M - kq))), .val (.double (pr (kq + 1))), .second] [])) _
        refine XS.dload X38.here hx rfl (hb hby d1_41) rfl ?_
        show Steps p.tables e below (T38.setTop (mkF m 43 #[.val (.ref a1), .val (.double pm), .second, .val (.int (Int32.ofNat (M - kq))), .val (.double (pr (kq + 1))), .second] [(.double (pr (kq + 1)))])) _
        refine Jvm.Stand.ldc2DoubleC X38 hx hown (mvT hZ (hw _ (List.mem_of_getElem? (i := 16) rfl))) (g := (mkF m 43 #[.val (.ref a1), .val (.double pm), .second, .val (.int (Int32.ofNat (M - kq))), .val (.double (pr (kq + 1))), .second] [(.double (pr (kq + 1)))])) rfl (hb hby d1_43) _ ?_
        show Steps p.tables e below (T38.setTop (mkF m 46 #[.val (.ref a1), .val (.double pm), .second, .val (.int (Int32.ofNat (M - kq))), .val (.double (pr (kq + 1))), .second] [(.double (118622047889322841 : UInt64)), (.double (pr (kq + 1)))])) _
        refine XS.dcmpS X38.here hx rfl (hb hby d1_46) rfl hk46 ?_
        show Steps p.tables e below (T38.setTop (mkF m 47 #[.val (.ref a1), .val (.double pm), .second, .val (.int (Int32.ofNat (M - kq))), .val (.double (pr (kq + 1))), .second] [(.int k46)])) _
        refine XS.ifYes X38.here hx rfl (pc0 := 47) (pc' := 53) rfl (hb hby d1_47) rfl (XT.i0_ge_t (by rw [← hk46]; exact hq.2.2.2)) (by decide) (by decide) ?_
        show Steps p.tables e below (T38.setTop (mkF m 53 #[.val (.ref a1), .val (.double pm), .second, .val (.int (Int32.ofNat (M - kq))), .val (.double (pr (kq + 1))), .second] [])) _
        refine XS.iinc X38.here hx rfl (hb hby d1_53) rfl (l' := #[.val (.ref a1), .val (.double pm), .second, .val (.int ((Int32.ofNat (M - kq)) + (-1 : Int32))), .val (.double (pr (kq + 1))), .second]) rfl ?_
        show Steps p.tables e below (T38.setTop (mkF m 56 #[.val (.ref a1), .val (.double pm), .second, .val (.int ((Int32.ofNat (M - kq)) + (-1 : Int32))), .val (.double (pr (kq + 1))), .second] [])) _
        exact k)
      have c42 : ∀ t, Steps p.tables e below (T38.setTop (mkF m 28 #[.val (.ref a1), .val (.double pm), .second, .val (.int ni), .val (.double (pr (kq + 1))), .second] [])) t → Steps p.tables e below (s₁.setTop (entryFrame m #[(.ref a1), (.double pm)] 6)) t := fun t k => c41 t (by
        show Steps p.tables e below (T38.setTop (mkF m 56 #[.val (.ref a1), .val (.double pm), .second, .val (.int ni), .val (.double (pr (kq + 1))), .second] [])) _
        refine XS.goto X38.here hx rfl (pc0 := 56) (pc' := 28) rfl (hb hby d1_56) (by decide) (by decide) ?_
        show Steps p.tables e below (T38.setTop (mkF m 28 #[.val (.ref a1), .val (.double pm), .second, .val (.int ni), .val (.double (pr (kq + 1))), .second] [])) _
        exact k)
      have hn2 : ni = Int32.ofNat (M - (kq + 1)) := hni.trans (dec_k (by omega) hM2)
      subst hn2
      exact c42
  have EX : ∃ dx : UInt64, ∀ t, Steps p.tables e below (T38.setTop (mkF m 59 #[.val (.ref a1), .val (.double pm), .second, .val (.int (Int32.ofNat F)), .val (.double dx), .second] [])) t → Steps p.tables e below (s₁.setTop (entryFrame m #[(.ref a1), (.double pm)] 6)) t := by
    rcases hx1 with rfl | ⟨fp, hq⟩
    · have cy := LP1 M (by omega)
      rw [Nat.sub_self] at cy
      have c43 : ∀ t, Steps p.tables e below (T38.setTop (mkF m 59 #[.val (.ref a1), .val (.double pm), .second, .val (.int (Int32.ofNat 0)), .val (.double (pr M)), .second] [])) t → Steps p.tables e below (s₁.setTop (entryFrame m #[(.ref a1), (.double pm)] 6)) t := fun t k => cy t (by
        show Steps p.tables e below (T38.setTop (mkF m 28 #[.val (.ref a1), .val (.double pm), .second, .val (.int (Int32.ofNat 0)), .val (.double (pr M)), .second] [])) _
        refine XS.iloadN X38.here hx rfl (hb hby d1_28) rfl ?_
        show Steps p.tables e below (T38.setTop (mkF m 29 #[.val (.ref a1), .val (.double pm), .second, .val (.int (Int32.ofNat 0)), .val (.double (pr M)), .second] [(.int (Int32.ofNat 0))])) _
        refine XS.ifYes X38.here hx rfl (pc0 := 29) (pc' := 59) rfl (hb hby d1_29) rfl (XT.i0_le_t (by decide)) (by decide) (by decide) ?_
        show Steps p.tables e below (T38.setTop (mkF m 59 #[.val (.ref a1), .val (.double pm), .second, .val (.int (Int32.ofNat 0)), .val (.double (pr M)), .second] [])) _
        exact k)
      exact ⟨_, c43⟩
    · have cy := LP1 (M - F) (Nat.le_refl _)
      have eF : M - (M - F) = F := by omega
      rw [eF] at cy hq
      obtain ⟨d35, hd35⟩ : ∃ v : UInt64, FP.i2d (Int32.ofNat F) = v := ⟨_, rfl⟩
      obtain ⟨d37, hd37⟩ : ∃ v : UInt64, FP.ddiv d35 pm = v := ⟨_, rfl⟩
      have u37 : FP.dmul (pr (M - F)) d37 = pr ((M - F) + 1) := by rw [← hd37, ← hd35]; exact hq.2.1
      have n37 : Jvm.Free.Fl.NoNaN64 (FP.ddiv d35 pm) := by rw [← hd35]; exact hq.1
      obtain ⟨k46, hk46⟩ : ∃ v : Int32, cmpValue (FP.dcmp (pr ((M - F) + 1)) (118622047889322841 : UInt64)) .g = v := ⟨_, rfl⟩
      have c44 : ∀ t, Steps p.tables e below (T38.setTop (mkF m 59 #[.val (.ref a1), .val (.double pm), .second, .val (.int (Int32.ofNat F)), .val (.double (pr ((M - F) + 1))), .second] [])) t → Steps p.tables e below (s₁.setTop (entryFrame m #[(.ref a1), (.double pm)] 6)) t := fun t k => cy t (by
        show Steps p.tables e below (T38.setTop (mkF m 28 #[.val (.ref a1), .val (.double pm), .second, .val (.int (Int32.ofNat F)), .val (.double (pr (M - F))), .second] [])) _
        refine XS.iloadN X38.here hx rfl (hb hby d1_28) rfl ?_
        show Steps p.tables e below (T38.setTop (mkF m 29 #[.val (.ref a1), .val (.double pm), .second, .val (.int (Int32.ofNat F)), .val (.double (pr (M - F))), .second] [(.int (Int32.ofNat F))])) _
        refine XS.ifNo X38.here hx rfl (hb hby d1_29) rfl (XT.i0_le_f (pos_k fp (by omega))) ?_
        show Steps p.tables e below (T38.setTop (mkF m 32 #[.val (.ref a1), .val (.double pm), .second, .val (.int (Int32.ofNat F)), .val (.double (pr (M - F))), .second] [])) _
        refine XS.dload X38.here hx rfl (hb hby d1_32) rfl ?_
        show Steps p.tables e below (T38.setTop (mkF m 34 #[.val (.ref a1), .val (.double pm), .second, .val (.int (Int32.ofNat F)), .val (.double (pr (M - F))), .second] [(.double (pr (M - F)))])) _
        refine XS.iloadN X38.here hx rfl (hb hby d1_34) rfl ?_
        show Steps p.tables e below (T38.setTop (mkF m 35 #[.val (.ref a1), .val (.double pm), .second, .val (.int (Int32.ofNat F)), .val (.double (pr (M - F))), .second] [(.int (Int32.ofNat F)), (.double (pr (M - F)))])) _
        refine XS.i2dS X38.here hx rfl (hb hby d1_35) rfl hd35 ?_
        show Steps p.tables e below (T38.setTop (mkF m 36 #[.val (.ref a1), .val (.double pm), .second, .val (.int (Int32.ofNat F)), .val (.double (pr (M - F))), .second] [(.double d35), (.double (pr (M - F)))])) _
        refine XS.dloadN X38.here hx rfl (hb hby d1_36) rfl ?_
        show Steps p.tables e below (T38.setTop (mkF m 37 #[.val (.ref a1), .val (.double pm), .second, .val (.int (Int32.ofNat F)), .val (.double (pr (M - F))), .second] [(.double pm), (.double d35), (.double (pr (M - F)))])) _
        refine XS.ddivS X38.here hx rfl (hb hby d1_37) rfl n37 hd37 ?_
        show Steps p.tables e below (T38.setTop (mkF m 38 #[.val (.ref a1), .val (.double pm), .second, .val (.int (Int32.ofNat F)), .val (.double (pr (M - F))), .second] [(.double d37), (.double (pr (M - F)))])) _
        refine XS.dmulS X38.here hx rfl (hb hby d1_38) rfl (u37 ▸ hq.2.2.1) u37 ?_
        show Steps p.tables e below (T38.setTop (mkF m 39 #[.val (.ref a1), .val (.double pm), .second, .val (.int (Int32.ofNat F)), .val (.double (pr (M - F))), .second] [(.double (pr ((M - F) + 1)))])) _
        refine XS.dstore X38.here hx rfl (hb hby d1_39) rfl (l' := #[.val (.ref a1), .val (.double pm), .second, .val (.int (Int32.ofNat F)), .val (.double (pr ((M - F) + 1))), .second]) rfl ?_
        show Steps p.tables e below (T38.setTop (mkF m 41 #[.val (.ref a1), .val (.double pm), .second, .val (.int (Int32.ofNat F)), .val (.double (pr ((M - F) + 1))), .second] [])) _
        refine XS.dload X38.here hx rfl (hb hby d1_41) rfl ?_
        show Steps p.tables e below (T38.setTop (mkF m 43 #[.val (.ref a1), .val (.double pm), .second, .val (.int (Int32.ofNat F)), .val (.double (pr ((M - F) + 1))), .second] [(.double (pr ((M - F) + 1)))])) _
        refine Jvm.Stand.ldc2DoubleC X38 hx hown (mvT hZ (hw _ (List.mem_of_getElem? (i := 16) rfl))) (g := (mkF m 43 #[.val (.ref a1), .val (.double pm), .second, .val (.int (Int32.ofNat F)), .val (.double (pr ((M - F) + 1))), .second] [(.double (pr ((M - F) + 1)))])) rfl (hb hby d1_43) _ ?_
        show Steps p.tables e below (T38.setTop (mkF m 46 #[.val (.ref a1), .val (.double pm), .second, .val (.int (Int32.ofNat F)), .val (.double (pr ((M - F) + 1))), .second] [(.double (118622047889322841 : UInt64)), (.double (pr ((M - F) + 1)))])) _
        refine XS.dcmpS X38.here hx rfl (hb hby d1_46) rfl hk46 ?_
        show Steps p.tables e below (T38.setTop (mkF m 47 #[.val (.ref a1), .val (.double pm), .second, .val (.int (Int32.ofNat F)), .val (.double (pr ((M - F) + 1))), .second] [(.int k46)])) _
        refine XS.ifNo X38.here hx rfl (hb hby d1_47) rfl (XT.i0_ge_f (by rw [← hk46]; exact hq.2.2.2)) ?_
        show Steps p.tables e below (T38.setTop (mkF m 50 #[.val (.ref a1), .val (.double pm), .second, .val (.int (Int32.ofNat F)), .val (.double (pr ((M - F) + 1))), .second] [])) _
        refine XS.goto X38.here hx rfl (pc0 := 50) (pc' := 59) rfl (hb hby d1_50) (by decide) (by decide) ?_
        show Steps p.tables e below (T38.setTop (mkF m 59 #[.val (.ref a1), .val (.double pm), .second, .val (.int (Int32.ofNat F)), .val (.double (pr ((M - F) + 1))), .second] [])) _
        exact k)
      exact ⟨_, c44⟩
  obtain ⟨dx, cz⟩ := EX
  have c45 : ∀ t, Steps p.tables e below (T38.setTop (mkF m 61 #[.val (.ref a1), .val (.double pm), .second, .val (.int (Int32.ofNat F)), .val (.double dx), .second] [(.int (Int32.ofNat F)), (.ref a1)])) t → Steps p.tables e below (s₁.setTop (entryFrame m #[(.ref a1), (.double pm)] 6)) t := fun t k => cz t (by
    show Steps p.tables e below (T38.setTop (mkF m 59 #[.val (.ref a1), .val (.double pm), .second, .val (.int (Int32.ofNat F)), .val (.double dx), .second] [])) _
    refine XS.aloadN X38.here hx rfl (hb hby d1_59) rfl rfl ?_
    show Steps p.tables e below (T38.setTop (mkF m 60 #[.val (.ref a1), .val (.double pm), .second, .val (.int (Int32.ofNat F)), .val (.double dx), .second] [(.ref a1)])) _
    refine XS.iloadN X38.here hx rfl (hb hby d1_60) rfl ?_
    show Steps p.tables e below (T38.setTop (mkF m 61 #[.val (.ref a1), .val (.double pm), .second, .val (.int (Int32.ofNat F)), .val (.double dx), .second] [(.int (Int32.ofNat F)), (.ref a1)])) _
    exact k)
  obtain ⟨T46, h46, X46, e46, W46, st46⟩ := putF X38 hx hZ hown (host := "") (Or.inl (hw _ (List.mem_of_getElem? (i := 17) rfl))) Via.refl e38 F32 F29 (Or.inr ⟨(hw _ (List.mem_of_getElem? (i := 18) rfl)), rfl, hnaM⟩) (hw _ (List.mem_of_getElem? (i := 2) rfl)) (ty := .int) (by decide) rfl rfl (g := (mkF m 61 #[.val (.ref a1), .val (.double pm), .second, .val (.int (Int32.ofNat F)), .val (.double dx), .second] [(.int (Int32.ofNat F)), (.ref a1)])) rfl rfl (hb hby d1_61)
  have F47 : Fld Z h46 a1 "com/example/topple/topple/markov/PoissonWeights" "fewest" "I" (.int (Int32.ofNat F)) := F32.same W46
  have F48 : Exa Z h46 a1 "com/example/topple/topple/markov/PoissonWeights" := (F29.wr W46)
  have F49 : Fld Z h46 a1 "com/example/topple/topple/markov/PoissonWeights" "count" "I" (.int (-1 : Int32)) := (F30.other W46 (Or.inr (slot_ne (Or.inl (hw _ (List.mem_of_getElem? (i := 11) rfl))) (Or.inr (hw _ (List.mem_of_getElem? (i := 18) rfl))) (by decide) (t := .int) (t' := .int) (by decide) (by decide))))
  have F50 : Fld Z h46 a1 "com/example/topple/topple/markov/PoissonWeights" "mean" "D" (.double pm) := (F31.other W46 (Or.inr (slot_ne (Or.inr (hw _ (List.mem_of_getElem? (i := 13) rfl))) (Or.inr (hw _ (List.mem_of_getElem? (i := 18) rfl))) (by decide) (t := .double) (t' := .int) (by decide) (by decide))))
  have F51 : Fld Z h46 a1 "com/example/topple/topple/markov/PoissonWeights" "mode" "I" (.int (Int32.ofNat M)) := (F28.other W46 (Or.inr (slot_ne (Or.inr (hw _ (List.mem_of_getElem? (i := 15) rfl))) (Or.inr (hw _ (List.mem_of_getElem? (i := 18) rfl))) (by decide) (t := .int) (t' := .int) (by decide) (by decide))))
  have F52 : Fld Z h46 a1 "com/example/topple/topple/markov/PoissonWeights" "toMode" "[D" .null := (F33.other W46 (Or.inr (slot_ne (Or.inr (hw _ (List.mem_of_getElem? (i := 21) rfl))) (Or.inr (hw _ (List.mem_of_getElem? (i := 18) rfl))) (by decide) (t := (.array .double)) (t' := .int) (by decide) (by decide))))
  have F53 : Fld Z h46 a1 "com/example/topple/topple/markov/PoissonWeights" "weight" "D" (.double (0 : UInt64)) := (F34.other W46 (Or.inr (slot_ne (Or.inl (hw _ (List.mem_of_getElem? (i := 28) rfl))) (Or.inr (hw _ (List.mem_of_getElem? (i := 18) rfl))) (by decide) (t := .double) (t' := .int) (by decide) (by decide))))
  have N46 := Fr.snoc X46 N27 g_a1
  have K54 : Keep h0 h46 [a1] := K35.wr W46 (Or.inl (List.mem_of_getElem? (i := 0) rfl))
  have c55 : ∀ t, Steps p.tables e below (T46.setTop (mkF m 64 #[.val (.ref a1), .val (.double pm), .second, .val (.int (Int32.ofNat F)), .val (.double dx), .second] [])) t → Steps p.tables e below (s₁.setTop (entryFrame m #[(.ref a1), (.double pm)] 6)) t := fun t k => c45 t (st46 _ k)
  have c56 : ∀ t, Steps p.tables e below (T46.setTop (mkF m 66 #[.val (.ref a1), .val (.double pm), .second, .val (.int (Int32.ofNat F)), .val (.double dx), .second] [(.ref a1), (.ref a1)])) t → Steps p.tables e below (s₁.setTop (entryFrame m #[(.ref a1), (.double pm)] 6)) t := fun t k => c55 t (by
    show Steps p.tables e below (T46.setTop (mkF m 64 #[.val (.ref a1), .val (.double pm), .second, .val (.int (Int32.ofNat F)), .val (.double dx), .second] [])) _
    refine XS.aloadN X46.here hx rfl (hb hby d1_64) rfl rfl ?_
    show Steps p.tables e below (T46.setTop (mkF m 65 #[.val (.ref a1), .val (.double pm), .second, .val (.int (Int32.ofNat F)), .val (.double dx), .second] [(.ref a1)])) _
    refine XS.aloadN X46.here hx rfl (hb hby d1_65) rfl rfl ?_
    show Steps p.tables e below (T46.setTop (mkF m 66 #[.val (.ref a1), .val (.double pm), .second, .val (.int (Int32.ofNat F)), .val (.double dx), .second] [(.ref a1), (.ref a1)])) _
    exact k)
  obtain ⟨T57, X57, e57, st57⟩ := getF X46 hx hZ hown (host := "") (Or.inl (hw _ (List.mem_of_getElem? (i := 14) rfl))) Via.refl e46 F51 (g := (mkF m 66 #[.val (.ref a1), .val (.double pm), .second, .val (.int (Int32.ofNat F)), .val (.double dx), .second] [(.ref a1), (.ref a1)])) rfl rfl (hb hby d1_66)
  have c58 : ∀ t, Steps p.tables e below (T57.setTop (mkF m 69 #[.val (.ref a1), .val (.double pm), .second, .val (.int (Int32.ofNat F)), .val (.double dx), .second] [(.int (Int32.ofNat M)), (.ref a1)])) t → Steps p.tables e below (s₁.setTop (entryFrame m #[(.ref a1), (.double pm)] 6)) t := fun t k => c56 t (st57 _ k)
  have lz := len_k hF hM2
  have c59 : ∀ t, Steps p.tables e below (T57.setTop (mkF m 73 #[.val (.ref a1), .val (.double pm), .second, .val (.int (Int32.ofNat F)), .val (.double dx), .second] [(.int (((Int32.ofNat M) - (Int32.ofNat F)) + (1 : Int32))), (.ref a1)])) t → Steps p.tables e below (s₁.setTop (entryFrame m #[(.ref a1), (.double pm)] 6)) t := fun t k => c58 t (by
    show Steps p.tables e below (T57.setTop (mkF m 69 #[.val (.ref a1), .val (.double pm), .second, .val (.int (Int32.ofNat F)), .val (.double dx), .second] [(.int (Int32.ofNat M)), (.ref a1)])) _
    refine XS.iloadN X57.here hx rfl (hb hby d1_69) rfl ?_
    show Steps p.tables e below (T57.setTop (mkF m 70 #[.val (.ref a1), .val (.double pm), .second, .val (.int (Int32.ofNat F)), .val (.double dx), .second] [(.int (Int32.ofNat F)), (.int (Int32.ofNat M)), (.ref a1)])) _
    refine XS.isub X57.here hx rfl (hb hby d1_70) rfl ?_
    show Steps p.tables e below (T57.setTop (mkF m 71 #[.val (.ref a1), .val (.double pm), .second, .val (.int (Int32.ofNat F)), .val (.double dx), .second] [(.int ((Int32.ofNat M) - (Int32.ofNat F))), (.ref a1)])) _
    refine XS.iconst X57.here hx rfl (hb hby d1_71) ?_
    show Steps p.tables e below (T57.setTop (mkF m 72 #[.val (.ref a1), .val (.double pm), .second, .val (.int (Int32.ofNat F)), .val (.double dx), .second] [(.int (1 : Int32)), (.int ((Int32.ofNat M) - (Int32.ofNat F))), (.ref a1)])) _
    refine XS.iadd X57.here hx rfl (hb hby d1_72) rfl ?_
    show Steps p.tables e below (T57.setTop (mkF m 73 #[.val (.ref a1), .val (.double pm), .second, .val (.int (Int32.ofNat F)), .val (.double dx), .second] [(.int (((Int32.ofNat M) - (Int32.ofNat F)) + (1 : Int32))), (.ref a1)])) _
    exact k)
  obtain ⟨T60, h60, kA60, X60, e60, E60, A60, st60⟩ := newP X57 hx hZ (hw _ (List.mem_of_getElem? (i := 19) rfl)) e57 (g := (mkF m 73 #[.val (.ref a1), .val (.double pm), .second, .val (.int (Int32.ofNat F)), .val (.double dx), .second] [(.int (((Int32.ofNat M) - (Int32.ofNat F)) + (1 : Int32))), (.ref a1)])) rfl (hb hby d1_73) rfl (by rw [Int32.lt_iff_toInt_lt, lz, Int32.toInt_zero]; omega) (cap := 2000) (by rw [Int32.toNatClampNeg, lz]; omega) (by decide) (by decide) (by decide)
  obtain ⟨ta, g60⟩ : ∃ z, z = h46.size := ⟨_, rfl⟩
  rw [← g60] at A60 st60
  have F61 : Exa Z h60 a1 "com/example/topple/topple/markov/PoissonWeights" := (F48.ext E60)
  have F62 : Fld Z h60 a1 "com/example/topple/topple/markov/PoissonWeights" "count" "I" (.int (-1 : Int32)) := (F49.ext E60)
  have F63 : Fld Z h60 a1 "com/example/topple/topple/markov/PoissonWeights" "mean" "D" (.double pm) := (F50.ext E60)
  have F64 : Fld Z h60 a1 "com/example/topple/topple/markov/PoissonWeights" "mode" "I" (.int (Int32.ofNat M)) := (F51.ext E60)
  have F65 : Fld Z h60 a1 "com/example/topple/topple/markov/PoissonWeights" "fewest" "I" (.int (Int32.ofNat F)) := (F47.ext E60)
  have F66 : Fld Z h60 a1 "com/example/topple/topple/markov/PoissonWeights" "toMode" "[D" .null := (F52.ext E60)
  have F67 : Fld Z h60 a1 "com/example/topple/topple/markov/PoissonWeights" "weight" "D" (.double (0 : UInt64)) := (F53.ext E60)
  have F68 : OwnArr.Ag Z h60 ta .double (M - F + 1) (fun _ => (.double (0 : UInt64))) := (OwnArr.Ag.new A60 lz)
  have K69 : Keep h0 h60 [a1] := K54.ext E60
  have c70 : ∀ t, Steps p.tables e below (T60.setTop (mkF m 75 #[.val (.ref a1), .val (.double pm), .second, .val (.int (Int32.ofNat F)), .val (.double dx), .second] [(.ref ta), (.ref a1)])) t → Steps p.tables e below (s₁.setTop (entryFrame m #[(.ref a1), (.double pm)] 6)) t := fun t k => c59 t (st60 _ k)
  obtain ⟨T71, h71, X71, e71, W71, st71⟩ := putF X60 hx hZ hown (host := "") (Or.inl (hw _ (List.mem_of_getElem? (i := 20) rfl))) Via.refl e60 F66 F61 (Or.inr ⟨(hw _ (List.mem_of_getElem? (i := 21) rfl)), rfl, hnaM⟩) (hw _ (List.mem_of_getElem? (i := 2) rfl)) (ty := (.array .double)) (by decide) rfl rfl (g := (mkF m 75 #[.val (.ref a1), .val (.double pm), .second, .val (.int (Int32.ofNat F)), .val (.double dx), .second] [(.ref ta), (.ref a1)])) rfl rfl (hb hby d1_75)
  have F72 : Fld Z h71 a1 "com/example/topple/topple/markov/PoissonWeights" "toMode" "[D" (.ref ta) := F66.same W71
  have F73 : Exa Z h71 a1 "com/example/topple/topple/markov/PoissonWeights" := (F61.wr W71)
  have F74 : Fld Z h71 a1 "com/example/topple/topple/markov/PoissonWeights" "count" "I" (.int (-1 : Int32)) := (F62.other W71 (Or.inr (slot_ne (Or.inl (hw _ (List.mem_of_getElem? (i := 11) rfl))) (Or.inr (hw _ (List.mem_of_getElem? (i := 21) rfl))) (by decide) (t := .int) (t' := (.array .double)) (by decide) (by decide))))
  have F75 : Fld Z h71 a1 "com/example/topple/topple/markov/PoissonWeights" "mean" "D" (.double pm) := (F63.other W71 (Or.inr (slot_ne (Or.inr (hw _ (List.mem_of_getElem? (i := 13) rfl))) (Or.inr (hw _ (List.mem_of_getElem? (i := 21) rfl))) (by decide) (t := .double) (t' := (.array .double)) (by decide) (by decide))))
  have F76 : Fld Z h71 a1 "com/example/topple/topple/markov/PoissonWeights" "mode" "I" (.int (Int32.ofNat M)) := (F64.other W71 (Or.inr (slot_ne (Or.inr (hw _ (List.mem_of_getElem? (i := 15) rfl))) (Or.inr (hw _ (List.mem_of_getElem? (i := 21) rfl))) (by decide) (t := .int) (t' := (.array .double)) (by decide) (by decide))))
  have F77 : Fld Z h71 a1 "com/example/topple/topple/markov/PoissonWeights" "fewest" "I" (.int (Int32.ofNat F)) := (F65.other W71 (Or.inr (slot_ne (Or.inr (hw _ (List.mem_of_getElem? (i := 18) rfl))) (Or.inr (hw _ (List.mem_of_getElem? (i := 21) rfl))) (by decide) (t := .int) (t' := (.array .double)) (by decide) (by decide))))
  have F78 : Fld Z h71 a1 "com/example/topple/topple/markov/PoissonWeights" "weight" "D" (.double (0 : UInt64)) := (F67.other W71 (Or.inr (slot_ne (Or.inl (hw _ (List.mem_of_getElem? (i := 28) rfl))) (Or.inr (hw _ (List.mem_of_getElem? (i := 21) rfl))) (by decide) (t := .double) (t' := (.array .double)) (by decide) (by decide))))
  have F79 : OwnArr.Ag Z h71 ta .double (M - F + 1) (fun _ => (.double (0 : UInt64))) := (F68.other W71 (Ne.symm (Nat.ne_of_lt (Nat.lt_of_lt_of_le F48.lt (Nat.le_of_eq g60.symm)))))
  have N71 := Fr.snoc X71 N46 g_a1
  have K80 : Keep h0 h71 [a1] := K69.wr W71 (Or.inl (List.mem_of_getElem? (i := 0) rfl))
  have c81 : ∀ t, Steps p.tables e below (T71.setTop (mkF m 78 #[.val (.ref a1), .val (.double pm), .second, .val (.int (Int32.ofNat F)), .val (.double dx), .second] [])) t → Steps p.tables e below (s₁.setTop (entryFrame m #[(.ref a1), (.double pm)] 6)) t := fun t k => c70 t (st71 _ k)
  have c82 : ∀ t, Steps p.tables e below (T71.setTop (mkF m 79 #[.val (.ref a1), .val (.double pm), .second, .val (.int (Int32.ofNat F)), .val (.double dx), .second] [(.ref a1)])) t → Steps p.tables e below (s₁.setTop (entryFrame m #[(.ref a1), (.double pm)] 6)) t := fun t k => c81 t (by
    show Steps p.tables e below (T71.setTop (mkF m 78 #[.val (.ref a1), .val (.double pm), .second, .val (.int (Int32.ofNat F)), .val (.double dx), .second] [])) _
    refine XS.aloadN X71.here hx rfl (hb hby d1_78) rfl rfl ?_
    show Steps p.tables e below (T71.setTop (mkF m 79 #[.val (.ref a1), .val (.double pm), .second, .val (.int (Int32.ofNat F)), .val (.double dx), .second] [(.ref a1)])) _
    exact k)
  obtain ⟨T83, X83, e83, st83⟩ := getF X71 hx hZ hown (host := "") (Or.inl (hw _ (List.mem_of_getElem? (i := 20) rfl))) Via.refl e71 F72 (g := (mkF m 79 #[.val (.ref a1), .val (.double pm), .second, .val (.int (Int32.ofNat F)), .val (.double dx), .second] [(.ref a1)])) rfl rfl (hb hby d1_79)
  have c84 : ∀ t, Steps p.tables e below (T83.setTop (mkF m 82 #[.val (.ref a1), .val (.double pm), .second, .val (.int (Int32.ofNat F)), .val (.double dx), .second] [(.ref ta)])) t → Steps p.tables e below (s₁.setTop (entryFrame m #[(.ref a1), (.double pm)] 6)) t := fun t k => c82 t (st83 _ k)
  have c85 : ∀ t, Steps p.tables e below (T83.setTop (mkF m 83 #[.val (.ref a1), .val (.double pm), .second, .val (.int (Int32.ofNat F)), .val (.double dx), .second] [(.ref a1), (.ref ta)])) t → Steps p.tables e below (s₁.setTop (entryFrame m #[(.ref a1), (.double pm)] 6)) t := fun t k => c84 t (by
    show Steps p.tables e below (T83.setTop (mkF m 82 #[.val (.ref a1), .val (.double pm), .second, .val (.int (Int32.ofNat F)), .val (.double dx), .second] [(.ref ta)])) _
    refine XS.aloadN X83.here hx rfl (hb hby d1_82) rfl rfl ?_
    show Steps p.tables e below (T83.setTop (mkF m 83 #[.val (.ref a1), .val (.double pm), .second, .val (.int (Int32.ofNat F)), .val (.double dx), .second] [(.ref a1), (.ref ta)])) _
    exact k)
  obtain ⟨T86, X86, e86, st86⟩ := getF X83 hx hZ hown (host := "") (Or.inl (hw _ (List.mem_of_getElem? (i := 14) rfl))) Via.refl e83 F76 (g := (mkF m 83 #[.val (.ref a1), .val (.double pm), .second, .val (.int (Int32.ofNat F)), .val (.double dx), .second] [(.ref a1), (.ref ta)])) rfl rfl (hb hby d1_83)
  have c87 : ∀ t, Steps p.tables e below (T86.setTop (mkF m 86 #[.val (.ref a1), .val (.double pm), .second, .val (.int (Int32.ofNat F)), .val (.double dx), .second] [(.int (Int32.ofNat M)), (.ref ta)])) t → Steps p.tables e below (s₁.setTop (entryFrame m #[(.ref a1), (.double pm)] 6)) t := fun t k => c85 t (st86 _ k)
  have c88 : ∀ t, Steps p.tables e below (T86.setTop (mkF m 89 #[.val (.ref a1), .val (.double pm), .second, .val (.int (Int32.ofNat F)), .val (.double dx), .second] [(.double FP.dconst1), (.int ((Int32.ofNat M) - (Int32.ofNat F))), (.ref ta)])) t → Steps p.tables e below (s₁.setTop (entryFrame m #[(.ref a1), (.double pm)] 6)) t := fun t k => c87 t (by
    show Steps p.tables e below (T86.setTop (mkF m 86 #[.val (.ref a1), .val (.double pm), .second, .val (.int (Int32.ofNat F)), .val (.double dx), .second] [(.int (Int32.ofNat M)), (.ref ta)])) _
    refine XS.iloadN X86.here hx rfl (hb hby d1_86) rfl ?_
    show Steps p.tables e below (T86.setTop (mkF m 87 #[.val (.ref a1), .val (.double pm), .second, .val (.int (Int32.ofNat F)), .val (.double dx), .second] [(.int (Int32.ofNat F)), (.int (Int32.ofNat M)), (.ref ta)])) _
    refine XS.isub X86.here hx rfl (hb hby d1_87) rfl ?_
    show Steps p.tables e below (T86.setTop (mkF m 88 #[.val (.ref a1), .val (.double pm), .second, .val (.int (Int32.ofNat F)), .val (.double dx), .second] [(.int ((Int32.ofNat M) - (Int32.ofNat F))), (.ref ta)])) _
    refine XS.dconst1 X86.here hx rfl (hb hby d1_88) rfl ?_
    show Steps p.tables e below (T86.setTop (mkF m 89 #[.val (.ref a1), .val (.double pm), .second, .val (.int (Int32.ofNat F)), .val (.double dx), .second] [(.double FP.dconst1), (.int ((Int32.ofNat M) - (Int32.ofNat F))), (.ref ta)])) _
    exact k)
  obtain ⟨T89, h89, X89, e89, W89, st89⟩ := OwnArr.stDA X86 hx hZ e86 F79 (j := ((Int32.ofNat M) - (Int32.ofNat F))) (J := (M - F)) (sub_k hF hM2) (by omega) (g := (mkF m 89 #[.val (.ref a1), .val (.double pm), .second, .val (.int (Int32.ofNat F)), .val (.double dx), .second] [(.double FP.dconst1), (.int ((Int32.ofNat M) - (Int32.ofNat F))), (.ref ta)])) rfl rfl (hb hby d1_89)
  have F90 : OwnArr.Ag Z h89 ta .double (M - F + 1) (fun i => if i = (M - F) then (.double FP.dconst1) else (fun _ => (.double (0 : UInt64))) i) := (F79.set W89)
  have F91 : Exa Z h89 a1 "com/example/topple/topple/markov/PoissonWeights" := (F73.wr W89)
  have F92 : Fld Z h89 a1 "com/example/topple/topple/markov/PoissonWeights" "count" "I" (.int (-1 : Int32)) := (F74.other W89 (Or.inl (Nat.ne_of_lt (Nat.lt_of_lt_of_le F48.lt (Nat.le_of_eq g60.symm)))))
  have F93 : Fld Z h89 a1 "com/example/topple/topple/markov/PoissonWeights" "mean" "D" (.double pm) := (F75.other W89 (Or.inl (Nat.ne_of_lt (Nat.lt_of_lt_of_le F48.lt (Nat.le_of_eq g60.symm)))))
  have F94 : Fld Z h89 a1 "com/example/topple/topple/markov/PoissonWeights" "mode" "I" (.int (Int32.ofNat M)) := (F76.other W89 (Or.inl (Nat.ne_of_lt (Nat.lt_of_lt_of_le F48.lt (Nat.le_of_eq g60.symm)))))
  have F95 : Fld Z h89 a1 "com/example/topple/topple/markov/PoissonWeights" "fewest" "I" (.int (Int32.ofNat F)) := (F77.other W89 (Or.inl (Nat.ne_of_lt (Nat.lt_of_lt_of_le F48.lt (Nat.le_of_eq g60.symm)))))
  have F96 : Fld Z h89 a1 "com/example/topple/topple/markov/PoissonWeights" "toMode" "[D" (.ref ta) := (F72.other W89 (Or.inl (Nat.ne_of_lt (Nat.lt_of_lt_of_le F48.lt (Nat.le_of_eq g60.symm)))))
  have F97 : Fld Z h89 a1 "com/example/topple/topple/markov/PoissonWeights" "weight" "D" (.double (0 : UInt64)) := (F78.other W89 (Or.inl (Nat.ne_of_lt (Nat.lt_of_lt_of_le F48.lt (Nat.le_of_eq g60.symm)))))
  have N89 := Fr.snoc X89 N71 (Nat.le_trans (Nat.le_trans (Nat.le_trans (Nat.le_trans (Nat.le_trans Z0 (Keep.of_wr W5).1) (Keep.of_wr W16).1) (Keep.of_wr W27).1) (Keep.of_wr W46).1) (Nat.le_of_eq g60.symm))
  have K98 : Keep h0 h89 [a1] := K80.wr W89 (Or.inr (Nat.le_trans K54.1 (Nat.le_of_eq g60.symm)))
  have c99 : ∀ t, Steps p.tables e below (T89.setTop (mkF m 90 #[.val (.ref a1), .val (.double pm), .second, .val (.int (Int32.ofNat F)), .val (.double dx), .second] [])) t → Steps p.tables e below (s₁.setTop (entryFrame m #[(.ref a1), (.double pm)] 6)) t := fun t k => c88 t (st89 _ k)
  have c100 : ∀ t, Steps p.tables e below (T89.setTop (mkF m 91 #[.val (.ref a1), .val (.double pm), .second, .val (.int (Int32.ofNat F)), .val (.double dx), .second] [(.ref a1)])) t → Steps p.tables e below (s₁.setTop (entryFrame m #[(.ref a1), (.double pm)] 6)) t := fun t k => c99 t (by
    show Steps p.tables e below (T89.setTop (mkF m 90 #[.val (.ref a1), .val (.double pm), .second, .val (.int (Int32.ofNat F)), .val (.double dx), .second] [])) _
    refine XS.aloadN X89.here hx rfl (hb hby d1_90) rfl rfl ?_
    show Steps p.tables e below (T89.setTop (mkF m 91 #[.val (.ref a1), .val (.double pm), .second, .val (.int (Int32.ofNat F)), .val (.double dx), .second] [(.ref a1)])) _
    exact k)
  obtain ⟨T101, X101, e101, st101⟩ := getF X89 hx hZ hown (host := "") (Or.inl (hw _ (List.mem_of_getElem? (i := 14) rfl))) Via.refl e89 F94 (g := (mkF m 91 #[.val (.ref a1), .val (.double pm), .second, .val (.int (Int32.ofNat F)), .val (.double dx), .second] [(.ref a1)])) rfl rfl (hb hby d1_91)
  have c102 : ∀ t, Steps p.tables e below (T101.setTop (mkF m 94 #[.val (.ref a1), .val (.double pm), .second, .val (.int (Int32.ofNat F)), .val (.double dx), .second] [(.int (Int32.ofNat M))])) t → Steps p.tables e below (s₁.setTop (entryFrame m #[(.ref a1), (.double pm)] 6)) t := fun t k => c100 t (st101 _ k)
  have c103 : ∀ t, Steps p.tables e below (T101.setTop (mkF m 96 #[.val (.ref a1), .val (.double pm), .second, .val (.int (Int32.ofNat F)), .val (.int (Int32.ofNat M)), .unset] [])) t → Steps p.tables e below (s₁.setTop (entryFrame m #[(.ref a1), (.double pm)] 6)) t := fun t k => c102 t (by
    show Steps p.tables e below (T101.setTop (mkF m 94 #[.val (.ref a1), .val (.double pm), .second, .val (.int (Int32.ofNat F)), .val (.double dx), .second] [(.int (Int32.ofNat M))])) _
    refine XS.istore X101.here hx rfl (hb hby d1_94) rfl (l' := #[.val (.ref a1), .val (.double pm), .second, .val (.int (Int32.ofNat F)), .val (.int (Int32.ofNat M)), .unset]) rfl ?_
    show Steps p.tables e below (T101.setTop (mkF m 96 #[.val (.ref a1), .val (.double pm), .second, .val (.int (Int32.ofNat F)), .val (.int (Int32.ofNat M)), .unset] [])) _
    exact k)
  have LP2 : ∀ kq : Nat, kq ≤ M - F → ∃ (T7 : State) (h7 : Heap) (L7 : List Loc), Stand p l e ({ frames := 1, cells := 1, slots := 2000, locals := 20 } : Room) s m #[(.ref a1), (.double pm)] below meth c T7 L7 1 2000 ∧ T7.heap = h7 ∧ Fr n0 L7 ∧ Keep h0 h7 [a1] ∧ n0 ≤ h7.size ∧ Exa Z h7 a1 "com/example/topple/topple/markov/PoissonWeights" ∧ Fld Z h7 a1 "com/example/topple/topple/markov/PoissonWeights" "count" "I" (.int (-1 : Int32)) ∧ Fld Z h7 a1 "com/example/topple/topple/markov/PoissonWeights" "mean" "D" (.double pm) ∧ Fld Z h7 a1 "com/example/topple/topple/markov/PoissonWeights" "mode" "I" (.int (Int32.ofNat M)) ∧ Fld Z h7 a1 "com/example/topple/topple/markov/PoissonWeights" "fewest" "I" (.int (Int32.ofNat F)) ∧ Fld Z h7 a1 "com/example/topple/topple/markov/PoissonWeights" "toMode" "[D" (.ref ta) ∧ Fld Z h7 a1 "com/example/topple/topple/markov/PoissonWeights" "weight" "D" (.double (0 : UInt64)) ∧ OwnArr.Ag Z h7 ta .double (M - F + 1) (fun i => .double (if M - F ≤ i + kq then tm (M - F - i) else 0)) ∧ ∀ t, Steps p.tables e below (T7.setTop (mkF m 96 #[.val (.ref a1), .val (.double pm), .second, .val (.int (Int32.ofNat F)), .val (.int (Int32.ofNat (M - kq))), .unset] [])) t → Steps p.tables e below (s₁.setTop (entryFrame m #[(.ref a1), (.double pm)] 6)) t := by
    intro kq
    induction kq with
    | zero =>
      intro _
      refine ⟨T101, h89, _, X101, e101, N89, K98, (Nat.le_trans (Nat.le_trans (Nat.le_trans (Nat.le_trans (Nat.le_trans (Nat.le_trans (Nat.le_trans Z0 (Keep.of_wr W5).1) (Keep.of_wr W16).1) (Keep.of_wr W27).1) (Keep.of_wr W46).1) E60.1) (Keep.of_wr W71).1) (Keep.of_wr W89).1), F91, F92, F93, F94, F95, F96, F97, F90.congr (fun j hj => ?_), c103⟩
      by_cases q : j = M - F
      · show (if j = (M - F) then _ else _) = _
        rw [if_pos q, if_pos (by omega), q, Nat.sub_self, ht0]
      · show (if j = (M - F) then _ else _) = _
        rw [if_neg q, if_neg (by omega)]
    | succ kq ih =>
      intro hk
      obtain ⟨T7, h7, L7, X7, e7, N7, K7, Z7, E7, G7_0, G7_1, G7_2, G7_3, G7_4, G7_5, A7, cy⟩ := ih (by omega)
      clear ih
      have hq := ht kq (by omega)
      have c104 : ∀ t, Steps p.tables e below (T7.setTop (mkF m 103 #[.val (.ref a1), .val (.double pm), .second, .val (.int (Int32.ofNat F)), .val (.int (Int32.ofNat (M - kq))), .unset] [(.ref a1)])) t → Steps p.tables e below (s₁.setTop (entryFrame m #[(.ref a1), (.double pm)] 6)) t := fun t k => cy t (by
        show Steps p.tables e below (T7.setTop (mkF m 96 #[.val (.ref a1), .val (.double pm), .second, .val (.int (Int32.ofNat F)), .val (.int (Int32.ofNat (M - kq))), .unset] [])) _
        refine XS.iload X7.here hx rfl (hb hby d1_96) rfl ?_
        show Steps p.tables e below (T7.setTop (mkF m 98 #[.val (.ref a1), .val (.double pm), .second, .val (.int (Int32.ofNat F)), .val (.int (Int32.ofNat (M - kq))), .unset] [(.int (Int32.ofNat (M - kq)))])) _
        refine XS.iloadN X7.here hx rfl (hb hby d1_98) rfl ?_
        show Steps p.tables e below (T7.setTop (mkF m 99 #[.val (.ref a1), .val (.double pm), .second, .val (.int (Int32.ofNat F)), .val (.int (Int32.ofNat (M - kq))), .unset] [(.int (Int32.ofNat F)), (.int (Int32.ofNat (M - kq)))])) _
        refine XS.icmpNo X7.here hx rfl (hb hby d1_99) rfl (XT.ii_le_f ((lt_k (by omega) (by omega)).mpr (by omega))) ?_
        show Steps p.tables e below (T7.setTop (mkF m 102 #[.val (.ref a1), .val (.double pm), .second, .val (.int (Int32.ofNat F)), .val (.int (Int32.ofNat (M - kq))), .unset] [])) _
        refine XS.aloadN X7.here hx rfl (hb hby d1_102) rfl rfl ?_
        show Steps p.tables e below (T7.setTop (mkF m 103 #[.val (.ref a1), .val (.double pm), .second, .val (.int (Int32.ofNat F)), .val (.int (Int32.ofNat (M - kq))), .unset] [(.ref a1)])) _
        exact k)
      obtain ⟨T105, X105, e105, st105⟩ := getF X7 hx hZ hown (host := "") (Or.inl (hw _ (List.mem_of_getElem? (i := 20) rfl))) Via.refl e7 G7_4 (g := (mkF m 103 #[.val (.ref a1), .val (.double pm), .second, .val (.int (Int32.ofNat F)), .val (.int (Int32.ofNat (M - kq))), .unset] [(.ref a1)])) rfl rfl (hb hby d1_103)
      have c106 : ∀ t, Steps p.tables e below (T105.setTop (mkF m 106 #[.val (.ref a1), .val (.double pm), .second, .val (.int (Int32.ofNat F)), .val (.int (Int32.ofNat (M - kq))), .unset] [(.ref ta)])) t → Steps p.tables e below (s₁.setTop (entryFrame m #[(.ref a1), (.double pm)] 6)) t := fun t k => c104 t (st105 _ k)
      have c107 : ∀ t, Steps p.tables e below (T105.setTop (mkF m 113 #[.val (.ref a1), .val (.double pm), .second, .val (.int (Int32.ofNat F)), .val (.int (Int32.ofNat (M - kq))), .unset] [(.ref a1), (.int (((Int32.ofNat (M - kq)) - (1 : Int32)) - (Int32.ofNat F))), (.ref ta)])) t → Steps p.tables e below (s₁.setTop (entryFrame m #[(.ref a1), (.double pm)] 6)) t := fun t k => c106 t (by
        show Steps p.tables e below (T105.setTop (mkF m 106 #[.val (.ref a1), .val (.double pm), .second, .val (.int (Int32.ofNat F)), .val (.int (Int32.ofNat (M - kq))), .unset] [(.ref ta)])) _
        refine XS.iload X105.here hx rfl (hb hby d1_106) rfl ?_
        show Steps p.tables e below (T105.setTop (mkF m 108 #[.val (.ref a1), .val (.double pm), .second, .val (.int (Int32.ofNat F)), .val (.int (Int32.ofNat (M - kq))), .unset] [(.int (Int32.ofNat (M - kq))), (.ref ta)])) _
        refine XS.iconst X105.here hx rfl (hb hby d1_108) ?_
        show Steps p.tables e below (T105.setTop (mkF m 109 #[.val (.ref a1), .val (.double pm), .second, .val (.int (Int32.ofNat F)), .val (.int (Int32.ofNat (M - kq))), .unset] [(.int (1 : Int32)), (.int (Int32.ofNat (M - kq))), (.ref ta)])) _
        refine XS.isub X105.here hx rfl (hb hby d1_109) rfl ?_
        show Steps p.tables e below (T105.setTop (mkF m 110 #[.val (.ref a1), .val (.double pm), .second, .val (.int (Int32.ofNat F)), .val (.int (Int32.ofNat (M - kq))), .unset] [(.int ((Int32.ofNat (M - kq)) - (1 : Int32))), (.ref ta)])) _
        refine XS.iloadN X105.here hx rfl (hb hby d1_110) rfl ?_
        show Steps p.tables e below (T105.setTop (mkF m 111 #[.val (.ref a1), .val (.double pm), .second, .val (.int (Int32.ofNat F)), .val (.int (Int32.ofNat (M - kq))), .unset] [(.int (Int32.ofNat F)), (.int ((Int32.ofNat (M - kq)) - (1 : Int32))), (.ref ta)])) _
        refine XS.isub X105.here hx rfl (hb hby d1_111) rfl ?_
        show Steps p.tables e below (T105.setTop (mkF m 112 #[.val (.ref a1), .val (.double pm), .second, .val (.int (Int32.ofNat F)), .val (.int (Int32.ofNat (M - kq))), .unset] [(.int (((Int32.ofNat (M - kq)) - (1 : Int32)) - (Int32.ofNat F))), (.ref ta)])) _
        refine XS.aloadN X105.here hx rfl (hb hby d1_112) rfl rfl ?_
        show Steps p.tables e below (T105.setTop (mkF m 113 #[.val (.ref a1), .val (.double pm), .second, .val (.int (Int32.ofNat F)), .val (.int (Int32.ofNat (M - kq))), .unset] [(.ref a1), (.int (((Int32.ofNat (M - kq)) - (1 : Int32)) - (Int32.ofNat F))), (.ref ta)])) _
        exact k)
      obtain ⟨T108, X108, e108, st108⟩ := getF X105 hx hZ hown (host := "") (Or.inl (hw _ (List.mem_of_getElem? (i := 20) rfl))) Via.refl e105 G7_4 (g := (mkF m 113 #[.val (.ref a1), .val (.double pm), .second, .val (.int (Int32.ofNat F)), .val (.int (Int32.ofNat (M - kq))), .unset] [(.ref a1), (.int (((Int32.ofNat (M - kq)) - (1 : Int32)) - (Int32.ofNat F))), (.ref ta)])) rfl rfl (hb hby d1_113)
      have c109 : ∀ t, Steps p.tables e below (T108.setTop (mkF m 116 #[.val (.ref a1), .val (.double pm), .second, .val (.int (Int32.ofNat F)), .val (.int (Int32.ofNat (M - kq))), .unset] [(.ref ta), (.int (((Int32.ofNat (M - kq)) - (1 : Int32)) - (Int32.ofNat F))), (.ref ta)])) t → Steps p.tables e below (s₁.setTop (entryFrame m #[(.ref a1), (.double pm)] 6)) t := fun t k => c107 t (st108 _ k)
      obtain ⟨d123, hd123⟩ : ∃ v : UInt64, FP.i2d (Int32.ofNat (M - kq)) = v := ⟨_, rfl⟩
      obtain ⟨d124, hd124⟩ : ∃ v : UInt64, FP.dmul (tm kq) d123 = v := ⟨_, rfl⟩
      have n124 : Jvm.Free.Fl.NoNaN64 (FP.dmul (tm kq) d123) := by rw [← hd123]; exact hq.1
      have u126 : FP.ddiv d124 pm = tm (kq + 1) := by rw [← hd124, ← hd123]; exact hq.2.2
      have c110 : ∀ t, Steps p.tables e below (T108.setTop (mkF m 127 #[.val (.ref a1), .val (.double pm), .second, .val (.int (Int32.ofNat F)), .val (.int (Int32.ofNat (M - kq))), .unset] [(.double (tm (kq + 1))), (.int (((Int32.ofNat (M - kq)) - (1 : Int32)) - (Int32.ofNat F))), (.ref ta)])) t → Steps p.tables e below (s₁.setTop (entryFrame m #[(.ref a1), (.double pm)] 6)) t := fun t k => c109 t (by
        show Steps p.tables e below (T108.setTop (mkF m 116 #[.val (.ref a1), .val (.double pm), .second, .val (.int (Int32.ofNat F)), .val (.int (Int32.ofNat (M - kq))), .unset] [(.ref ta), (.int (((Int32.ofNat (M - kq)) - (1 : Int32)) - (Int32.ofNat F))), (.ref ta)])) _
        refine XS.iload X108.here hx rfl (hb hby d1_116) rfl ?_
        show Steps p.tables e below (T108.setTop (mkF m 118 #[.val (.ref a1), .val (.double pm), .second, .val (.int (Int32.ofNat F)), .val (.int (Int32.ofNat (M - kq))), .unset] [(.int (Int32.ofNat (M - kq))), (.ref ta), (.int (((Int32.ofNat (M - kq)) - (1 : Int32)) - (Int32.ofNat F))), (.ref ta)])) _
        refine XS.iloadN X108.here hx rfl (hb hby d1_118) rfl ?_
        show Steps p.tables e below (T108.setTop (mkF m 119 #[.val (.ref a1), .val (.double pm), .second, .val (.int (Int32.ofNat F)), .val (.int (Int32.ofNat (M - kq))), .unset] [(.int (Int32.ofNat F)), (.int (Int32.ofNat (M - kq))), (.ref ta), (.int (((Int32.ofNat (M - kq)) - (1 : Int32)) - (Int32.ofNat F))), (.ref ta)])) _
        refine XS.isub X108.here hx rfl (hb hby d1_119) rfl ?_
        show Steps p.tables e below (T108.setTop (mkF m 120 #[.val (.ref a1), .val (.double pm), .second, .val (.int (Int32.ofNat F)), .val (.int (Int32.ofNat (M - kq))), .unset] [(.int ((Int32.ofNat (M - kq)) - (Int32.ofNat F))), (.ref ta), (.int (((Int32.ofNat (M - kq)) - (1 : Int32)) - (Int32.ofNat F))), (.ref ta)])) _
        refine OwnArr.ldD X108 hx hZ e108 A7 (j := ((Int32.ofNat (M - kq)) - (Int32.ofNat F))) (J := (M - kq - F)) (sub_k (by omega) (by omega)) (by omega) (x := (tm kq)) (congrArg Value.double (fz_k (by omega))) (g := (mkF m 120 #[.val (.ref a1), .val (.double pm), .second, .val (.int (Int32.ofNat F)), .val (.int (Int32.ofNat (M - kq))), .unset] [(.int ((Int32.ofNat (M - kq)) - (Int32.ofNat F))), (.ref ta), (.int (((Int32.ofNat (M - kq)) - (1 : Int32)) - (Int32.ofNat F))), (.ref ta)])) rfl rfl (hb hby d1_120) ?_
        show Steps p.tables e below (T108.setTop (mkF m 121 #[.val (.ref a1), .val (.double pm), .second, .val (.int (Int32.ofNat F)), .val (.int (Int32.ofNat (M - kq))), .unset] [(.double (tm kq)), (.int (((Int32.ofNat (M - kq)) - (1 : Int32)) - (Int32.ofNat F))), (.ref ta)])) _
        refine XS.iload X108.here hx rfl (hb hby d1_121) rfl ?_
        show Steps p.tables e below (T108.setTop (mkF m 123 #[.val (.ref a1), .val (.double pm), .second, .val (.int (Int32.ofNat F)), .val (.int (Int32.ofNat (M - kq))), .unset] [(.int (Int32.ofNat (M - kq))), (.double (tm kq)), (.int (((Int32.ofNat (M - kq)) - (1 : Int32)) - (Int32.ofNat F))), (.ref ta)])) _
        refine XS.i2dS X108.here hx rfl (hb hby d1_123) rfl hd123 ?_
        show Steps p.tables e below (T108.setTop (mkF m 124 #[.val (.ref a1), .val (.double pm), .second, .val (.int (Int32.ofNat F)), .val (.int (Int32.ofNat (M - kq))), .unset] [(.double d123), (.double (tm kq)), (.int (((Int32.ofNat (M - kq)) - (1 : Int32)) - (Int32.ofNat F))), (.ref ta)])) _
        refine XS.dmulS X108.here hx rfl (hb hby d1_124) rfl n124 hd124 ?_
        show Steps p.tables e below (T108.setTop (mkF m 125 #[.val (.ref a1), .val (.double pm), .second, .val (.int (Int32.ofNat F)), .val (.int (Int32.ofNat (M - kq))), .unset] [(.double d124), (.int (((Int32.ofNat (M - kq)) - (1 : Int32)) - (Int32.ofNat F))), (.ref ta)])) _
        refine XS.dloadN X108.here hx rfl (hb hby d1_125) rfl ?_
        show Steps p.tables e below (T108.setTop (mkF m 126 #[.val (.ref a1), .val (.double pm), .second, .val (.int (Int32.ofNat F)), .val (.int (Int32.ofNat (M - kq))), .unset] [(.double pm), (.double d124), (.int (((Int32.ofNat (M - kq)) - (1 : Int32)) - (Int32.ofNat F))), (.ref ta)])) _
        refine XS.ddivS X108.here hx rfl (hb hby d1_126) rfl (u126 ▸ hq.2.1) u126 ?_
        show Steps p.tables e below (T108.setTop (mkF m 127 #[.val (.ref a1), .val (.double pm), .second, .val (.int (Int32.ofNat F)), .val (.int (Int32.ofNat (M - kq))), .unset] [(.double (tm (kq + 1))), (.int (((Int32.ofNat (M - kq)) - (1 : Int32)) - (Int32.ofNat F))), (.ref ta)])) _
        exact k)
      obtain ⟨T111, h111, X111, e111, W111, st111⟩ := OwnArr.stDA X108 hx hZ e108 A7 (j := (((Int32.ofNat (M - kq)) - (1 : Int32)) - (Int32.ofNat F))) (J := (M - kq - 1 - F)) (sub1_k (by omega) (by omega)) (by omega) (g := (mkF m 127 #[.val (.ref a1), .val (.double pm), .second, .val (.int (Int32.ofNat F)), .val (.int (Int32.ofNat (M - kq))), .unset] [(.double (tm (kq + 1))), (.int (((Int32.ofNat (M - kq)) - (1 : Int32)) - (Int32.ofNat F))), (.ref ta)])) rfl rfl (hb hby d1_127)
      have F112 : OwnArr.Ag Z h111 ta .double (M - F + 1) (fun i => if i = (M - kq - 1 - F) then (.double (tm (kq + 1))) else (fun i => .double (if M - F ≤ i + kq then tm (M - F - i) else 0)) i) := (A7.set W111)
      have F113 : Exa Z h111 a1 "com/example/topple/topple/markov/PoissonWeights" := (E7.wr W111)
      have F114 : Fld Z h111 a1 "com/example/topple/topple/markov/PoissonWeights" "count" "I" (.int (-1 : Int32)) := (G7_0.other W111 (Or.inl (Nat.ne_of_lt (Nat.lt_of_lt_of_le F48.lt (Nat.le_of_eq g60.symm)))))
      have F115 : Fld Z h111 a1 "com/example/topple/topple/markov/PoissonWeights" "mean" "D" (.double pm) := (G7_1.other W111 (Or.inl (Nat.ne_of_lt (Nat.lt_of_lt_of_le F48.lt (Nat.le_of_eq g60.symm)))))
      have F116 : Fld Z h111 a1 "com/example/topple/topple/markov/PoissonWeights" "mode" "I" (.int (Int32.ofNat M)) := (G7_2.other W111 (Or.inl (Nat.ne_of_lt (Nat.lt_of_lt_of_le F48.lt (Nat.le_of_eq g60.symm)))))
      have F117 : Fld Z h111 a1 "com/example/topple/topple/markov/PoissonWeights" "fewest" "I" (.int (Int32.ofNat F)) := (G7_3.other W111 (Or.inl (Nat.ne_of_lt (Nat.lt_of_lt_of_le F48.lt (Nat.le_of_eq g60.symm)))))
      have F118 : Fld Z h111 a1 "com/example/topple/topple/markov/PoissonWeights" "toMode" "[D" (.ref ta) := (G7_4.other W111 (Or.inl (Nat.ne_of_lt (Nat.lt_of_lt_of_le F48.lt (Nat.le_of_eq g60.symm)))))
      have F119 : Fld Z h111 a1 "com/example/topple/topple/markov/PoissonWeights" "weight" "D" (.double (0 : UInt64)) := (G7_5.other W111 (Or.inl (Nat.ne_of_lt (Nat.lt_of_lt_of_le F48.lt (Nat.le_of_eq g60.symm)))))
      have N111 := Fr.snoc X111 N7 (Nat.le_trans (Nat.le_trans (Nat.le_trans (Nat.le_trans (Nat.le_trans Z0 (Keep.of_wr W5).1) (Keep.of_wr W16).1) (Keep.of_wr W27).1) (Keep.of_wr W46).1) (Nat.le_of_eq g60.symm))
      have K120 : Keep h0 h111 [a1] := K7.wr W111 (Or.inr (Nat.le_trans K54.1 (Nat.le_of_eq g60.symm)))
      have c121 : ∀ t, Steps p.tables e below (T111.setTop (mkF m 128 #[.val (.ref a1), .val (.double pm), .second, .val (.int (Int32.ofNat F)), .val (.int (Int32.ofNat (M - kq))), .unset] [])) t → Steps p.tables e below (s₁.setTop (entryFrame m #[(.ref a1), (.double pm)] 6)) t := fun t k => c110 t (st111 _ k)
      obtain ⟨ni, hni⟩ : ∃ v : Int32, v = ((Int32.ofNat (M - kq)) + (-1 : Int32)) := ⟨_, rfl⟩
      have c122 : ∀ t, Steps p.tables e below (T111.setTop (mkF m 131 #[.val (.ref a1), .val (.double pm), .second, .val (.int (Int32.ofNat F)), .val (.int ni), .unset] [])) t → Steps p.tables e below (s₁.setTop (entryFrame m #[(.ref a1), (.double pm)] 6)) t := fun t k => c121 t (by
        rw [hni] at k
        show Steps p.tables e below (T111.setTop (mkF m 128 #[.val (.ref a1), .val (.double pm), .second, .val (.int (Int32.ofNat F)), .val (.int (Int32.ofNat (M - kq))), .unset] [])) _
        refine XS.iinc X111.here hx rfl (hb hby d1_128) rfl (l' := #[.val (.ref a1), .val (.double pm), .second, .val (.int (Int32.ofNat F)), .val (.int ((Int32.ofNat (M - kq)) + (-1 : Int32))), .unset]) rfl ?_
        show Steps p.tables e below (T111.setTop (mkF m 131 #[.val (.ref a1), .val (.double pm), .second, .val (.int (Int32.ofNat F)), .val (.int ((Int32.ofNat (M - kq)) + (-1 : Int32))), .unset] [])) _
        exact k)
      have c123 : ∀ t, Steps p.tables e below (T111.setTop (mkF m 96 #[.val (.ref a1), .val (.double pm), .second, .val (.int (Int32.ofNat F)), .val (.int ni), .unset] [])) t → Steps p.tables e below (s₁.setTop (entryFrame m #[(.ref a1), (.double pm)] 6)) t := fun t k => c122 t (by
        show Steps p.tables e below (T111.setTop (mkF m 131 #[.val (.ref a1), .val (.double pm), .second, .val (.int (Int32.ofNat F)), .val (.int ni), .unset] [])) _
        refine XS.goto X111.here hx rfl (pc0 := 131) (pc' := 96) rfl (hb hby d1_131) (by decide) (by decide) ?_
        show Steps p.tables e below (T111.setTop (mkF m 96 #[.val (.ref a1), .val (.double pm), .second, .val (.int (Int32.ofNat F)), .val (.int ni), .unset] [])) _
        exact k)
      have hn2 : ni = Int32.ofNat (M - (kq + 1)) := hni.trans (dec_k (by omega) hM2)
      subst hn2
      refine ⟨T111, h111, _, X111, e111, N111, K120, (Nat.le_trans Z7 (Keep.of_wr W111).1), F113, F114, F115, F116, F117, F118, F119, F112.congr (fun j hj => ?_), c123⟩
      by_cases q : j = M - kq - 1 - F
      · show (if j = (M - kq - 1 - F) then _ else _) = _
        rw [if_pos q, if_pos (by omega), show M - F - j = kq + 1 by omega]
      · show (if j = (M - kq - 1 - F) then _ else _) = _
        rw [if_neg q]
        show Value.double (if M - F ≤ j + kq then tm (M - F - j) else 0) = Value.double (if M - F ≤ j + (kq + 1) then tm (M - F - j) else 0)
        by_cases q2 : M - F ≤ j + kq
        · rw [if_pos q2, if_pos (by omega)]
        · rw [if_neg q2, if_neg (by omega)]
  obtain ⟨T7, h7, L7, X7, e7, N7, K7, Z7, E7, G7_0, G7_1, G7_2, G7_3, G7_4, G7_5, A7, cy⟩ := LP2 (M - F) (Nat.le_refl _)
  have eF : M - (M - F) = F := by omega
  rw [eF] at cy
  have c124 : ∀ t, Steps p.tables e below (T7.setTop (mkF m 134 #[.val (.ref a1), .val (.double pm), .second, .val (.int (Int32.ofNat F)), .val (.int (Int32.ofNat F)), .unset] [])) t → Steps p.tables e below (s₁.setTop (entryFrame m #[(.ref a1), (.double pm)] 6)) t := fun t k => cy t (by
    show Steps p.tables e below (T7.setTop (mkF m 96 #[.val (.ref a1), .val (.double pm), .second, .val (.int (Int32.ofNat F)), .val (.int (Int32.ofNat F)), .unset] [])) _
    refine XS.iload X7.here hx rfl (hb hby d1_96) rfl ?_
    show Steps p.tables e below (T7.setTop (mkF m 98 #[.val (.ref a1), .val (.double pm), .second, .val (.int (Int32.ofNat F)), .val (.int (Int32.ofNat F)), .unset] [(.int (Int32.ofNat F))])) _
    refine XS.iloadN X7.here hx rfl (hb hby d1_98) rfl ?_
    show Steps p.tables e below (T7.setTop (mkF m 99 #[.val (.ref a1), .val (.double pm), .second, .val (.int (Int32.ofNat F)), .val (.int (Int32.ofNat F)), .unset] [(.int (Int32.ofNat F)), (.int (Int32.ofNat F))])) _
    refine XS.icmpYes X7.here hx rfl (pc0 := 99) (pc' := 134) rfl (hb hby d1_99) rfl (XT.ii_le_t (fun q => absurd ((lt_k (by omega) (by omega)).mp q) (Nat.lt_irrefl _))) (by decide) (by decide) ?_
    show Steps p.tables e below (T7.setTop (mkF m 134 #[.val (.ref a1), .val (.double pm), .second, .val (.int (Int32.ofNat F)), .val (.int (Int32.ofNat F)), .unset] [])) _
    exact k)
  obtain ⟨fs, hr, hrun, hended, hW, hsame⟩ := X7.leave (v := none) (fun _ => rfl)
  refine ⟨_, _, pre0 _ (c124 _ (X7.returnOut hx Bd.returns (hb hby d1_134) hr)), hrun, hended, _, _, rfl, ?_, ⟨_, rfl⟩, hW, hsame.mono (by decide) (by decide)⟩
  show Q_ct Z a1 pm M F pr tm h0 n0 _ T7.heap _
  rw [e7]
  exact ⟨ta, rfl, N7, K7, (fun q => (Nat.ne_of_lt (Nat.lt_of_lt_of_le F48.lt (Nat.le_of_eq g60.symm))) q.symm), E7, G7_0, G7_1, G7_2, G7_3, G7_4, G7_5, A7.congr (fun j hj => by rw [if_pos (by omega)])⟩
theorem d3_0 : decode prog_39_method_2_code 0 = .ok (.aload_n 0, 1) := by decide +kernel
theorem d3_1 : decode prog_39_method_2_code 1 = .ok (.dup, 1) := by decide +kernel
theorem d3_2 : decode prog_39_method_2_code 2 = .ok (.getfield 7, 3) := by decide +kernel
theorem d3_5 : decode prog_39_method_2_code 5 = .ok (.iconst 1, 1) := by decide +kernel
theorem d3_6 : decode prog_39_method_2_code 6 = .ok (.iadd, 1) := by decide +kernel
theorem d3_7 : decode prog_39_method_2_code 7 = .ok (.putfield 7, 3) := by decide +kernel
theorem d3_10 : decode prog_39_method_2_code 10 = .ok (.aload_n 0, 1) := by decide +kernel
theorem d3_11 : decode prog_39_method_2_code 11 = .ok (.getfield 7, 3) := by decide +kernel
theorem d3_14 : decode prog_39_method_2_code 14 = .ok (.aload_n 0, 1) := by decide +kernel
theorem d3_15 : decode prog_39_method_2_code 15 = .ok (.getfield 22, 3) := by decide +kernel
theorem d3_18 : decode prog_39_method_2_code 18 = .ok (.if_icmp .lt 50, 3) := by decide +kernel
theorem d3_21 : decode prog_39_method_2_code 21 = .ok (.aload_n 0, 1) := by decide +kernel
theorem d3_22 : decode prog_39_method_2_code 22 = .ok (.aload_n 0, 1) := by decide +kernel
theorem d3_23 : decode prog_39_method_2_code 23 = .ok (.getfield 7, 3) := by decide +kernel
theorem d3_26 : decode prog_39_method_2_code 26 = .ok (.aload_n 0, 1) := by decide +kernel
theorem d3_27 : decode prog_39_method_2_code 27 = .ok (.getfield 17, 3) := by decide +kernel
theorem d3_30 : decode prog_39_method_2_code 30 = .ok (.if_icmp .gt 20, 3) := by decide +kernel
theorem d3_33 : decode prog_39_method_2_code 33 = .ok (.aload_n 0, 1) := by decide +kernel
theorem d3_34 : decode prog_39_method_2_code 34 = .ok (.getfield 25, 3) := by decide +kernel
theorem d3_37 : decode prog_39_method_2_code 37 = .ok (.aload_n 0, 1) := by decide +kernel
theorem d3_38 : decode prog_39_method_2_code 38 = .ok (.getfield 7, 3) := by decide +kernel
theorem d3_41 : decode prog_39_method_2_code 41 = .ok (.aload_n 0, 1) := by decide +kernel
theorem d3_42 : decode prog_39_method_2_code 42 = .ok (.getfield 22, 3) := by decide +kernel
theorem d3_45 : decode prog_39_method_2_code 45 = .ok (.isub, 1) := by decide +kernel
theorem d3_46 : decode prog_39_method_2_code 46 = .ok (.daload, 1) := by decide +kernel
theorem d3_47 : decode prog_39_method_2_code 47 = .ok (.goto 18, 3) := by decide +kernel
theorem d3_50 : decode prog_39_method_2_code 50 = .ok (.aload_n 0, 1) := by decide +kernel
theorem d3_51 : decode prog_39_method_2_code 51 = .ok (.getfield 29, 3) := by decide +kernel
theorem d3_54 : decode prog_39_method_2_code 54 = .ok (.aload_n 0, 1) := by decide +kernel
theorem d3_55 : decode prog_39_method_2_code 55 = .ok (.getfield 13, 3) := by decide +kernel
theorem d3_58 : decode prog_39_method_2_code 58 = .ok (.dmul, 1) := by decide +kernel
theorem d3_59 : decode prog_39_method_2_code 59 = .ok (.aload_n 0, 1) := by decide +kernel
theorem d3_60 : decode prog_39_method_2_code 60 = .ok (.getfield 7, 3) := by decide +kernel
theorem d3_63 : decode prog_39_method_2_code 63 = .ok (.i2d, 1) := by decide +kernel
theorem d3_64 : decode prog_39_method_2_code 64 = .ok (.ddiv, 1) := by decide +kernel
theorem d3_65 : decode prog_39_method_2_code 65 = .ok (.putfield 29, 3) := by decide +kernel
theorem d3_68 : decode prog_39_method_2_code 68 = .ok (.aload_n 0, 1) := by decide +kernel
theorem d3_69 : decode prog_39_method_2_code 69 = .ok (.getfield 29, 3) := by decide +kernel
theorem d3_72 : decode prog_39_method_2_code 72 = .ok (.dreturn, 1) := by decide +kernel
theorem ef_nx (m : MethodId) (a1 : Addr) (ta : Addr) (pm : UInt64) (ci : Int32) (cn : Int32) (mo : Int32) (ff : Int32) (w0 : UInt64) (w1 : UInt64) (N J : Nat) (tf : Nat → UInt64) : entryFrame m #[(.ref a1)] 1 = (mkF m 0 #[.val (.ref a1)] []) := by first | (simp [entryFrame, mkF, argsToLocals, Value.category]; done) | rfl
def Q_nx (Z : State) (a1 : Addr) (ta : Addr) (pm : UInt64) (ci : Int32) (cn : Int32) (mo : Int32) (ff : Int32) (w0 : UInt64) (w1 : UInt64) (N J : Nat) (tf : Nat → UInt64) (h0 : Heap) (n0 : Nat) (v : Option Value) (h : Heap) (L : List Loc) : Prop := v = some (.double w1) ∧ Fr n0 L ∧ Keep h0 h [a1] ∧ Exa Z h a1 "com/example/topple/topple/markov/PoissonWeights" ∧ Fld Z h a1 "com/example/topple/topple/markov/PoissonWeights" "count" "I" (.int cn) ∧ Fld Z h a1 "com/example/topple/topple/markov/PoissonWeights" "mean" "D" (.double pm) ∧ Fld Z h a1 "com/example/topple/topple/markov/PoissonWeights" "mode" "I" (.int mo) ∧ Fld Z h a1 "com/example/topple/topple/markov/PoissonWeights" "fewest" "I" (.int ff) ∧ Fld Z h a1 "com/example/topple/topple/markov/PoissonWeights" "toMode" "[D" (.ref ta) ∧ Fld Z h a1 "com/example/topple/topple/markov/PoissonWeights" "weight" "D" (.double w1)
set_option maxRecDepth 65536 in
set_option maxHeartbeats 2000000 in
theorem rm_nx (l : Launch) (Z : State) (a0 : Array Value) (hw : ∀ d ∈ tables_1, d.before a0 Z = true) (ws : List Jvm.Cond) (a1 : Addr) (ta : Addr) (pm : UInt64) (ci : Int32) (cn : Int32) (mo : Int32) (ff : Int32) (w0 : UInt64) (w1 : UInt64) (N J : Nat) (tf : Nat → UInt64) (h0 : Heap) (n0 : Nat) (Z0 : n0 ≤ h0.size) (E_a1 : Exa Z h0 a1 "com/example/topple/topple/markov/PoissonWeights") (F_0 : Fld Z h0 a1 "com/example/topple/topple/markov/PoissonWeights" "count" "I" (.int ci)) (F_1 : Fld Z h0 a1 "com/example/topple/topple/markov/PoissonWeights" "mean" "D" (.double pm)) (F_2 : Fld Z h0 a1 "com/example/topple/topple/markov/PoissonWeights" "mode" "I" (.int mo)) (F_3 : Fld Z h0 a1 "com/example/topple/topple/markov/PoissonWeights" "fewest" "I" (.int ff)) (F_4 : Fld Z h0 a1 "com/example/topple/topple/markov/PoissonWeights" "toMode" "[D" (.ref ta)) (F_5 : Fld Z h0 a1 "com/example/topple/topple/markov/PoissonWeights" "weight" "D" (.double w0)) (g_a1 : n0 ≤ a1) (hc : ci + (1 : Int32) = cn) (hne : ta ≠ a1) (A_0 : OwnArr.Ag Z h0 ta .double N (fun i => .double (tf i))) (hlt : ¬ cn < ff) (hlo : ¬ mo < cn → (cn - ff).toInt = (J : Int) ∧ J < N ∧ tf J = w1) (hhi : mo < cn → Jvm.Free.Fl.NoNaN64 (FP.dmul w0 pm) ∧ Jvm.Free.Fl.NoNaN64 w1 ∧ FP.ddiv (FP.dmul w0 pm) (FP.i2d cn) = w1) :
    MetFree l (⟨"com/example/topple/topple/markov/PoissonWeights", "next", "()D"⟩ : MethodName) (head1 (Jvm.Cond.code (⟨"com/example/topple/topple/markov/PoissonWeights", "next", "()D"⟩ : MethodName) prog_39_method_2_code 1 (some .double) :: ws) ({ frames := 0, cells := 0, slots := 0, locals := 0 } : Room)) (fun aa UU => aa = #[(.ref a1)] ∧ Z.Warmed39 UU.vm ∧ UU.heap = h0) (fun _ _ _ _ _ => True) (fun _ UU oo UU' => ∃ v L, oo = .returned v ∧ Q_nx Z a1 ta pm ci cn mo ff w0 w1 N J tf h0 n0 v UU'.heap L ∧ FrameEnd UU oo UU' L ({ frames := 0, cells := 0, slots := 0, locals := 0 } : Room).cells ({ frames := 0, cells := 0, slots := 0, locals := 0 } : Room).slots) := by
  refine MetFree.of_bodySF (plainFor_of_name pn_com_example_topple_topple_markov_PoissonWeights) hisR ?_
  intro p e s m args below meth c s₁ Bd hml0 hP hK
  obtain ⟨rfl, hZ, hh⟩ := hP
  have hx := Bd.exec
  have hby := Bd.bytes
  have hml : c.maxLocals = 1 := hml0
  have hown : s.vm.findClass "com/example/topple/topple/markov/PoissonWeights" = some m.cls := findClass_of_methodNamed Bd.named
  have hnaM := (name_of_methodNamed Bd.named Bd.method).1
  have X0 : Stand p l e ({ frames := 0, cells := 0, slots := 0, locals := 0 } : Room) s m #[(.ref a1)] below meth c s₁ [] 0 0 := Stand.of_body Bd
  have e0 : s₁.heap = h0 := by rw [← hh, Bd.state]; rfl
  have N0 := Fr.nil n0
  have pre0 : ∀ t, Steps p.tables e below (s₁.setTop (entryFrame m #[(.ref a1)] 1)) t → Steps p.tables e below (s₁.setTop (entryFrame m #[(.ref a1)] 1)) t := fun t k => k
  have c0 : ∀ t, Steps p.tables e below (s₁.setTop (mkF m 0 #[.val (.ref a1)] [])) t → Steps p.tables e below (s₁.setTop (entryFrame m #[(.ref a1)] 1)) t := fun t k => castTop (ef_nx m a1 ta pm ci cn mo ff w0 w1 N J tf) k
  have K0 := Keep.refl h0 [a1]
  have c1 : ∀ t, Steps p.tables e below (s₁.setTop (mkF m 2 #[.val (.ref a1)] [(.ref a1), (.ref a1)])) t → Steps p.tables e below (s₁.setTop (entryFrame m #[(.ref a1)] 1)) t := fun t k => c0 t (by
    show Steps p.tables e below (s₁.setTop (mkF m 0 #[.val (.ref a1)] [])) _
    refine XS.aloadN X0.here hx rfl (hb hby d3_0) rfl rfl ?_
    show Steps p.tables e below (s₁.setTop (mkF m 1 #[.val (.ref a1)] [(.ref a1)])) _
    refine XS.dup X0.here hx rfl (hb hby d3_1) rfl rfl ?_
    show Steps p.tables e below (s₁.setTop (mkF m 2 #[.val (.ref a1)] [(.ref a1), (.ref a1)])) _
    exact k)
  obtain ⟨T2, X2, e2, st2⟩ := getF X0 hx hZ hown (host := "") (Or.inl (hw _ (List.mem_of_getElem? (i := 10) rfl))) Via.refl e0 F_0 (g := (mkF m 2 #[.val (.ref a1)] [(.ref a1), (.ref a1)])) rfl rfl (hb hby d3_2)
  have c3 : ∀ t, Steps p.tables e below (T2.setTop (mkF m 5 #[.val (.ref a1)] [(.int ci), (.ref a1)])) t → Steps p.tables e below (s₁.setTop (entryFrame m #[(.ref a1)] 1)) t := fun t k => c1 t (st2 _ k)
  have c4 : ∀ t, Steps p.tables e below (T2.setTop (mkF m 7 #[.val (.ref a1)] [(.int cn), (.ref a1)])) t → Steps p.tables e below (s₁.setTop (entryFrame m #[(.ref a1)] 1)) t := fun t k => c3 t (by
    rw [← hc] at k
    show Steps p.tables e below (T2.setTop (mkF m 5 #[.val (.ref a1)] [(.int ci), (.ref a1)])) _
    refine XS.iconst X2.here hx rfl (hb hby d3_5) ?_
    show Steps p.tables e below (T2.setTop (mkF m 6 #[.val (.ref a1)] [(.int (1 : Int32)), (.int ci), (.ref a1)])) _
    refine XS.iadd X2.here hx rfl (hb hby d3_6) rfl ?_
    show Steps p.tables e below (T2.setTop (mkF m 7 #[.val (.ref a1)] [(.int (ci + (1 : Int32))), (.ref a1)])) _
    exact k)
  obtain ⟨T5, h5, X5, e5, W5, st5⟩ := putF X2 hx hZ hown (host := "") (Or.inl (hw _ (List.mem_of_getElem? (i := 10) rfl))) Via.refl e2 F_0 E_a1 (Or.inl (hw _ (List.mem_of_getElem? (i := 11) rfl))) (hw _ (List.mem_of_getElem? (i := 2) rfl)) (ty := .int) (by decide) rfl rfl (g := (mkF m 7 #[.val (.ref a1)] [(.int cn), (.ref a1)])) rfl rfl (hb hby d3_7)
  have F6 : Fld Z h5 a1 "com/example/topple/topple/markov/PoissonWeights" "count" "I" (.int cn) := F_0.same W5
  have F7 : Exa Z h5 a1 "com/example/topple/topple/markov/PoissonWeights" := (E_a1.wr W5)
  have F8 : Fld Z h5 a1 "com/example/topple/topple/markov/PoissonWeights" "mean" "D" (.double pm) := (F_1.other W5 (Or.inr (slot_ne (Or.inr (hw _ (List.mem_of_getElem? (i := 13) rfl))) (Or.inl (hw _ (List.mem_of_getElem? (i := 11) rfl))) (by decide) (t := .double) (t' := .int) (by decide) (by decide))))
  have F9 : Fld Z h5 a1 "com/example/topple/topple/markov/PoissonWeights" "mode" "I" (.int mo) := (F_2.other W5 (Or.inr (slot_ne (Or.inr (hw _ (List.mem_of_getElem? (i := 15) rfl))) (Or.inl (hw _ (List.mem_of_getElem? (i := 11) rfl))) (by decide) (t := .int) (t' := .int) (by decide) (by decide))))
  have F10 : Fld Z h5 a1 "com/example/topple/topple/markov/PoissonWeights" "fewest" "I" (.int ff) := (F_3.other W5 (Or.inr (slot_ne (Or.inr (hw _ (List.mem_of_getElem? (i := 18) rfl))) (Or.inl (hw _ (List.mem_of_getElem? (i := 11) rfl))) (by decide) (t := .int) (t' := .int) (by decide) (by decide))))
  have F11 : Fld Z h5 a1 "com/example/topple/topple/markov/PoissonWeights" "toMode" "[D" (.ref ta) := (F_4.other W5 (Or.inr (slot_ne (Or.inr (hw _ (List.mem_of_getElem? (i := 21) rfl))) (Or.inl (hw _ (List.mem_of_getElem? (i := 11) rfl))) (by decide) (t := (.array .double)) (t' := .int) (by decide) (by decide))))
  have F12 : Fld Z h5 a1 "com/example/topple/topple/markov/PoissonWeights" "weight" "D" (.double w0) := (F_5.other W5 (Or.inr (slot_ne (Or.inl (hw _ (List.mem_of_getElem? (i := 28) rfl))) (Or.inl (hw _ (List.mem_of_getElem? (i := 11) rfl))) (by decide) (t := .double) (t' := .int) (by decide) (by decide))))
  have F13 : OwnArr.Ag Z h5 ta .double N (fun i => .double (tf i)) := (A_0.other W5 hne)
  have N5 := Fr.snoc X5 N0 g_a1
  have K14 : Keep h0 h5 [a1] := K0.wr W5 (Or.inl (List.mem_of_getElem? (i := 0) rfl))
  have c15 : ∀ t, Steps p.tables e below (T5.setTop (mkF m 10 #[.val (.ref a1)] [])) t → Steps p.tables e below (s₁.setTop (entryFrame m #[(.ref a1)] 1)) t := fun t k => c4 t (st5 _ k)
  have c16 : ∀ t, Steps p.tables e below (T5.setTop (mkF m 11 #[.val (.ref a1)] [(.ref a1)])) t → Steps p.tables e below (s₁.setTop (entryFrame m #[(.ref a1)] 1)) t := fun t k => c15 t (by
    show Steps p.tables e below (T5.setTop (mkF m 10 #[.val (.ref a1)] [])) _
    refine XS.aloadN X5.here hx rfl (hb hby d3_10) rfl rfl ?_
    show Steps p.tables e below (T5.setTop (mkF m 11 #[.val (.ref a1)] [(.ref a1)])) _
    exact k)
  obtain ⟨T17, X17, e17, st17⟩ := getF X5 hx hZ hown (host := "") (Or.inl (hw _ (List.mem_of_getElem? (i := 10) rfl))) Via.refl e5 F6 (g := (mkF m 11 #[.val (.ref a1)] [(.ref a1)])) rfl rfl (hb hby d3_11)
  have c18 : ∀ t, Steps p.tables e below (T17.setTop (mkF m 14 #[.val (.ref a1)] [(.int cn)])) t → Steps p.tables e below (s₁.setTop (entryFrame m #[(.ref a1)] 1)) t := fun t k => c16 t (st17 _ k)
  have c19 : ∀ t, Steps p.tables e below (T17.setTop (mkF m 15 #[.val (.ref a1)] [(.ref a1), (.int cn)])) t → Steps p.tables e below (s₁.setTop (entryFrame m #[(.ref a1)] 1)) t := fun t k => c18 t (by
    show Steps p.tables e below (T17.setTop (mkF m 14 #[.val (.ref a1)] [(.int cn)])) _
    refine XS.aloadN X17.here hx rfl (hb hby d3_14) rfl rfl ?_
    show Steps p.tables e below (T17.setTop (mkF m 15 #[.val (.ref a1)] [(.ref a1), (.int cn)])) _
    exact k)
  obtain ⟨T20, X20, e20, st20⟩ := getF X17 hx hZ hown (host := "") (Or.inl (hw _ (List.mem_of_getElem? (i := 17) rfl))) Via.refl e17 F10 (g := (mkF m 15 #[.val (.ref a1)] [(.ref a1), (.int cn)])) rfl rfl (hb hby d3_15)
  have c21 : ∀ t, Steps p.tables e below (T20.setTop (mkF m 18 #[.val (.ref a1)] [(.int ff), (.int cn)])) t → Steps p.tables e below (s₁.setTop (entryFrame m #[(.ref a1)] 1)) t := fun t k => c19 t (st20 _ k)
  have c22 : ∀ t, Steps p.tables e below (T20.setTop (mkF m 23 #[.val (.ref a1)] [(.ref a1), (.ref a1)])) t → Steps p.tables e below (s₁.setTop (entryFrame m #[(.ref a1)] 1)) t := fun t k => c21 t (by
    show Steps p.tables e below (T20.setTop (mkF m 18 #[.val (.ref a1)] [(.int ff), (.int cn)])) _
    refine XS.icmpNo X20.here hx rfl (hb hby d3_18) rfl (XT.ii_lt_f hlt) ?_
    show Steps p.tables e below (T20.setTop (mkF m 21 #[.val (.ref a1)] [])) _
    refine XS.aloadN X20.here hx rfl (hb hby d3_21) rfl rfl ?_
    show Steps p.tables e below (T20.setTop (mkF m 22 #[.val (.ref a1)] [(.ref a1)])) _
    refine XS.aloadN X20.here hx rfl (hb hby d3_22) rfl rfl ?_
    show Steps p.tables e below (T20.setTop (mkF m 23 #[.val (.ref a1)] [(.ref a1), (.ref a1)])) _
    exact k)
  obtain ⟨T23, X23, e23, st23⟩ := getF X20 hx hZ hown (host := "") (Or.inl (hw _ (List.mem_of_getElem? (i := 10) rfl))) Via.refl e20 F6 (g := (mkF m 23 #[.val (.ref a1)] [(.ref a1), (.ref a1)])) rfl rfl (hb hby d3_23)
  have c24 : ∀ t, Steps p.tables e below (T23.setTop (mkF m 26 #[.val (.ref a1)] [(.int cn), (.ref a1)])) t → Steps p.tables e below (s₁.setTop (entryFrame m #[(.ref a1)] 1)) t := fun t k => c22 t (st23 _ k)
  have c25 : ∀ t, Steps p.tables e below (T23.setTop (mkF m 27 #[.val (.ref a1)] [(.ref a1), (.int cn), (.ref a1)])) t → Steps p.tables e below (s₁.setTop (entryFrame m #[(.ref a1)] 1)) t := fun t k => c24 t (by
    show Steps p.tables e below (T23.setTop (mkF m 26 #[.val (.ref a1)] [(.int cn), (.ref a1)])) _
    refine XS.aloadN X23.here hx rfl (hb hby d3_26) rfl rfl ?_
    show Steps p.tables e below (T23.setTop (mkF m 27 #[.val (.ref a1)] [(.ref a1), (.int cn), (.ref a1)])) _
    exact k)
  obtain ⟨T26, X26, e26, st26⟩ := getF X23 hx hZ hown (host := "") (Or.inl (hw _ (List.mem_of_getElem? (i := 14) rfl))) Via.refl e23 F9 (g := (mkF m 27 #[.val (.ref a1)] [(.ref a1), (.int cn), (.ref a1)])) rfl rfl (hb hby d3_27)
  have c27 : ∀ t, Steps p.tables e below (T26.setTop (mkF m 30 #[.val (.ref a1)] [(.int mo), (.int cn), (.ref a1)])) t → Steps p.tables e below (s₁.setTop (entryFrame m #[(.ref a1)] 1)) t := fun t k => c25 t (st26 _ k)
  by_cases q30 : mo < cn
  · skip
    have hq := hhi q30
    have c28 : ∀ t, Steps p.tables e below (T26.setTop (mkF m 51 #[.val (.ref a1)] [(.ref a1), (.ref a1)])) t → Steps p.tables e below (s₁.setTop (entryFrame m #[(.ref a1)] 1)) t := fun t k => c27 t (by
      show Steps p.tables e below (T26.setTop (mkF m 30 #[.val (.ref a1)] [(.int mo), (.int cn), (.ref a1)])) _
      refine XS.icmpYes X26.here hx rfl (pc0 := 30) (pc' := 50) rfl (hb hby d3_30) rfl (XT.ii_gt_t q30) (by decide) (by decide) ?_
      show Steps p.tables e below (T26.setTop (mkF m 50 #[.val (.ref a1)] [(.ref a1)])) _
      refine XS.aloadN X26.here hx rfl (hb hby d3_50) rfl rfl ?_
      show Steps p.tables e below (T26.setTop (mkF m 51 #[.val (.ref a1)] [(.ref a1), (.ref a1)])) _
      exact k)
    obtain ⟨T29, X29, e29, st29⟩ := getF X26 hx hZ hown (host := "") (Or.inl (hw _ (List.mem_of_getElem? (i := 27) rfl))) Via.refl e26 F12 (g := (mkF m 51 #[.val (.ref a1)] [(.ref a1), (.ref a1)])) rfl rfl (hb hby d3_51)
    have c30 : ∀ t, Steps p.tables e below (T29.setTop (mkF m 54 #[.val (.ref a1)] [(.double w0), (.ref a1)])) t → Steps p.tables e below (s₁.setTop (entryFrame m #[(.ref a1)] 1)) t := fun t k => c28 t (st29 _ k)
    have c31 : ∀ t, Steps p.tables e below (T29.setTop (mkF m 55 #[.val (.ref a1)] [(.ref a1), (.double w0), (.ref a1)])) t → Steps p.tables e below (s₁.setTop (entryFrame m #[(.ref a1)] 1)) t := fun t k => c30 t (by
      show Steps p.tables e below (T29.setTop (mkF m 54 #[.val (.ref a1)] [(.double w0), (.ref a1)])) _
      refine XS.aloadN X29.here hx rfl (hb hby d3_54) rfl rfl ?_
      show Steps p.tables e below (T29.setTop (mkF m 55 #[.val (.ref a1)] [(.ref a1), (.double w0), (.ref a1)])) _
      exact k)
    obtain ⟨T32, X32, e32, st32⟩ := getF X29 hx hZ hown (host := "") (Or.inl (hw _ (List.mem_of_getElem? (i := 12) rfl))) Via.refl e29 F8 (g := (mkF m 55 #[.val (.ref a1)] [(.ref a1), (.double w0), (.ref a1)])) rfl rfl (hb hby d3_55)
    have c33 : ∀ t, Steps p.tables e below (T32.setTop (mkF m 58 #[.val (.ref a1)] [(.double pm), (.double w0), (.ref a1)])) t → Steps p.tables e below (s₁.setTop (entryFrame m #[(.ref a1)] 1)) t := fun t k => c31 t (st32 _ k)
    obtain ⟨d58, hd58⟩ : ∃ v : UInt64, FP.dmul w0 pm = v := ⟨_, rfl⟩
    have u64 : ∀ y : UInt64, FP.i2d cn = y → FP.ddiv d58 y = w1 := fun y hy => by rw [← hd58, ← hy]; exact hq.2.2
    have c34 : ∀ t, Steps p.tables e below (T32.setTop (mkF m 60 #[.val (.ref a1)] [(.ref a1), (.double d58), (.ref a1)])) t → Steps p.tables e below (s₁.setTop (entryFrame m #[(.ref a1)] 1)) t := fun t k => c33 t (by
      show Steps p.tables e below (T32.setTop (mkF m 58 #[.val (.ref a1)] [(.double pm), (.double w0), (.ref a1)])) _
      refine XS.dmulS X32.here hx rfl (hb hby d3_58) rfl hq.1 hd58 ?_
      show Steps p.tables e below (T32.setTop (mkF m 59 #[.val (.ref a1)] [(.double d58), (.ref a1)])) _
      refine XS.aloadN X32.here hx rfl (hb hby d3_59) rfl rfl ?_
      show Steps p.tables e below (T32.setTop (mkF m 60 #[.val (.ref a1)] [(.ref a1), (.double d58), (.ref a1)])) _
      exact k)
    obtain ⟨T35, X35, e35, st35⟩ := getF X32 hx hZ hown (host := "") (Or.inl (hw _ (List.mem_of_getElem? (i := 10) rfl))) Via.refl e32 F6 (g := (mkF m 60 #[.val (.ref a1)] [(.ref a1), (.double d58), (.ref a1)])) rfl rfl (hb hby d3_60)
    have c36 : ∀ t, Steps p.tables e below (T35.setTop (mkF m 63 #[.val (.ref a1)] [(.int cn), (.double d58), (.ref a1)])) t → Steps p.tables e below (s₁.setTop (entryFrame m #[(.ref a1)] 1)) t := fun t k => c34 t (st35 _ k)
    obtain ⟨d63, hd63⟩ : ∃ v : UInt64, FP.i2d cn = v := ⟨_, rfl⟩
    have v64 := u64 _ hd63
    have c37 : ∀ t, Steps p.tables e below (T35.setTop (mkF m 65 #[.val (.ref a1)] [(.double w1), (.ref a1)])) t → Steps p.tables e below (s₁.setTop (entryFrame m #[(.ref a1)] 1)) t := fun t k => c36 t (by
      show Steps p.tables e below (T35.setTop (mkF m 63 #[.val (.ref a1)] [(.int cn), (.double d58), (.ref a1)])) _
      refine XS.i2dS X35.here hx rfl (hb hby d3_63) rfl hd63 ?_
      show Steps p.tables e below (T35.setTop (mkF m 64 #[.val (.ref a1)] [(.double d63), (.double d58), (.ref a1)])) _
      refine XS.ddivS X35.here hx rfl (hb hby d3_64) rfl (v64 ▸ hq.2.1) v64 ?_
      show Steps p.tables e below (T35.setTop (mkF m 65 #[.val (.ref a1)] [(.double w1), (.ref a1)])) _
      exact k)
    obtain ⟨T38, h38, X38, e38, W38, st38⟩ := putF X35 hx hZ hown (host := "") (Or.inl (hw _ (List.mem_of_getElem? (i := 27) rfl))) Via.refl e35 F12 F7 (Or.inl (hw _ (List.mem_of_getElem? (i := 28) rfl))) (hw _ (List.mem_of_getElem? (i := 2) rfl)) (ty := .double) (by decide) rfl rfl (g := (mkF m 65 #[.val (.ref a1)] [(.double w1), (.ref a1)])) rfl rfl (hb hby d3_65)
    have F39 : Fld Z h38 a1 "com/example/topple/topple/markov/PoissonWeights" "weight" "D" (.double w1) := F12.same W38
    have F40 : Exa Z h38 a1 "com/example/topple/topple/markov/PoissonWeights" := (F7.wr W38)
    have F41 : Fld Z h38 a1 "com/example/topple/topple/markov/PoissonWeights" "count" "I" (.int cn) := (F6.other W38 (Or.inr (slot_ne (Or.inl (hw _ (List.mem_of_getElem? (i := 11) rfl))) (Or.inl (hw _ (List.mem_of_getElem? (i := 28) rfl))) (by decide) (t := .int) (t' := .double) (by decide) (by decide))))
    have F42 : Fld Z h38 a1 "com/example/topple/topple/markov/PoissonWeights" "mean" "D" (.double pm) := (F8.other W38 (Or.inr (slot_ne (Or.inr (hw _ (List.mem_of_getElem? (i := 13) rfl))) (Or.inl (hw _ (List.mem_of_getElem? (i := 28) rfl))) (by decide) (t := .double) (t' := .double) (by decide) (by decide))))
    have F43 : Fld Z h38 a1 "com/example/topple/topple/markov/PoissonWeights" "mode" "I" (.int mo) := (F9.other W38 (Or.inr (slot_ne (Or.inr (hw _ (List.mem_of_getElem? (i := 15) rfl))) (Or.inl (hw _ (List.mem_of_getElem? (i := 28) rfl))) (by decide) (t := .int) (t' := .double) (by decide) (by decide))))
    have F44 : Fld Z h38 a1 "com/example/topple/topple/markov/PoissonWeights" "fewest" "I" (.int ff) := (F10.other W38 (Or.inr (slot_ne (Or.inr (hw _ (List.mem_of_getElem? (i := 18) rfl))) (Or.inl (hw _ (List.mem_of_getElem? (i := 28) rfl))) (by decide) (t := .int) (t' := .double) (by decide) (by decide))))
    have F45 : Fld Z h38 a1 "com/example/topple/topple/markov/PoissonWeights" "toMode" "[D" (.ref ta) := (F11.other W38 (Or.inr (slot_ne (Or.inr (hw _ (List.mem_of_getElem? (i := 21) rfl))) (Or.inl (hw _ (List.mem_of_getElem? (i := 28) rfl))) (by decide) (t := (.array .double)) (t' := .double) (by decide) (by decide))))
    have F46 : OwnArr.Ag Z h38 ta .double N (fun i => .double (tf i)) := (F13.other W38 hne)
    have N38 := Fr.snoc X38 N5 g_a1
    have K47 : Keep h0 h38 [a1] := K14.wr W38 (Or.inl (List.mem_of_getElem? (i := 0) rfl))
    have c48 : ∀ t, Steps p.tables e below (T38.setTop (mkF m 68 #[.val (.ref a1)] [])) t → Steps p.tables e below (s₁.setTop (entryFrame m #[(.ref a1)] 1)) t := fun t k => c37 t (st38 _ k)
    have c49 : ∀ t, Steps p.tables e below (T38.setTop (mkF m 69 #[.val (.ref a1)] [(.ref a1)])) t → Steps p.tables e below (s₁.setTop (entryFrame m #[(.ref a1)] 1)) t := fun t k => c48 t (by
      show Steps p.tables e below (T38.setTop (mkF m 68 #[.val (.ref a1)] [])) _
      refine XS.aloadN X38.here hx rfl (hb hby d3_68) rfl rfl ?_
      show Steps p.tables e below (T38.setTop (mkF m 69 #[.val (.ref a1)] [(.ref a1)])) _
      exact k)
    obtain ⟨T50, X50, e50, st50⟩ := getF X38 hx hZ hown (host := "") (Or.inl (hw _ (List.mem_of_getElem? (i := 27) rfl))) Via.refl e38 F39 (g := (mkF m 69 #[.val (.ref a1)] [(.ref a1)])) rfl rfl (hb hby d3_69)
    have c51 : ∀ t, Steps p.tables e below (T50.setTop (mkF m 72 #[.val (.ref a1)] [(.double w1)])) t → Steps p.tables e below (s₁.setTop (entryFrame m #[(.ref a1)] 1)) t := fun t k => c49 t (st50 _ k)
    obtain ⟨fs, hr, hrun, hended, hW, hsame⟩ := X50.leave (v := (some (.double w1))) (fun h => by rw [Bd.returns] at h; cases h)
    refine ⟨_, _, pre0 _ (c51 _ (retOut X50 hx (t := .double) (i := .dreturn) Bd.returns rfl (Or.inr (Or.inr (Or.inl ⟨rfl, rfl, _, rfl⟩))) (hb hby d3_72) hr)), hrun, hended, _, _, rfl, ?_, ⟨_, rfl⟩, hW, hsame.mono (by decide) (by decide)⟩
    show Q_nx Z a1 ta pm ci cn mo ff w0 w1 N J tf h0 n0 _ T50.heap _
    rw [e50]
    exact ⟨rfl, N38, K47, F40, F41, F42, F43, F44, F45, F39⟩
  · skip
    have hq := hlo q30
    have c52 : ∀ t, Steps p.tables e below (T26.setTop (mkF m 34 #[.val (.ref a1)] [(.ref a1), (.ref a1)])) t → Steps p.tables e below (s₁.setTop (entryFrame m #[(.ref a1)] 1)) t := fun t k => c27 t (by
      show Steps p.tables e below (T26.setTop (mkF m 30 #[.val (.ref a1)] [(.int mo), (.int cn), (.ref a1)])) _
      refine XS.icmpNo X26.here hx rfl (hb hby d3_30) rfl (XT.ii_gt_f q30) ?_
      show Steps p.tables e below (T26.setTop (mkF m 33 #[.val (.ref a1)] [(.ref a1)])) _
      refine XS.aloadN X26.here hx rfl (hb hby d3_33) rfl rfl ?_
      show Steps p.tables e below (T26.setTop (mkF m 34 #[.val (.ref a1)] [(.ref a1), (.ref a1)])) _
      exact k)
    obtain ⟨T53, X53, e53, st53⟩ := getF X26 hx hZ hown (host := "") (Or.inl (hw _ (List.mem_of_getElem? (i := 20) rfl))) Via.refl e26 F11 (g := (mkF m 34 #[.val (.ref a1)] [(.ref a1), (.ref a1)])) rfl rfl (hb hby d3_34)
    have c54 : ∀ t, Steps p.tables e below (T53.setTop (mkF m 37 #[.val (.ref a1)] [(.ref ta), (.ref a1)])) t → Steps p.tables e below (s₁.setTop (entryFrame m #[(.ref a1)] 1)) t := fun t k => c52 t (st53 _ k)
    have c55 : ∀ t, Steps p.tables e below (T53.setTop (mkF m 38 #[.val (.ref a1)] [(.ref a1), (.ref ta), (.ref a1)])) t → Steps p.tables e below (s₁.setTop (entryFrame m #[(.ref a1)] 1)) t := fun t k => c54 t (by
      show Steps p.tables e below (T53.setTop (mkF m 37 #[.val (.ref a1)] [(.ref ta), (.ref a1)])) _
      refine XS.aloadN X53.here hx rfl (hb hby d3_37) rfl rfl ?_
      show Steps p.tables e below (T53.setTop (mkF m 38 #[.val (.ref a1)] [(.ref a1), (.ref ta), (.ref a1)])) _
      exact k)
    obtain ⟨T56, X56, e56, st56⟩ := getF X53 hx hZ hown (host := "") (Or.inl (hw _ (List.mem_of_getElem? (i := 10) rfl))) Via.refl e53 F6 (g := (mkF m 38 #[.val (.ref a1)] [(.ref a1), (.ref ta), (.ref a1)])) rfl rfl (hb hby d3_38)
    have c57 : ∀ t, Steps p.tables e below (T56.setTop (mkF m 41 #[.val (.ref a1)] [(.int cn), (.ref ta), (.ref a1)])) t → Steps p.tables e below (s₁.setTop (entryFrame m #[(.ref a1)] 1)) t := fun t k => c55 t (st56 _ k)
    have c58 : ∀ t, Steps p.tables e below (T56.setTop (mkF m 42 #[.val (.ref a1)] [(.ref a1), (.int cn), (.ref ta), (.ref a1)])) t → Steps p.tables e below (s₁.setTop (entryFrame m #[(.ref a1)] 1)) t := fun t k => c57 t (by
      show Steps p.tables e below (T56.setTop (mkF m 41 #[.val (.ref a1)] [(.int cn), (.ref ta), (.ref a1)])) _
      refine XS.aloadN X56.here hx rfl (hb hby d3_41) rfl rfl ?_
      show Steps p.tables e below (T56.setTop (mkF m 42 #[.val (.ref a1)] [(.ref a1), (.int cn), (.ref ta), (.ref a1)])) _
      exact k)
    obtain ⟨T59, X59, e59, st59⟩ := getF X56 hx hZ hown (host := "") (Or.inl (hw _ (List.mem_of_getElem? (i := 17) rfl))) Via.refl e56 F10 (g := (mkF m 42 #[.val (.ref a1)] [(.ref a1), (.int cn), (.ref ta), (.ref a1)])) rfl rfl (hb hby d3_42)
    have c60 : ∀ t, Steps p.tables e below (T59.setTop (mkF m 45 #[.val (.ref a1)] [(.int ff), (.int cn), (.ref ta), (.ref a1)])) t → Steps p.tables e below (s₁.setTop (entryFrame m #[(.ref a1)] 1)) t := fun t k => c58 t (st59 _ k)
    have c61 : ∀ t, Steps p.tables e below (T59.setTop (mkF m 65 #[.val (.ref a1)] [(.double w1), (.ref a1)])) t → Steps p.tables e below (s₁.setTop (entryFrame m #[(.ref a1)] 1)) t := fun t k => c60 t (by
      show Steps p.tables e below (T59.setTop (mkF m 45 #[.val (.ref a1)] [(.int ff), (.int cn), (.ref ta), (.ref a1)])) _
      refine XS.isub X59.here hx rfl (hb hby d3_45) rfl ?_
      show Steps p.tables e below (T59.setTop (mkF m 46 #[.val (.ref a1)] [(.int (cn - ff)), (.ref ta), (.ref a1)])) _
      refine OwnArr.ldD X59 hx hZ e59 F13 (j := (cn - ff)) (J := J) hq.1 hq.2.1 (x := w1) (congrArg Value.double hq.2.2) (g := (mkF m 46 #[.val (.ref a1)] [(.int (cn - ff)), (.ref ta), (.ref a1)])) rfl rfl (hb hby d3_46) ?_
      show Steps p.tables e below (T59.setTop (mkF m 47 #[.val (.ref a1)] [(.double w1), (.ref a1)])) _
      refine XS.goto X59.here hx rfl (pc0 := 47) (pc' := 65) rfl (hb hby d3_47) (by decide) (by decide) ?_
      show Steps p.tables e below (T59.setTop (mkF m 65 #[.val (.ref a1)] [(.double w1), (.ref a1)])) _
      exact k)
    obtain ⟨T62, h62, X62, e62, W62, st62⟩ := putF X59 hx hZ hown (host := "") (Or.inl (hw _ (List.mem_of_getElem? (i := 27) rfl))) Via.refl e59 F12 F7 (Or.inl (hw _ (List.mem_of_getElem? (i := 28) rfl))) (hw _ (List.mem_of_getElem? (i := 2) rfl)) (ty := .double) (by decide) rfl rfl (g := (mkF m 65 #[.val (.ref a1)] [(.double w1), (.ref a1)])) rfl rfl (hb hby d3_65)
    have F63 : Fld Z h62 a1 "com/example/topple/topple/markov/PoissonWeights" "weight" "D" (.double w1) := F12.same W62
    have F64 : Exa Z h62 a1 "com/example/topple/topple/markov/PoissonWeights" := (F7.wr W62)
    have F65 : Fld Z h62 a1 "com/example/topple/topple/markov/PoissonWeights" "count" "I" (.int cn) := (F6.other W62 (Or.inr (slot_ne (Or.inl (hw _ (List.mem_of_getElem? (i := 11) rfl))) (Or.inl (hw _ (List.mem_of_getElem? (i := 28) rfl))) (by decide) (t := .int) (t' := .double) (by decide) (by decide))))
    have F66 : Fld Z h62 a1 "com/example/topple/topple/markov/PoissonWeights" "mean" "D" (.double pm) := (F8.other W62 (Or.inr (slot_ne (Or.inr (hw _ (List.mem_of_getElem? (i := 13) rfl))) (Or.inl (hw _ (List.mem_of_getElem? (i := 28) rfl))) (by decide) (t := .double) (t' := .double) (by decide) (by decide))))
    have F67 : Fld Z h62 a1 "com/example/topple/topple/markov/PoissonWeights" "mode" "I" (.int mo) := (F9.other W62 (Or.inr (slot_ne (Or.inr (hw _ (List.mem_of_getElem? (i := 15) rfl))) (Or.inl (hw _ (List.mem_of_getElem? (i := 28) rfl))) (by decide) (t := .int) (t' := .double) (by decide) (by decide))))
    have F68 : Fld Z h62 a1 "com/example/topple/topple/markov/PoissonWeights" "fewest" "I" (.int ff) := (F10.other W62 (Or.inr (slot_ne (Or.inr (hw _ (List.mem_of_getElem? (i := 18) rfl))) (Or.inl (hw _ (List.mem_of_getElem? (i := 28) rfl))) (by decide) (t := .int) (t' := .double) (by decide) (by decide))))
    have F69 : Fld Z h62 a1 "com/example/topple/topple/markov/PoissonWeights" "toMode" "[D" (.ref ta) := (F11.other W62 (Or.inr (slot_ne (Or.inr (hw _ (List.mem_of_getElem? (i := 21) rfl))) (Or.inl (hw _ (List.mem_of_getElem? (i := 28) rfl))) (by decide) (t := (.array .double)) (t' := .double) (by decide) (by decide))))
    have F70 : OwnArr.Ag Z h62 ta .double N (fun i => .double (tf i)) := (F13.other W62 hne)
    have N62 := Fr.snoc X62 N5 g_a1
    have K71 : Keep h0 h62 [a1] := K14.wr W62 (Or.inl (List.mem_of_getElem? (i := 0) rfl))
    have c72 : ∀ t, Steps p.tables e below (T62.setTop (mkF m 68 #[.val (.ref a1)] [])) t → Steps p.tables e below (s₁.setTop (entryFrame m #[(.ref a1)] 1)) t := fun t k => c61 t (st62 _ k)
    have c73 : ∀ t, Steps p.tables e below (T62.setTop (mkF m 69 #[.val (.ref a1)] [(.ref a1)])) t → Steps p.tables e below (s₁.setTop (entryFrame m #[(.ref a1)] 1)) t := fun t k => c72 t (by
      show Steps p.tables e below (T62.setTop (mkF m 68 #[.val (.ref a1)] [])) _
      refine XS.aloadN X62.here hx rfl (hb hby d3_68) rfl rfl ?_
      show Steps p.tables e below (T62.setTop (mkF m 69 #[.val (.ref a1)] [(.ref a1)])) _
      exact k)
    obtain ⟨T74, X74, e74, st74⟩ := getF X62 hx hZ hown (host := "") (Or.inl (hw _ (List.mem_of_getElem? (i := 27) rfl))) Via.refl e62 F63 (g := (mkF m 69 #[.val (.ref a1)] [(.ref a1)])) rfl rfl (hb hby d3_69)
    have c75 : ∀ t, Steps p.tables e below (T74.setTop (mkF m 72 #[.val (.ref a1)] [(.double w1)])) t → Steps p.tables e below (s₁.setTop (entryFrame m #[(.ref a1)] 1)) t := fun t k => c73 t (st74 _ k)
    obtain ⟨fs, hr, hrun, hended, hW, hsame⟩ := X74.leave (v := (some (.double w1))) (fun h => by rw [Bd.returns] at h; cases h)
    refine ⟨_, _, pre0 _ (c75 _ (retOut X74 hx (t := .double) (i := .dreturn) Bd.returns rfl (Or.inr (Or.inr (Or.inl ⟨rfl, rfl, _, rfl⟩))) (hb hby d3_72) hr)), hrun, hended, _, _, rfl, ?_, ⟨_, rfl⟩, hW, hsame.mono (by decide) (by decide)⟩
    show Q_nx Z a1 ta pm ci cn mo ff w0 w1 N J tf h0 n0 _ T74.heap _
    rw [e74]
    exact ⟨rfl, N62, K71, F64, F65, F66, F67, F68, F69, F63⟩
theorem ef_nk (m : MethodId) (a1 : Addr) (ta : Addr) (pm : UInt64) (ci : Int32) (cn : Int32) (mo : Int32) (ff : Int32) (w0 : UInt64) : entryFrame m #[(.ref a1)] 1 = (mkF m 0 #[.val (.ref a1)] []) := by first | (simp [entryFrame, mkF, argsToLocals, Value.category]; done) | rfl
def Q_nk (Z : State) (a1 : Addr) (ta : Addr) (pm : UInt64) (ci : Int32) (cn : Int32) (mo : Int32) (ff : Int32) (w0 : UInt64) (h0 : Heap) (n0 : Nat) (v : Option Value) (h : Heap) (L : List Loc) : Prop := v = some (.double w0) ∧ Fr n0 L ∧ Keep h0 h [a1] ∧ Exa Z h a1 "com/example/topple/topple/markov/PoissonWeights" ∧ Fld Z h a1 "com/example/topple/topple/markov/PoissonWeights" "count" "I" (.int cn) ∧ Fld Z h a1 "com/example/topple/topple/markov/PoissonWeights" "mean" "D" (.double pm) ∧ Fld Z h a1 "com/example/topple/topple/markov/PoissonWeights" "mode" "I" (.int mo) ∧ Fld Z h a1 "com/example/topple/topple/markov/PoissonWeights" "fewest" "I" (.int ff) ∧ Fld Z h a1 "com/example/topple/topple/markov/PoissonWeights" "toMode" "[D" (.ref ta) ∧ Fld Z h a1 "com/example/topple/topple/markov/PoissonWeights" "weight" "D" (.double w0)
set_option maxRecDepth 65536 in
set_option maxHeartbeats 2000000 in
theorem rm_nk (l : Launch) (Z : State) (a0 : Array Value) (hw : ∀ d ∈ tables_1, d.before a0 Z = true) (ws : List Jvm.Cond) (a1 : Addr) (ta : Addr) (pm : UInt64) (ci : Int32) (cn : Int32) (mo : Int32) (ff : Int32) (w0 : UInt64) (h0 : Heap) (n0 : Nat) (Z0 : n0 ≤ h0.size) (E_a1 : Exa Z h0 a1 "com/example/topple/topple/markov/PoissonWeights") (F_0 : Fld Z h0 a1 "com/example/topple/topple/markov/PoissonWeights" "count" "I" (.int ci)) (F_1 : Fld Z h0 a1 "com/example/topple/topple/markov/PoissonWeights" "mean" "D" (.double pm)) (F_2 : Fld Z h0 a1 "com/example/topple/topple/markov/PoissonWeights" "mode" "I" (.int mo)) (F_3 : Fld Z h0 a1 "com/example/topple/topple/markov/PoissonWeights" "fewest" "I" (.int ff)) (F_4 : Fld Z h0 a1 "com/example/topple/topple/markov/PoissonWeights" "toMode" "[D" (.ref ta)) (F_5 : Fld Z h0 a1 "com/example/topple/topple/markov/PoissonWeights" "weight" "D" (.double w0)) (g_a1 : n0 ≤ a1) (hc : ci + (1 : Int32) = cn) (hlt : cn < ff) :
    MetFree l (⟨"com/example/topple/topple/markov/PoissonWeights", "next", "()D"⟩ : MethodName) (head1 (Jvm.Cond.code (⟨"com/example/topple/topple/markov/PoissonWeights", "next", "()D"⟩ : MethodName) prog_39_method_2_code 1 (some .double) :: ws) ({ frames := 0, cells := 0, slots := 0, locals := 0 } : Room)) (fun aa UU => aa = #[(.ref a1)] ∧ Z.Warmed39 UU.vm ∧ UU.heap = h0) (fun _ _ _ _ _ => True) (fun _ UU oo UU' => ∃ v L, oo = .returned v ∧ Q_nk Z a1 ta pm ci cn mo ff w0 h0 n0 v UU'.heap L ∧ FrameEnd UU oo UU' L ({ frames := 0, cells := 0, slots := 0, locals := 0 } : Room).cells ({ frames := 0, cells := 0, slots := 0, locals := 0 } : Room).slots) := by
  refine MetFree.of_bodySF (plainFor_of_name pn_com_example_topple_topple_markov_PoissonWeights) hisR ?_
  intro p e s m args below meth c s₁ Bd hml0 hP hK
  obtain ⟨rfl, hZ, hh⟩ := hP
  have hx := Bd.exec
  have hby := Bd.bytes
  have hml : c.maxLocals = 1 := hml0
  have hown : s.vm.findClass "com/example/topple/topple/markov/PoissonWeights" = some m.cls := findClass_of_methodNamed Bd.named
  have hnaM := (name_of_methodNamed Bd.named Bd.method).1
  have X0 : Stand p l e ({ frames := 0, cells := 0, slots := 0, locals := 0 } : Room) s m #[(.ref a1)] below meth c s₁ [] 0 0 := Stand.of_body Bd
  have e0 : s₁.heap = h0 := by rw [← hh, Bd.state]; rfl
  have N0 := Fr.nil n0
  have pre0 : ∀ t, Steps p.tables e below (s₁.setTop (entryFrame m #[(.ref a1)] 1)) t → Steps p.tables e below (s₁.setTop (entryFrame m #[(.ref a1)] 1)) t := fun t k => k
  have c0 : ∀ t, Steps p.tables e below (s₁.setTop (mkF m 0 #[.val (.ref a1)] [])) t → Steps p.tables e below (s₁.setTop (entryFrame m #[(.ref a1)] 1)) t := fun t k => castTop (ef_nk m a1 ta pm ci cn mo ff w0) k
  have K0 := Keep.refl h0 [a1]
  have c1 : ∀ t, Steps p.tables e below (s₁.setTop (mkF m 2 #[.val (.ref a1)] [(.ref a1), (.ref a1)])) t → Steps p.tables e below (s₁.setTop (entryFrame m #[(.ref a1)] 1)) t := fun t k => c0 t (by
    show Steps p.tables e below (s₁.setTop (mkF m 0 #[.val (.ref a1)] [])) _
    refine XS.aloadN X0.here hx rfl (hb hby d3_0) rfl rfl ?_
    show Steps p.tables e below (s₁.setTop (mkF m 1 #[.val (.ref a1)] [(.ref a1)])) _
    refine XS.dup X0.here hx rfl (hb hby d3_1) rfl rfl ?_
    show Steps p.tables e below (s₁.setTop (mkF m 2 #[.val (.ref a1)] [(.ref a1), (.ref a1)])) _
    exact k)
  obtain ⟨T2, X2, e2, st2⟩ := getF X0 hx hZ hown (host := "") (Or.inl (hw _ (List.mem_of_getElem? (i := 10) rfl))) Via.refl e0 F_0 (g := (mkF m 2 #[.val (.ref a1)] [(.ref a1), (.ref a1)])) rfl rfl (hb hby d3_2)
  have c3 : ∀ t, Steps p.tables e below (T2.setTop (mkF m 5 #[.val (.ref a1)] [(.int ci), (.ref a1)])) t → Steps p.tables e below (s₁.setTop (entryFrame m #[(.ref a1)] 1)) t := fun t k => c1 t (st2 _ k)
  have c4 : ∀ t, Steps p.tables e below (T2.setTop (mkF m 7 #[.val (.ref a1)] [(.int cn), (.ref a1)])) t → Steps p.tables e below (s₁.setTop (entryFrame m #[(.ref a1)] 1)) t := fun t k => c3 t (by
    rw [← hc] at k
    show Steps p.tables e below (T2.setTop (mkF m 5 #[.val (.ref a1)] [(.int ci), (.ref a1)])) _
    refine XS.iconst X2.here hx rfl (hb hby d3_5) ?_
    show Steps p.tables e below (T2.setTop (mkF m 6 #[.val (.ref a1)] [(.int (1 : Int32)), (.int ci), (.ref a1)])) _
    refine XS.iadd X2.here hx rfl (hb hby d3_6) rfl ?_
    show Steps p.tables e below (T2.setTop (mkF m 7 #[.val (.ref a1)] [(.int (ci + (1 : Int32))), (.ref a1)])) _
    exact k)
  obtain ⟨T5, h5, X5, e5, W5, st5⟩ := putF X2 hx hZ hown (host := "") (Or.inl (hw _ (List.mem_of_getElem? (i := 10) rfl))) Via.refl e2 F_0 E_a1 (Or.inl (hw _ (List.mem_of_getElem? (i := 11) rfl))) (hw _ (List.mem_of_getElem? (i := 2) rfl)) (ty := .int) (by decide) rfl rfl (g := (mkF m 7 #[.val (.ref a1)] [(.int cn), (.ref a1)])) rfl rfl (hb hby d3_7)
  have F6 : Fld Z h5 a1 "com/example/topple/topple/markov/PoissonWeights" "count" "I" (.int cn) := F_0.same W5
  have F7 : Exa Z h5 a1 "com/example/topple/topple/markov/PoissonWeights" := (E_a1.wr W5)
  have F8 : Fld Z h5 a1 "com/example/topple/topple/markov/PoissonWeights" "mean" "D" (.double pm) := (F_1.other W5 (Or.inr (slot_ne (Or.inr (hw _ (List.mem_of_getElem? (i := 13) rfl))) (Or.inl (hw _ (List.mem_of_getElem? (i := 11) rfl))) (by decide) (t := .double) (t' := .int) (by decide) (by decide))))
  have F9 : Fld Z h5 a1 "com/example/topple/topple/markov/PoissonWeights" "mode" "I" (.int mo) := (F_2.other W5 (Or.inr (slot_ne (Or.inr (hw _ (List.mem_of_getElem? (i := 15) rfl))) (Or.inl (hw _ (List.mem_of_getElem? (i := 11) rfl))) (by decide) (t := .int) (t' := .int) (by decide) (by decide))))
  have F10 : Fld Z h5 a1 "com/example/topple/topple/markov/PoissonWeights" "fewest" "I" (.int ff) := (F_3.other W5 (Or.inr (slot_ne (Or.inr (hw _ (List.mem_of_getElem? (i := 18) rfl))) (Or.inl (hw _ (List.mem_of_getElem? (i := 11) rfl))) (by decide) (t := .int) (t' := .int) (by decide) (by decide))))
  have F11 : Fld Z h5 a1 "com/example/topple/topple/markov/PoissonWeights" "toMode" "[D" (.ref ta) := (F_4.other W5 (Or.inr (slot_ne (Or.inr (hw _ (List.mem_of_getElem? (i := 21) rfl))) (Or.inl (hw _ (List.mem_of_getElem? (i := 11) rfl))) (by decide) (t := (.array .double)) (t' := .int) (by decide) (by decide))))
  have F12 : Fld Z h5 a1 "com/example/topple/topple/markov/PoissonWeights" "weight" "D" (.double w0) := (F_5.other W5 (Or.inr (slot_ne (Or.inl (hw _ (List.mem_of_getElem? (i := 28) rfl))) (Or.inl (hw _ (List.mem_of_getElem? (i := 11) rfl))) (by decide) (t := .double) (t' := .int) (by decide) (by decide))))
  have N5 := Fr.snoc X5 N0 g_a1
  have K13 : Keep h0 h5 [a1] := K0.wr W5 (Or.inl (List.mem_of_getElem? (i := 0) rfl))
  have c14 : ∀ t, Steps p.tables e below (T5.setTop (mkF m 10 #[.val (.ref a1)] [])) t → Steps p.tables e below (s₁.setTop (entryFrame m #[(.ref a1)] 1)) t := fun t k => c4 t (st5 _ k)
  have c15 : ∀ t, Steps p.tables e below (T5.setTop (mkF m 11 #[.val (.ref a1)] [(.ref a1)])) t → Steps p.tables e below (s₁.setTop (entryFrame m #[(.ref a1)] 1)) t := fun t k => c14 t (by
    show Steps p.tables e below (T5.setTop (mkF m 10 #[.val (.ref a1)] [])) _
    refine XS.aloadN X5.here hx rfl (hb hby d3_10) rfl rfl ?_
    show Steps p.tables e below (T5.setTop (mkF m 11 #[.val (.ref a1)] [(.ref a1)])) _
    exact k)
  obtain ⟨T16, X16, e16, st16⟩ := getF X5 hx hZ hown (host := "") (Or.inl (hw _ (List.mem_of_getElem? (i := 10) rfl))) Via.refl e5 F6 (g := (mkF m 11 #[.val (.ref a1)] [(.ref a1)])) rfl rfl (hb hby d3_11)
  have c17 : ∀ t, Steps p.tables e below (T16.setTop (mkF m 14 #[.val (.ref a1)] [(.int cn)])) t → Steps p.tables e below (s₁.setTop (entryFrame m #[(.ref a1)] 1)) t := fun t k => c15 t (st16 _ k)
  have c18 : ∀ t, Steps p.tables e below (T16.setTop (mkF m 15 #[.val (.ref a1)] [(.ref a1), (.int cn)])) t → Steps p.tables e below (s₁.setTop (entryFrame m #[(.ref a1)] 1)) t := fun t k => c17 t (by
    show Steps p.tables e below (T16.setTop (mkF m 14 #[.val (.ref a1)] [(.int cn)])) _
    refine XS.aloadN X16.here hx rfl (hb hby d3_14) rfl rfl ?_
    show Steps p.tables e below (T16.setTop (mkF m 15 #[.val (.ref a1)] [(.ref a1), (.int cn)])) _
    exact k)
  obtain ⟨T19, X19, e19, st19⟩ := getF X16 hx hZ hown (host := "") (Or.inl (hw _ (List.mem_of_getElem? (i := 17) rfl))) Via.refl e16 F10 (g := (mkF m 15 #[.val (.ref a1)] [(.ref a1), (.int cn)])) rfl rfl (hb hby d3_15)
  have c20 : ∀ t, Steps p.tables e below (T19.setTop (mkF m 18 #[.val (.ref a1)] [(.int ff), (.int cn)])) t → Steps p.tables e below (s₁.setTop (entryFrame m #[(.ref a1)] 1)) t := fun t k => c18 t (st19 _ k)
  have c21 : ∀ t, Steps p.tables e below (T19.setTop (mkF m 69 #[.val (.ref a1)] [(.ref a1)])) t → Steps p.tables e below (s₁.setTop (entryFrame m #[(.ref a1)] 1)) t := fun t k => c20 t (by
    show Steps p.tables e below (T19.setTop (mkF m 18 #[.val (.ref a1)] [(.int ff), (.int cn)])) _
    refine XS.icmpYes X19.here hx rfl (pc0 := 18) (pc' := 68) rfl (hb hby d3_18) rfl (XT.ii_lt_t hlt) (by decide) (by decide) ?_
    show Steps p.tables e below (T19.setTop (mkF m 68 #[.val (.ref a1)] [])) _
    refine XS.aloadN X19.here hx rfl (hb hby d3_68) rfl rfl ?_
    show Steps p.tables e below (T19.setTop (mkF m 69 #[.val (.ref a1)] [(.ref a1)])) _
    exact k)
  obtain ⟨T22, X22, e22, st22⟩ := getF X19 hx hZ hown (host := "") (Or.inl (hw _ (List.mem_of_getElem? (i := 27) rfl))) Via.refl e19 F12 (g := (mkF m 69 #[.val (.ref a1)] [(.ref a1)])) rfl rfl (hb hby d3_69)
  have c23 : ∀ t, Steps p.tables e below (T22.setTop (mkF m 72 #[.val (.ref a1)] [(.double w0)])) t → Steps p.tables e below (s₁.setTop (entryFrame m #[(.ref a1)] 1)) t := fun t k => c21 t (st22 _ k)
  obtain ⟨fs, hr, hrun, hended, hW, hsame⟩ := X22.leave (v := (some (.double w0))) (fun h => by rw [Bd.returns] at h; cases h)
  refine ⟨_, _, pre0 _ (c23 _ (retOut X22 hx (t := .double) (i := .dreturn) Bd.returns rfl (Or.inr (Or.inr (Or.inl ⟨rfl, rfl, _, rfl⟩))) (hb hby d3_72) hr)), hrun, hended, _, _, rfl, ?_, ⟨_, rfl⟩, hW, hsame.mono (by decide) (by decide)⟩
  show Q_nk Z a1 ta pm ci cn mo ff w0 h0 n0 _ T22.heap _
  rw [e22]
  exact ⟨rfl, N5, K13, F7, F6, F8, F9, F10, F11, F12⟩
theorem d4_0 : decode prog_39_method_3_code 0 = .ok (.aload_n 0, 1) := by decide +kernel
theorem d4_1 : decode prog_39_method_3_code 1 = .ok (.getfield 7, 3) := by decide +kernel
theorem d4_4 : decode prog_39_method_3_code 4 = .ok (.ireturn, 1) := by decide +kernel
theorem ef_cn (m : MethodId) (a1 : Addr) (cn : Int32) : entryFrame m #[(.ref a1)] 1 = (mkF m 0 #[.val (.ref a1)] []) := by first | (simp [entryFrame, mkF, argsToLocals, Value.category]; done) | rfl
def Q_cn (Z : State) (a1 : Addr) (cn : Int32) (h0 : Heap) (n0 : Nat) (v : Option Value) (h : Heap) (L : List Loc) : Prop := v = some (.int cn) ∧ Fr n0 L ∧ h = h0
set_option maxRecDepth 65536 in
set_option maxHeartbeats 2000000 in
theorem rm_cn (l : Launch) (Z : State) (a0 : Array Value) (hw : ∀ d ∈ tables_1, d.before a0 Z = true) (ws : List Jvm.Cond) (a1 : Addr) (cn : Int32) (h0 : Heap) (n0 : Nat) (Z0 : n0 ≤ h0.size) (G_0 : Fld Z h0 a1 "com/example/topple/topple/markov/PoissonWeights" "count" "I" (.int cn)) :
    MetFree l (⟨"com/example/topple/topple/markov/PoissonWeights", "count", "()I"⟩ : MethodName) (head1 (Jvm.Cond.code (⟨"com/example/topple/topple/markov/PoissonWeights", "count", "()I"⟩ : MethodName) prog_39_method_3_code 1 (some .int) :: ws) ({ frames := 0, cells := 0, slots := 0, locals := 0 } : Room)) (fun aa UU => aa = #[(.ref a1)] ∧ Z.Warmed39 UU.vm ∧ UU.heap = h0) (fun _ _ _ _ _ => True) (fun _ UU oo UU' => ∃ v L, oo = .returned v ∧ Q_cn Z a1 cn h0 n0 v UU'.heap L ∧ FrameEnd UU oo UU' L ({ frames := 0, cells := 0, slots := 0, locals := 0 } : Room).cells ({ frames := 0, cells := 0, slots := 0, locals := 0 } : Room).slots) := by
  refine MetFree.of_bodySF (plainFor_of_name pn_com_example_topple_topple_markov_PoissonWeights) hisR ?_
  intro p e s m args below meth c s₁ Bd hml0 hP hK
  obtain ⟨rfl, hZ, hh⟩ := hP
  have hx := Bd.exec
  have hby := Bd.bytes
  have hml : c.maxLocals = 1 := hml0
  have hown : s.vm.findClass "com/example/topple/topple/markov/PoissonWeights" = some m.cls := findClass_of_methodNamed Bd.named
  have hnaM := (name_of_methodNamed Bd.named Bd.method).1
  have X0 : Stand p l e ({ frames := 0, cells := 0, slots := 0, locals := 0 } : Room) s m #[(.ref a1)] below meth c s₁ [] 0 0 := Stand.of_body Bd
  have e0 : s₁.heap = h0 := by rw [← hh, Bd.state]; rfl
  have N0 := Fr.nil n0
  have pre0 : ∀ t, Steps p.tables e below (s₁.setTop (entryFrame m #[(.ref a1)] 1)) t → Steps p.tables e below (s₁.setTop (entryFrame m #[(.ref a1)] 1)) t := fun t k => k
  have c0 : ∀ t, Steps p.tables e below (s₁.setTop (mkF m 0 #[.val (.ref a1)] [])) t → Steps p.tables e below (s₁.setTop (entryFrame m #[(.ref a1)] 1)) t := fun t k => castTop (ef_cn m a1 cn) k
  have c1 : ∀ t, Steps p.tables e below (s₁.setTop (mkF m 1 #[.val (.ref a1)] [(.ref a1)])) t → Steps p.tables e below (s₁.setTop (entryFrame m #[(.ref a1)] 1)) t := fun t k => c0 t (by
    show Steps p.tables e below (s₁.setTop (mkF m 0 #[.val (.ref a1)] [])) _
    refine XS.aloadN X0.here hx rfl (hb hby d4_0) rfl rfl ?_
    show Steps p.tables e below (s₁.setTop (mkF m 1 #[.val (.ref a1)] [(.ref a1)])) _
    exact k)
  obtain ⟨T2, X2, e2, st2⟩ := getF X0 hx hZ hown (host := "") (Or.inl (hw _ (List.mem_of_getElem? (i := 10) rfl))) Via.refl e0 G_0 (g := (mkF m 1 #[.val (.ref a1)] [(.ref a1)])) rfl rfl (hb hby d4_1)
  have c3 : ∀ t, Steps p.tables e below (T2.setTop (mkF m 4 #[.val (.ref a1)] [(.int cn)])) t → Steps p.tables e below (s₁.setTop (entryFrame m #[(.ref a1)] 1)) t := fun t k => c1 t (st2 _ k)
  obtain ⟨fs, hr, hrun, hended, hW, hsame⟩ := X2.leave (v := (some (.int cn))) (fun h => by rw [Bd.returns] at h; cases h)
  refine ⟨_, _, pre0 _ (c3 _ (retI X2 hx Bd.returns (hb hby d4_4) hr)), hrun, hended, _, _, rfl, ?_, ⟨_, rfl⟩, hW, hsame.mono (by decide) (by decide)⟩
  show Q_cn Z a1 cn h0 n0 _ T2.heap _
  rw [e2]
  exact ⟨rfl, N0, rfl⟩
theorem d5_0 : decode method_3_code 0 = .ok (.iload_n 0, 1) := by decide +kernel
theorem d5_1 : decode method_3_code 1 = .ok (.iload 9, 2) := by decide +kernel
theorem d5_3 : decode method_3_code 3 = .ok (.if_icmp .ne 15, 3) := by decide +kernel
theorem d5_6 : decode method_3_code 6 = .ok (.dload_n 1, 1) := by decide +kernel
theorem d5_7 : decode method_3_code 7 = .ok (.dconst 1, 1) := by decide +kernel
theorem d5_8 : decode method_3_code 8 = .ok (.dcmp .l, 1) := by decide +kernel
theorem d5_9 : decode method_3_code 9 = .ok (.ifCond .ne 7, 3) := by decide +kernel
theorem d5_12 : decode method_3_code 12 = .ok (.iconst 1, 1) := by decide +kernel
theorem d5_13 : decode method_3_code 13 = .ok (.goto 4, 3) := by decide +kernel
theorem d5_17 : decode method_3_code 17 = .ok (.ireturn, 1) := by decide +kernel
theorem d5_18 : decode method_3_code 18 = .ok (.iload_n 0, 1) := by decide +kernel
theorem d5_19 : decode method_3_code 19 = .ok (.iload 9, 2) := by decide +kernel
theorem d5_21 : decode method_3_code 21 = .ok (.if_icmp .ge 24, 3) := by decide +kernel
theorem d5_24 : decode method_3_code 24 = .ok (.dload_n 1, 1) := by decide +kernel
theorem d5_25 : decode method_3_code 25 = .ok (.dload 5, 2) := by decide +kernel
theorem d5_27 : decode method_3_code 27 = .ok (.iload_n 0, 1) := by decide +kernel
theorem d5_28 : decode method_3_code 28 = .ok (.iconst 1, 1) := by decide +kernel
theorem d5_29 : decode method_3_code 29 = .ok (.iadd, 1) := by decide +kernel
theorem d5_30 : decode method_3_code 30 = .ok (.i2d, 1) := by decide +kernel
theorem d5_31 : decode method_3_code 31 = .ok (.dmul, 1) := by decide +kernel
theorem d5_32 : decode method_3_code 32 = .ok (.dload 7, 2) := by decide +kernel
theorem d5_34 : decode method_3_code 34 = .ok (.ddiv, 1) := by decide +kernel
theorem d5_35 : decode method_3_code 35 = .ok (.dcmp .l, 1) := by decide +kernel
theorem d5_36 : decode method_3_code 36 = .ok (.ifCond .ne 7, 3) := by decide +kernel
theorem d5_39 : decode method_3_code 39 = .ok (.iconst 1, 1) := by decide +kernel
theorem d5_40 : decode method_3_code 40 = .ok (.goto 4, 3) := by decide +kernel
theorem d5_44 : decode method_3_code 44 = .ok (.ireturn, 1) := by decide +kernel
theorem d5_45 : decode method_3_code 45 = .ok (.dload_n 1, 1) := by decide +kernel
theorem d5_46 : decode method_3_code 46 = .ok (.dload_n 3, 1) := by decide +kernel
theorem d5_47 : decode method_3_code 47 = .ok (.dload 7, 2) := by decide +kernel
theorem d5_49 : decode method_3_code 49 = .ok (.dmul, 1) := by decide +kernel
theorem d5_50 : decode method_3_code 50 = .ok (.iload_n 0, 1) := by decide +kernel
theorem d5_51 : decode method_3_code 51 = .ok (.i2d, 1) := by decide +kernel
theorem d5_52 : decode method_3_code 52 = .ok (.ddiv, 1) := by decide +kernel
theorem d5_53 : decode method_3_code 53 = .ok (.dcmp .l, 1) := by decide +kernel
theorem d5_54 : decode method_3_code 54 = .ok (.ifCond .ne 7, 3) := by decide +kernel
theorem d5_57 : decode method_3_code 57 = .ok (.iconst 1, 1) := by decide +kernel
theorem d5_58 : decode method_3_code 58 = .ok (.goto 4, 3) := by decide +kernel
theorem d5_62 : decode method_3_code 62 = .ok (.ireturn, 1) := by decide +kernel
theorem ef_ok (m : MethodId) (kc : Int32) (wk : UInt64) (pv : UInt64) (nx : UInt64) (pm : UInt64) (mo : Int32) : entryFrame m #[(.int kc), (.double wk), (.double pv), (.double nx), (.double pm), (.int mo)] 10 = (mkF m 0 #[.val (.int kc), .val (.double wk), .second, .val (.double pv), .second, .val (.double nx), .second, .val (.double pm), .second, .val (.int mo)] []) := by first | (simp [entryFrame, mkF, argsToLocals, Value.category]; done) | rfl
def Q_ok (Z : State) (kc : Int32) (wk : UInt64) (pv : UInt64) (nx : UInt64) (pm : UInt64) (mo : Int32) (h0 : Heap) (n0 : Nat) (v : Option Value) (h : Heap) (L : List Loc) : Prop := v = some (.int 1) ∧ Fr n0 L ∧ h = h0
set_option maxRecDepth 65536 in
set_option maxHeartbeats 2000000 in
theorem rm_ok (l : Launch) (Z : State) (a0 : Array Value) (hw : ∀ d ∈ tables_1, d.before a0 Z = true) (ws : List Jvm.Cond) (kc : Int32) (wk : UInt64) (pv : UInt64) (nx : UInt64) (pm : UInt64) (mo : Int32) (h0 : Heap) (n0 : Nat) (Z0 : n0 ≤ h0.size) (he : kc = mo → cmpValue (FP.dcmp wk FP.dconst1) .l = 0) (hl : ¬ kc = mo → kc < mo → Jvm.Free.Fl.NoNaN64 (FP.dmul nx (FP.i2d (kc + (1 : Int32)))) ∧ Jvm.Free.Fl.NoNaN64 (FP.ddiv (FP.dmul nx (FP.i2d (kc + (1 : Int32)))) pm) ∧ cmpValue (FP.dcmp wk (FP.ddiv (FP.dmul nx (FP.i2d (kc + (1 : Int32)))) pm)) .l = 0) (hg : ¬ kc = mo → ¬ kc < mo → Jvm.Free.Fl.NoNaN64 (FP.dmul pv pm) ∧ Jvm.Free.Fl.NoNaN64 (FP.ddiv (FP.dmul pv pm) (FP.i2d kc)) ∧ cmpValue (FP.dcmp wk (FP.ddiv (FP.dmul pv pm) (FP.i2d kc))) .l = 0) :
    MetFree l (⟨"com/example/topple/topple/markov/PoissonWeightsNextPinLaw", "ok", "(IDDDDI)Z"⟩ : MethodName) (head1 (Jvm.Cond.code (⟨"com/example/topple/topple/markov/PoissonWeightsNextPinLaw", "ok", "(IDDDDI)Z"⟩ : MethodName) method_3_code 10 (some .boolean) :: ws) ({ frames := 0, cells := 0, slots := 0, locals := 0 } : Room)) (fun aa UU => aa = #[(.int kc), (.double wk), (.double pv), (.double nx), (.double pm), (.int mo)] ∧ Z.Warmed39 UU.vm ∧ UU.heap = h0) (fun _ _ _ _ _ => True) (fun _ UU oo UU' => ∃ v L, oo = .returned v ∧ Q_ok Z kc wk pv nx pm mo h0 n0 v UU'.heap L ∧ FrameEnd UU oo UU' L ({ frames := 0, cells := 0, slots := 0, locals := 0 } : Room).cells ({ frames := 0, cells := 0, slots := 0, locals := 0 } : Room).slots) := by
  refine MetFree.of_bodySF (plainFor_of_name pn_com_example_topple_topple_markov_PoissonWeightsNextPinLaw) hisR ?_
  intro p e s m args below meth c s₁ Bd hml0 hP hK
  obtain ⟨rfl, hZ, hh⟩ := hP
  have hx := Bd.exec
  have hby := Bd.bytes
  have hml : c.maxLocals = 10 := hml0
  have hown : s.vm.findClass "com/example/topple/topple/markov/PoissonWeightsNextPinLaw" = some m.cls := findClass_of_methodNamed Bd.named
  have hnaM := (name_of_methodNamed Bd.named Bd.method).1
  have X0 : Stand p l e ({ frames := 0, cells := 0, slots := 0, locals := 0 } : Room) s m #[(.int kc), (.double wk), (.double pv), (.double nx), (.double pm), (.int mo)] below meth c s₁ [] 0 0 := Stand.of_body Bd
  have e0 : s₁.heap = h0 := by rw [← hh, Bd.state]; rfl
  have N0 := Fr.nil n0
  have pre0 : ∀ t, Steps p.tables e below (s₁.setTop (entryFrame m #[(.int kc), (.double wk), (.double pv), (.double nx), (.double pm), (.int mo)] 10)) t → Steps p.tables e below (s₁.setTop (entryFrame m #[(.int kc), (.double wk), (.double pv), (.double nx), (.double pm), (.int mo)] 10)) t := fun t k => k
  have c0 : ∀ t, Steps p.tables e below (s₁.setTop (mkF m 0 #[.val (.int kc), .val (.double wk), .second, .val (.double pv), .second, .val (.double nx), .second, .val (.double pm), .second, .val (.int mo)] [])) t → Steps p.tables e below (s₁.setTop (entryFrame m #[(.int kc), (.double wk), (.double pv), (.double nx), (.double pm), (.int mo)] 10)) t := fun t k => castTop (ef_ok m kc wk pv nx pm mo) k
  have c1 : ∀ t, Steps p.tables e below (s₁.setTop (mkF m 3 #[.val (.int kc), .val (.double wk), .second, .val (.double pv), .second, .val (.double nx), .second, .val (.double pm), .second, .val (.int mo)] [(.int mo), (.int kc)])) t → Steps p.tables e below (s₁.setTop (entryFrame m #[(.int kc), (.double wk), (.double pv), (.double nx), (.double pm), (.int mo)] 10)) t := fun t k => c0 t (by
    show Steps p.tables e below (s₁.setTop (mkF m 0 #[.val (.int kc), .val (.double wk), .second, .val (.double pv), .second, .val (.double nx), .second, .val (.double pm), .second, .val (.int mo)] [])) _
    refine XS.iloadN X0.here hx rfl (hb hby d5_0) rfl ?_
    show Steps p.tables e below (s₁.setTop (mkF m 1 #[.val (.int kc), .val (.double wk), .second, .val (.double pv), .second, .val (.double nx), .second, .val (.double pm), .second, .val (.int mo)] [(.int kc)])) _
    refine XS.iload X0.here hx rfl (hb hby d5_1) rfl ?_
    show Steps p.tables e below (s₁.setTop (mkF m 3 #[.val (.int kc), .val (.double wk), .second, .val (.double pv), .second, .val (.double nx), .second, .val (.double pm), .second, .val (.int mo)] [(.int mo), (.int kc)])) _
    exact k)
  by_cases q3 : kc = mo
  · skip
    have hq := he q3
    obtain ⟨k8, hk8⟩ : ∃ v : Int32, cmpValue (FP.dcmp wk FP.dconst1) .l = v := ⟨_, rfl⟩
    have e8 : k8 = 0 := hk8.symm.trans hq
    have c2 : ∀ t, Steps p.tables e below (s₁.setTop (mkF m 17 #[.val (.int kc), .val (.double wk), .second, .val (.double pv), .second, .val (.double nx), .second, .val (.double pm), .second, .val (.int mo)] [(.int (1 : Int32))])) t → Steps p.tables e below (s₁.setTop (entryFrame m #[(.int kc), (.double wk), (.double pv), (.double nx), (.double pm), (.int mo)] 10)) t := fun t k => c1 t (by
      show Steps p.tables e below (s₁.setTop (mkF m 3 #[.val (.int kc), .val (.double wk), .second, .val (.double pv), .second, .val (.double nx), .second, .val (.double pm), .second, .val (.int mo)] [(.int mo), (.int kc)])) _
      refine XS.icmpNo X0.here hx rfl (hb hby d5_3) rfl (XT.ii_ne_f q3) ?_
      show Steps p.tables e below (s₁.setTop (mkF m 6 #[.val (.int kc), .val (.double wk), .second, .val (.double pv), .second, .val (.double nx), .second, .val (.double pm), .second, .val (.int mo)] [])) _
      refine XS.dloadN X0.here hx rfl (hb hby d5_6) rfl ?_
      show Steps p.tables e below (s₁.setTop (mkF m 7 #[.val (.int kc), .val (.double wk), .second, .val (.double pv), .second, .val (.double nx), .second, .val (.double pm), .second, .val (.int mo)] [(.double wk)])) _
      refine XS.dconst1 X0.here hx rfl (hb hby d5_7) rfl ?_
      show Steps p.tables e below (s₁.setTop (mkF m 8 #[.val (.int kc), .val (.double wk), .second, .val (.double pv), .second, .val (.double nx), .second, .val (.double pm), .second, .val (.int mo)] [(.double FP.dconst1), (.double wk)])) _
      refine XS.dcmpS X0.here hx rfl (hb hby d5_8) rfl hk8 ?_
      show Steps p.tables e below (s₁.setTop (mkF m 9 #[.val (.int kc), .val (.double wk), .second, .val (.double pv), .second, .val (.double nx), .second, .val (.double pm), .second, .val (.int mo)] [(.int k8)])) _
      refine XS.ifNo X0.here hx rfl (hb hby d5_9) rfl (XT.i0_ne_f e8) ?_
      show Steps p.tables e below (s₁.setTop (mkF m 12 #[.val (.int kc), .val (.double wk), .second, .val (.double pv), .second, .val (.double nx), .second, .val (.double pm), .second, .val (.int mo)] [])) _
      refine XS.iconst X0.here hx rfl (hb hby d5_12) ?_
      show Steps p.tables e below (s₁.setTop (mkF m 13 #[.val (.int kc), .val (.double wk), .second, .val (.double pv), .second, .val (.double nx), .second, .val (.double pm), .second, .val (.int mo)] [(.int (1 : Int32))])) _
      refine XS.goto X0.here hx rfl (pc0 := 13) (pc' := 17) rfl (hb hby d5_13) (by decide) (by decide) ?_
      show Steps p.tables e below (s₁.setTop (mkF m 17 #[.val (.int kc), .val (.double wk), .second, .val (.double pv), .second, .val (.double nx), .second, .val (.double pm), .second, .val (.int mo)] [(.int (1 : Int32))])) _
      exact k)
    obtain ⟨fs, hr, hrun, hended, hW, hsame⟩ := X0.leave (v := (some (.int (1 : Int32)))) (fun h => by rw [Bd.returns] at h; cases h)
    refine ⟨_, _, pre0 _ (c2 _ (retN X0 hx (t := .boolean) Bd.returns (by simp) (hb hby d5_17) hr)), hrun, hended, _, _, rfl, ?_, ⟨_, rfl⟩, hW, hsame.mono (by decide) (by decide)⟩
    show Q_ok Z kc wk pv nx pm mo h0 n0 _ s₁.heap _
    rw [e0]
    exact ⟨rfl, N0, rfl⟩
  · skip
    have c3 : ∀ t, Steps p.tables e below (s₁.setTop (mkF m 21 #[.val (.int kc), .val (.double wk), .second, .val (.double pv), .second, .val (.double nx), .second, .val (.double pm), .second, .val (.int mo)] [(.int mo), (.int kc)])) t → Steps p.tables e below (s₁.setTop (entryFrame m #[(.int kc), (.double wk), (.double pv), (.double nx), (.double pm), (.int mo)] 10)) t := fun t k => c1 t (by
      show Steps p.tables e below (s₁.setTop (mkF m 3 #[.val (.int kc), .val (.double wk), .second, .val (.double pv), .second, .val (.double nx), .second, .val (.double pm), .second, .val (.int mo)] [(.int mo), (.int kc)])) _
      refine XS.icmpYes X0.here hx rfl (pc0 := 3) (pc' := 18) rfl (hb hby d5_3) rfl (XT.ii_ne_t q3) (by decide) (by decide) ?_
      show Steps p.tables e below (s₁.setTop (mkF m 18 #[.val (.int kc), .val (.double wk), .second, .val (.double pv), .second, .val (.double nx), .second, .val (.double pm), .second, .val (.int mo)] [])) _
      refine XS.iloadN X0.here hx rfl (hb hby d5_18) rfl ?_
      show Steps p.tables e below (s₁.setTop (mkF m 19 #[.val (.int kc), .val (.double wk), .second, .val (.double pv), .second, .val (.double nx), .second, .val (.double pm), .second, .val (.int mo)] [(.int kc)])) _
      refine XS.iload X0.here hx rfl (hb hby d5_19) rfl ?_
      show Steps p.tables e below (s₁.setTop (mkF m 21 #[.val (.int kc), .val (.double wk), .second, .val (.double pv), .second, .val (.double nx), .second, .val (.double pm), .second, .val (.int mo)] [(.int mo), (.int kc)])) _
      exact k)
    by_cases q21 : kc < mo
    · skip
      have hq := hl q3 q21
      obtain ⟨d30, hd30⟩ : ∃ v : UInt64, FP.i2d (kc + (1 : Int32)) = v := ⟨_, rfl⟩
      obtain ⟨d31, hd31⟩ : ∃ v : UInt64, FP.dmul nx d30 = v := ⟨_, rfl⟩
      have n31 : Jvm.Free.Fl.NoNaN64 (FP.dmul nx d30) := by rw [← hd30]; exact hq.1
      obtain ⟨d34, hd34⟩ : ∃ v : UInt64, FP.ddiv d31 pm = v := ⟨_, rfl⟩
      have n34 : Jvm.Free.Fl.NoNaN64 (FP.ddiv d31 pm) := by rw [← hd31, ← hd30]; exact hq.2.1
      obtain ⟨k35, hk35⟩ : ∃ v : Int32, cmpValue (FP.dcmp wk d34) .l = v := ⟨_, rfl⟩
      have e35 : k35 = 0 := by rw [← hk35, ← hd34, ← hd31, ← hd30]; exact hq.2.2
      have c4 : ∀ t, Steps p.tables e below (s₁.setTop (mkF m 44 #[.val (.int kc), .val (.double wk), .second, .val (.double pv), .second, .val (.double nx), .second, .val (.double pm), .second, .val (.int mo)] [(.int (1 : Int32))])) t → Steps p.tables e below (s₁.setTop (entryFrame m #[(.int kc), (.double wk), (.double pv), (.double nx), (.double pm), (.int mo)] 10)) t := fun t k => c3 t (by
        show Steps p.tables e below (s₁.setTop (mkF m 21 #[.val (.int kc), .val (.double wk), .second, .val (.double pv), .second, .val (.double nx), .second, .val (.double pm), .second, .val (.int mo)] [(.int mo), (.int kc)])) _
        refine XS.icmpNo X0.here hx rfl (hb hby d5_21) rfl (XT.ii_ge_f q21) ?_
        show Steps p.tables e below (s₁.setTop (mkF m 24 #[.val (.int kc), .val (.double wk), .second, .val (.double pv), .second, .val (.double nx), .second, .val (.double pm), .second, .val (.int mo)] [])) _
        refine XS.dloadN X0.here hx rfl (hb hby d5_24) rfl ?_
        show Steps p.tables e below (s₁.setTop (mkF m 25 #[.val (.int kc), .val (.double wk), .second, .val (.double pv), .second, .val (.double nx), .second, .val (.double pm), .second, .val (.int mo)] [(.double wk)])) _
        refine XS.dload X0.here hx rfl (hb hby d5_25) rfl ?_
        show Steps p.tables e below (s₁.setTop (mkF m 27 #[.val (.int kc), .val (.double wk), .second, .val (.double pv), .second, .val (.double nx), .second, .val (.double pm), .second, .val (.int mo)] [(.double nx), (.double wk)])) _
        refine XS.iloadN X0.here hx rfl (hb hby d5_27) rfl ?_
        show Steps p.tables e below (s₁.setTop (mkF m 28 #[.val (.int kc), .val (.double wk), .second, .val (.double pv), .second, .val (.double nx), .second, .val (.double pm), .second, .val (.int mo)] [(.int kc), (.double nx), (.double wk)])) _
        refine XS.iconst X0.here hx rfl (hb hby d5_28) ?_
        show Steps p.tables e below (s₁.setTop (mkF m 29 #[.val (.int kc), .val (.double wk), .second, .val (.double pv), .second, .val (.double nx), .second, .val (.double pm), .second, .val (.int mo)] [(.int (1 : Int32)), (.int kc), (.double nx), (.double wk)])) _
        refine XS.iadd X0.here hx rfl (hb hby d5_29) rfl ?_
        show Steps p.tables e below (s₁.setTop (mkF m 30 #[.val (.int kc), .val (.double wk), .second, .val (.double pv), .second, .val (.double nx), .second, .val (.double pm), .second, .val (.int mo)] [(.int (kc + (1 : Int32))), (.double nx), (.double wk)])) _
        refine XS.i2dS X0.here hx rfl (hb hby d5_30) rfl hd30 ?_
        show Steps p.tables e below (s₁.setTop (mkF m 31 #[.val (.int kc), .val (.double wk), .second, .val (.double pv), .second, .val (.double nx), .second, .val (.double pm), .second, .val (.int mo)] [(.double d30), (.double nx), (.double wk)])) _
        refine XS.dmulS X0.here hx rfl (hb hby d5_31) rfl n31 hd31 ?_
        show Steps p.tables e below (s₁.setTop (mkF m 32 #[.val (.int kc), .val (.double wk), .second, .val (.double pv), .second, .val (.double nx), .second, .val (.double pm), .second, .val (.int mo)] [(.double d31), (.double wk)])) _
        refine XS.dload X0.here hx rfl (hb hby d5_32) rfl ?_
        show Steps p.tables e below (s₁.setTop (mkF m 34 #[.val (.int kc), .val (.double wk), .second, .val (.double pv), .second, .val (.double nx), .second, .val (.double pm), .second, .val (.int mo)] [(.double pm), (.double d31), (.double wk)])) _
        refine XS.ddivS X0.here hx rfl (hb hby d5_34) rfl n34 hd34 ?_
        show Steps p.tables e below (s₁.setTop (mkF m 35 #[.val (.int kc), .val (.double wk), .second, .val (.double pv), .second, .val (.double nx), .second, .val (.double pm), .second, .val (.int mo)] [(.double d34), (.double wk)])) _
        refine XS.dcmpS X0.here hx rfl (hb hby d5_35) rfl hk35 ?_
        show Steps p.tables e below (s₁.setTop (mkF m 36 #[.val (.int kc), .val (.double wk), .second, .val (.double pv), .second, .val (.double nx), .second, .val (.double pm), .second, .val (.int mo)] [(.int k35)])) _
        refine XS.ifNo X0.here hx rfl (hb hby d5_36) rfl (XT.i0_ne_f e35) ?_
        show Steps p.tables e below (s₁.setTop (mkF m 39 #[.val (.int kc), .val (.double wk), .second, .val (.double pv), .second, .val (.double nx), .second, .val (.double pm), .second, .val (.int mo)] [])) _
        refine XS.iconst X0.here hx rfl (hb hby d5_39) ?_
        show Steps p.tables e below (s₁.setTop (mkF m 40 #[.val (.int kc), .val (.double wk), .second, .val (.double pv), .second, .val (.double nx), .second, .val (.double pm), .second, .val (.int mo)] [(.int (1 : Int32))])) _
        refine XS.goto X0.here hx rfl (pc0 := 40) (pc' := 44) rfl (hb hby d5_40) (by decide) (by decide) ?_
        show Steps p.tables e below (s₁.setTop (mkF m 44 #[.val (.int kc), .val (.double wk), .second, .val (.double pv), .second, .val (.double nx), .second, .val (.double pm), .second, .val (.int mo)] [(.int (1 : Int32))])) _
        exact k)
      obtain ⟨fs, hr, hrun, hended, hW, hsame⟩ := X0.leave (v := (some (.int (1 : Int32)))) (fun h => by rw [Bd.returns] at h; cases h)
      refine ⟨_, _, pre0 _ (c4 _ (retN X0 hx (t := .boolean) Bd.returns (by simp) (hb hby d5_44) hr)), hrun, hended, _, _, rfl, ?_, ⟨_, rfl⟩, hW, hsame.mono (by decide) (by decide)⟩
      show Q_ok Z kc wk pv nx pm mo h0 n0 _ s₁.heap _
      rw [e0]
      exact ⟨rfl, N0, rfl⟩
    · skip
      have hq := hg q3 q21
      obtain ⟨d49, hd49⟩ : ∃ v : UInt64, FP.dmul pv pm = v := ⟨_, rfl⟩
      obtain ⟨d51, hd51⟩ : ∃ v : UInt64, FP.i2d kc = v := ⟨_, rfl⟩
      obtain ⟨d52, hd52⟩ : ∃ v : UInt64, FP.ddiv d49 d51 = v := ⟨_, rfl⟩
      have n52 : Jvm.Free.Fl.NoNaN64 (FP.ddiv d49 d51) := by rw [← hd49, ← hd51]; exact hq.2.1
      obtain ⟨k53, hk53⟩ : ∃ v : Int32, cmpValue (FP.dcmp wk d52) .l = v := ⟨_, rfl⟩
      have e53 : k53 = 0 := by rw [← hk53, ← hd52, ← hd49, ← hd51]; exact hq.2.2
      have c5 : ∀ t, Steps p.tables e below (s₁.setTop (mkF m 62 #[.val (.int kc), .val (.double wk), .second, .val (.double pv), .second, .val (.double nx), .second, .val (.double pm), .second, .val (.int mo)] [(.int (1 : Int32))])) t → Steps p.tables e below (s₁.setTop (entryFrame m #[(.int kc), (.double wk), (.double pv), (.double nx), (.double pm), (.int mo)] 10)) t := fun t k => c3 t (by
        show Steps p.tables e below (s₁.setTop (mkF m 21 #[.val (.int kc), .val (.double wk), .second, .val (.double pv), .second, .val (.double nx), .second, .val (.double pm), .second, .val (.int mo)] [(.int mo), (.int kc)])) _
        refine XS.icmpYes X0.here hx rfl (pc0 := 21) (pc' := 45) rfl (hb hby d5_21) rfl (XT.ii_ge_t q21) (by decide) (by decide) ?_
        show Steps p.tables e below (s₁.setTop (mkF m 45 #[.val (.int kc), .val (.double wk), .second, .val (.double pv), .second, .val (.double nx), .second, .val (.double pm), .second, .val (.int mo)] [])) _
        refine XS.dloadN X0.here hx rfl (hb hby d5_45) rfl ?_
        show Steps p.tables e below (s₁.setTop (mkF m 46 #[.val (.int kc), .val (.double wk), .second, .val (.double pv), .second, .val (.double nx), .second, .val (.double pm), .second, .val (.int mo)] [(.double wk)])) _
        refine XS.dloadN X0.here hx rfl (hb hby d5_46) rfl ?_
        show Steps p.tables e below (s₁.setTop (mkF m 47 #[.val (.int kc), .val (.double wk), .second, .val (.double pv), .second, .val (.double nx), .second, .val (.double pm), .second, .val (.int mo)] [(.double pv), (.double wk)])) _
        refine XS.dload X0.here hx rfl (hb hby d5_47) rfl ?_
        show Steps p.tables e below (s₁.setTop (mkF m 49 #[.val (.int kc), .val (.double wk), .second, .val (.double pv), .second, .val (.double nx), .second, .val (.double pm), .second, .val (.int mo)] [(.double pm), (.double pv), (.double wk)])) _
        refine XS.dmulS X0.here hx rfl (hb hby d5_49) rfl hq.1 hd49 ?_
        show Steps p.tables e below (s₁.setTop (mkF m 50 #[.val (.int kc), .val (.double wk), .second, .val (.double pv), .second, .val (.double nx), .second, .val (.double pm), .second, .val (.int mo)] [(.double d49), (.double wk)])) _
        refine XS.iloadN X0.here hx rfl (hb hby d5_50) rfl ?_
        show Steps p.tables e below (s₁.setTop (mkF m 51 #[.val (.int kc), .val (.double wk), .second, .val (.double pv), .second, .val (.double nx), .second, .val (.double pm), .second, .val (.int mo)] [(.int kc), (.double d49), (.double wk)])) _
        refine XS.i2dS X0.here hx rfl (hb hby d5_51) rfl hd51 ?_
        show Steps p.tables e below (s₁.setTop (mkF m 52 #[.val (.int kc), .val (.double wk), .second, .val (.double pv), .second, .val (.double nx), .second, .val (.double pm), .second, .val (.int mo)] [(.double d51), (.double d49), (.double wk)])) _
        refine XS.ddivS X0.here hx rfl (hb hby d5_52) rfl n52 hd52 ?_
        show Steps p.tables e below (s₁.setTop (mkF m 53 #[.val (.int kc), .val (.double wk), .second, .val (.double pv), .second, .val (.double nx), .second, .val (.double pm), .second, .val (.int mo)] [(.double d52), (.double wk)])) _
        refine XS.dcmpS X0.here hx rfl (hb hby d5_53) rfl hk53 ?_
        show Steps p.tables e below (s₁.setTop (mkF m 54 #[.val (.int kc), .val (.double wk), .second, .val (.double pv), .second, .val (.double nx), .second, .val (.double pm), .second, .val (.int mo)] [(.int k53)])) _
        refine XS.ifNo X0.here hx rfl (hb hby d5_54) rfl (XT.i0_ne_f e53) ?_
        show Steps p.tables e below (s₁.setTop (mkF m 57 #[.val (.int kc), .val (.double wk), .second, .val (.double pv), .second, .val (.double nx), .second, .val (.double pm), .second, .val (.int mo)] [])) _
        refine XS.iconst X0.here hx rfl (hb hby d5_57) ?_
        show Steps p.tables e below (s₁.setTop (mkF m 58 #[.val (.int kc), .val (.double wk), .second, .val (.double pv), .second, .val (.double nx), .second, .val (.double pm), .second, .val (.int mo)] [(.int (1 : Int32))])) _
        refine XS.goto X0.here hx rfl (pc0 := 58) (pc' := 62) rfl (hb hby d5_58) (by decide) (by decide) ?_
        show Steps p.tables e below (s₁.setTop (mkF m 62 #[.val (.int kc), .val (.double wk), .second, .val (.double pv), .second, .val (.double nx), .second, .val (.double pm), .second, .val (.int mo)] [(.int (1 : Int32))])) _
        exact k)
      obtain ⟨fs, hr, hrun, hended, hW, hsame⟩ := X0.leave (v := (some (.int (1 : Int32)))) (fun h => by rw [Bd.returns] at h; cases h)
      refine ⟨_, _, pre0 _ (c5 _ (retN X0 hx (t := .boolean) Bd.returns (by simp) (hb hby d5_62) hr)), hrun, hended, _, _, rfl, ?_, ⟨_, rfl⟩, hW, hsame.mono (by decide) (by decide)⟩
      show Q_ok Z kc wk pv nx pm mo h0 n0 _ s₁.heap _
      rw [e0]
      exact ⟨rfl, N0, rfl⟩
theorem ef_0 (m : MethodId) (p1 : Int32) (p2 : Int32) : entryFrame m #[(.int p1), (.int p2)] maxLocals = (mkF m 0 #[.val (.int p1), .val (.int p2), .unset, .unset, .unset, .unset, .unset, .unset, .unset, .unset, .unset, .unset, .unset, .unset, .unset, .unset, .unset, .unset, .unset, .unset, .unset, .unset, .unset] []) := by first | (simp [entryFrame, mkF, argsToLocals, Value.category, maxLocals]; done) | rfl
def Q_0 (Z : State) (p1 : Int32) (p2 : Int32) (h0 : Heap) (n0 : Nat) (v : Option Value) (h : Heap) (L : List Loc) : Prop := v = some (.int 1) ∧ Fr n0 L
set_option maxRecDepth 65536 in
set_option maxHeartbeats 2000000 in
theorem rm_0 (l : Launch) (Z : State) (a0 : Array Value) (hw : ∀ d ∈ tables_1, d.before a0 Z = true) (ws : List Jvm.Cond) (p1 : Int32) (p2 : Int32) (h0 : Heap) (n0 : Nat) (Z0 : n0 ≤ h0.size)  :
    MetFree l x (head1 (Jvm.Cond.code x code maxLocals ret :: ws) room_1) (fun aa UU => aa = #[(.int p1), (.int p2)] ∧ Z.Warmed39 UU.vm ∧ UU.heap = h0) (fun _ _ _ _ _ => True) (fun _ UU oo UU' => ∃ v L, oo = .returned v ∧ Q_0 Z p1 p2 h0 n0 v UU'.heap L ∧ FrameEnd UU oo UU' L 16 2944) := by
  refine MetFree.of_bodySF (plainFor_of_name pn_com_example_topple_topple_markov_PoissonWeightsNextPinLaw) hisR ?_
  intro p e s m args below meth c s₁ Bd hml0 hP hK
  obtain ⟨rfl, hZ, hh⟩ := hP
  have hx := Bd.exec
  have hby := Bd.bytes
  have hml : c.maxLocals = 23 := hml0
  have hown : s.vm.findClass "com/example/topple/topple/markov/PoissonWeightsNextPinLaw" = some m.cls := findClass_of_methodNamed Bd.named
  have hnaM := (name_of_methodNamed Bd.named Bd.method).1
  have X0 : Stand p l e room_1 s m #[(.int p1), (.int p2)] below meth c s₁ [] 0 0 := Stand.of_body Bd
  have e0 : s₁.heap = h0 := by rw [← hh, Bd.state]; rfl
  have N0 := Fr.nil n0
  have pre0 : ∀ t, Steps p.tables e below (s₁.setTop (entryFrame m #[(.int p1), (.int p2)] maxLocals)) t → Steps p.tables e below (s₁.setTop (entryFrame m #[(.int p1), (.int p2)] maxLocals)) t := fun t k => k
  have c0 : ∀ t, Steps p.tables e below (s₁.setTop (mkF m 0 #[.val (.int p1), .val (.int p2), .unset, .unset, .unset, .unset, .unset, .unset, .unset, .unset, .unset, .unset, .unset, .unset, .unset, .unset, .unset, .unset, .unset, .unset, .unset, .unset, .unset] [])) t → Steps p.tables e below (s₁.setTop (entryFrame m #[(.int p1), (.int p2)] maxLocals)) t := fun t k => castTop (ef_0 m p1 p2) k
  have c1 : ∀ t, Steps p.tables e below (s₁.setTop (mkF m 3 #[.val (.int p1), .val (.int p2), .unset, .unset, .unset, .unset, .unset, .unset, .unset, .unset, .unset, .unset, .unset, .unset, .unset, .unset, .unset, .unset, .unset, .unset, .unset, .unset, .unset] [(.int (p2 &&& (1 : Int32)))])) t → Steps p.tables e below (s₁.setTop (entryFrame m #[(.int p1), (.int p2)] maxLocals)) t := fun t k => c0 t (by
    show Steps p.tables e below (s₁.setTop (mkF m 0 #[.val (.int p1), .val (.int p2), .unset, .unset, .unset, .unset, .unset, .unset, .unset, .unset, .unset, .unset, .unset, .unset, .unset, .unset, .unset, .unset, .unset, .unset, .unset, .unset, .unset] [])) _
    refine XS.iloadN X0.here hx rfl (hb hby at_0) rfl ?_
    show Steps p.tables e below (s₁.setTop (mkF m 1 #[.val (.int p1), .val (.int p2), .unset, .unset, .unset, .unset, .unset, .unset, .unset, .unset, .unset, .unset, .unset, .unset, .unset, .unset, .unset, .unset, .unset, .unset, .unset, .unset, .unset] [(.int p2)])) _
    refine XS.iconst X0.here hx rfl (hb hby at_1) ?_
    show Steps p.tables e below (s₁.setTop (mkF m 2 #[.val (.int p1), .val (.int p2), .unset, .unset, .unset, .unset, .unset, .unset, .unset, .unset, .unset, .unset, .unset, .unset, .unset, .unset, .unset, .unset, .unset, .unset, .unset, .unset, .unset] [(.int (1 : Int32)), (.int p2)])) _
    refine XS.iand X0.here hx rfl (hb hby at_2) rfl ?_
    show Steps p.tables e below (s₁.setTop (mkF m 3 #[.val (.int p1), .val (.int p2), .unset, .unset, .unset, .unset, .unset, .unset, .unset, .unset, .unset, .unset, .unset, .unset, .unset, .unset, .unset, .unset, .unset, .unset, .unset, .unset, .unset] [(.int (p2 &&& (1 : Int32)))])) _
    exact k)
  by_cases qa : (p2 &&& (1 : Int32)) = 0
  · skip
    obtain ⟨j0, hj0, et⟩ := j_k p1
    obtain ⟨j, rfl⟩ : ∃ j : Fin 16, j0 = j.val := ⟨⟨j0, hj0⟩, rfl⟩
    have hj1 := j.isLt
    have c2 : ∀ t, Steps p.tables e below (s₁.setTop (mkF m 47 #[.val (.int p1), .val (.int p2), .val (.int (0 : Int32)), .unset, .unset, .unset, .unset, .unset, .unset, .unset, .unset, .unset, .unset, .unset, .unset, .unset, .unset, .unset, .unset, .unset, .unset, .unset, .unset] [(.int (Int32.ofNat j.val))])) t → Steps p.tables e below (s₁.setTop (entryFrame m #[(.int p1), (.int p2)] maxLocals)) t := fun t k => c1 t (by
      rw [← et] at k
      show Steps p.tables e below (s₁.setTop (mkF m 3 #[.val (.int p1), .val (.int p2), .unset, .unset, .unset, .unset, .unset, .unset, .unset, .unset, .unset, .unset, .unset, .unset, .unset, .unset, .unset, .unset, .unset, .unset, .unset, .unset, .unset] [(.int (p2 &&& (1 : Int32)))])) _
      refine XS.ifYes X0.here hx rfl (pc0 := 3) (pc' := 10) rfl (hb hby at_3) rfl (XT.i0_eq_t qa) (by decide) (by decide) ?_
      show Steps p.tables e below (s₁.setTop (mkF m 10 #[.val (.int p1), .val (.int p2), .unset, .unset, .unset, .unset, .unset, .unset, .unset, .unset, .unset, .unset, .unset, .unset, .unset, .unset, .unset, .unset, .unset, .unset, .unset, .unset, .unset] [])) _
      refine XS.iconst X0.here hx rfl (hb hby at_10) ?_
      show Steps p.tables e below (s₁.setTop (mkF m 11 #[.val (.int p1), .val (.int p2), .unset, .unset, .unset, .unset, .unset, .unset, .unset, .unset, .unset, .unset, .unset, .unset, .unset, .unset, .unset, .unset, .unset, .unset, .unset, .unset, .unset] [(.int (0 : Int32))])) _
      refine XS.istoreN X0.here hx rfl (hb hby at_11) rfl (l' := #[.val (.int p1), .val (.int p2), .val (.int (0 : Int32)), .unset, .unset, .unset, .unset, .unset, .unset, .unset, .unset, .unset, .unset, .unset, .unset, .unset, .unset, .unset, .unset, .unset, .unset, .unset, .unset]) rfl ?_
      show Steps p.tables e below (s₁.setTop (mkF m 12 #[.val (.int p1), .val (.int p2), .val (.int (0 : Int32)), .unset, .unset, .unset, .unset, .unset, .unset, .unset, .unset, .unset, .unset, .unset, .unset, .unset, .unset, .unset, .unset, .unset, .unset, .unset, .unset] [])) _
      refine XS.iloadN X0.here hx rfl (hb hby at_12) rfl ?_
      show Steps p.tables e below (s₁.setTop (mkF m 13 #[.val (.int p1), .val (.int p2), .val (.int (0 : Int32)), .unset, .unset, .unset, .unset, .unset, .unset, .unset, .unset, .unset, .unset, .unset, .unset, .unset, .unset, .unset, .unset, .unset, .unset, .unset, .unset] [(.int (0 : Int32))])) _
      refine XS.ifYes X0.here hx rfl (pc0 := 13) (pc' := 43) rfl (hb hby at_13) rfl (XT.i0_eq_t (by decide)) (by decide) (by decide) ?_
      show Steps p.tables e below (s₁.setTop (mkF m 43 #[.val (.int p1), .val (.int p2), .val (.int (0 : Int32)), .unset, .unset, .unset, .unset, .unset, .unset, .unset, .unset, .unset, .unset, .unset, .unset, .unset, .unset, .unset, .unset, .unset, .unset, .unset, .unset] [])) _
      refine XS.iloadN X0.here hx rfl (hb hby at_43) rfl ?_
      show Steps p.tables e below (s₁.setTop (mkF m 44 #[.val (.int p1), .val (.int p2), .val (.int (0 : Int32)), .unset, .unset, .unset, .unset, .unset, .unset, .unset, .unset, .unset, .unset, .unset, .unset, .unset, .unset, .unset, .unset, .unset, .unset, .unset, .unset] [(.int p1)])) _
      refine XS.bipush X0.here hx rfl (hb hby at_44) ?_
      show Steps p.tables e below (s₁.setTop (mkF m 46 #[.val (.int p1), .val (.int p2), .val (.int (0 : Int32)), .unset, .unset, .unset, .unset, .unset, .unset, .unset, .unset, .unset, .unset, .unset, .unset, .unset, .unset, .unset, .unset, .unset, .unset, .unset, .unset] [(.int (15 : Int32)), (.int p1)])) _
      refine XS.iand X0.here hx rfl (hb hby at_46) rfl ?_
      show Steps p.tables e below (s₁.setTop (mkF m 47 #[.val (.int p1), .val (.int p2), .val (.int (0 : Int32)), .unset, .unset, .unset, .unset, .unset, .unset, .unset, .unset, .unset, .unset, .unset, .unset, .unset, .unset, .unset, .unset, .unset, .unset, .unset, .unset] [(.int (p1 &&& (15 : Int32)))])) _
      exact k)
    obtain ⟨d47, hd47⟩ : ∃ v : UInt64, FP.i2d (Int32.ofNat j.val) = v := ⟨_, rfl⟩
    have u51 : FP.ddiv d47 (4611686018427387904 : UInt64) = mnF j.val := by rw [← hd47]; rfl
    have c3 : ∀ t, Steps p.tables e below (s₁.setTop (mkF m 53 #[.val (.int p1), .val (.int p2), .val (.int (0 : Int32)), .val (.double (mnF j.val)), .second, .unset, .unset, .unset, .unset, .unset, .unset, .unset, .unset, .unset, .unset, .unset, .unset, .unset, .unset, .unset, .unset, .unset, .unset] [])) t → Steps p.tables e below (s₁.setTop (entryFrame m #[(.int p1), (.int p2)] maxLocals)) t := fun t k => c2 t (by
      show Steps p.tables e below (s₁.setTop (mkF m 47 #[.val (.int p1), .val (.int p2), .val (.int (0 : Int32)), .unset, .unset, .unset, .unset, .unset, .unset, .unset, .unset, .unset, .unset, .unset, .unset, .unset, .unset, .unset, .unset, .unset, .unset, .unset, .unset] [(.int (Int32.ofNat j.val))])) _
      refine XS.i2dS X0.here hx rfl (hb hby at_47) rfl hd47 ?_
      show Steps p.tables e below (s₁.setTop (mkF m 48 #[.val (.int p1), .val (.int p2), .val (.int (0 : Int32)), .unset, .unset, .unset, .unset, .unset, .unset, .unset, .unset, .unset, .unset, .unset, .unset, .unset, .unset, .unset, .unset, .unset, .unset, .unset, .unset] [(.double d47)])) _
      refine Jvm.Stand.ldc2DoubleC X0 hx hown (mvT hZ (hw _ (List.mem_of_getElem? (i := 0) rfl))) (g := (mkF m 48 #[.val (.int p1), .val (.int p2), .val (.int (0 : Int32)), .unset, .unset, .unset, .unset, .unset, .unset, .unset, .unset, .unset, .unset, .unset, .unset, .unset, .unset, .unset, .unset, .unset, .unset, .unset, .unset] [(.double d47)])) rfl (hb hby at_48) _ ?_
      show Steps p.tables e below (s₁.setTop (mkF m 51 #[.val (.int p1), .val (.int p2), .val (.int (0 : Int32)), .unset, .unset, .unset, .unset, .unset, .unset, .unset, .unset, .unset, .unset, .unset, .unset, .unset, .unset, .unset, .unset, .unset, .unset, .unset, .unset] [(.double (4611686018427387904 : UInt64)), (.double d47)])) _
      refine XS.ddivS X0.here hx rfl (hb hby at_51) rfl (u51 ▸ (nn_of (mn_nn j))) u51 ?_
      show Steps p.tables e below (s₁.setTop (mkF m 52 #[.val (.int p1), .val (.int p2), .val (.int (0 : Int32)), .unset, .unset, .unset, .unset, .unset, .unset, .unset, .unset, .unset, .unset, .unset, .unset, .unset, .unset, .unset, .unset, .unset, .unset, .unset, .unset] [(.double (mnF j.val))])) _
      refine XS.dstoreN X0.here hx rfl (hb hby at_52) rfl (l' := #[.val (.int p1), .val (.int p2), .val (.int (0 : Int32)), .val (.double (mnF j.val)), .second, .unset, .unset, .unset, .unset, .unset, .unset, .unset, .unset, .unset, .unset, .unset, .unset, .unset, .unset, .unset, .unset, .unset, .unset]) rfl ?_
      show Steps p.tables e below (s₁.setTop (mkF m 53 #[.val (.int p1), .val (.int p2), .val (.int (0 : Int32)), .val (.double (mnF j.val)), .second, .unset, .unset, .unset, .unset, .unset, .unset, .unset, .unset, .unset, .unset, .unset, .unset, .unset, .unset, .unset, .unset, .unset, .unset] [])) _
      exact k)
    obtain ⟨T4, h4, X4, e4, E4, A4, D4, -, st4⟩ := newO X0 hx hZ hown (hw _ (List.mem_of_getElem? (i := 1) rfl)) (hw _ (List.mem_of_getElem? (i := 2) rfl)) (hw _ (List.mem_of_getElem? (i := 3) rfl)) e0 (g := (mkF m 53 #[.val (.int p1), .val (.int p2), .val (.int (0 : Int32)), .val (.double (mnF j.val)), .second, .unset, .unset, .unset, .unset, .unset, .unset, .unset, .unset, .unset, .unset, .unset, .unset, .unset, .unset, .unset, .unset, .unset, .unset] [])) rfl (hb hby at_53) (by decide) (by decide)
    obtain ⟨ob, g4⟩ : ∃ z, z = h0.size := ⟨_, rfl⟩
    rw [← g4] at A4 D4 st4
    have F5 : Fld Z h4 ob "com/example/topple/topple/markov/PoissonWeights" "count" "I" (.int (0 : Int32)) := (D4 (Or.inl (hw _ (List.mem_of_getElem? (i := 11) rfl))) (ty := .int) (by decide))
    have F6 : Fld Z h4 ob "com/example/topple/topple/markov/PoissonWeights" "mean" "D" (.double (0 : UInt64)) := (D4 (Or.inr (hw _ (List.mem_of_getElem? (i := 13) rfl))) (ty := .double) (by decide))
    have F7 : Fld Z h4 ob "com/example/topple/topple/markov/PoissonWeights" "mode" "I" (.int (0 : Int32)) := (D4 (Or.inr (hw _ (List.mem_of_getElem? (i := 15) rfl))) (ty := .int) (by decide))
    have F8 : Fld Z h4 ob "com/example/topple/topple/markov/PoissonWeights" "fewest" "I" (.int (0 : Int32)) := (D4 (Or.inr (hw _ (List.mem_of_getElem? (i := 18) rfl))) (ty := .int) (by decide))
    have F9 : Fld Z h4 ob "com/example/topple/topple/markov/PoissonWeights" "toMode" "[D" .null := (D4 (Or.inr (hw _ (List.mem_of_getElem? (i := 21) rfl))) (ty := (.array .double)) (by decide))
    have F10 : Fld Z h4 ob "com/example/topple/topple/markov/PoissonWeights" "weight" "D" (.double (0 : UInt64)) := (D4 (Or.inl (hw _ (List.mem_of_getElem? (i := 28) rfl))) (ty := .double) (by decide))
    have c11 : ∀ t, Steps p.tables e below (T4.setTop (mkF m 56 #[.val (.int p1), .val (.int p2), .val (.int (0 : Int32)), .val (.double (mnF j.val)), .second, .unset, .unset, .unset, .unset, .unset, .unset, .unset, .unset, .unset, .unset, .unset, .unset, .unset, .unset, .unset, .unset, .unset, .unset] [(.ref ob)])) t → Steps p.tables e below (s₁.setTop (entryFrame m #[(.int p1), (.int p2)] maxLocals)) t := fun t k => c3 t (st4 _ k)
    have c12 : ∀ t, Steps p.tables e below (T4.setTop (mkF m 58 #[.val (.int p1), .val (.int p2), .val (.int (0 : Int32)), .val (.double (mnF j.val)), .second, .unset, .unset, .unset, .unset, .unset, .unset, .unset, .unset, .unset, .unset, .unset, .unset, .unset, .unset, .unset, .unset, .unset, .unset] [(.double (mnF j.val)), (.ref ob), (.ref ob)])) t → Steps p.tables e below (s₁.setTop (entryFrame m #[(.int p1), (.int p2)] maxLocals)) t := fun t k => c11 t (by
      show Steps p.tables e below (T4.setTop (mkF m 56 #[.val (.int p1), .val (.int p2), .val (.int (0 : Int32)), .val (.double (mnF j.val)), .second, .unset, .unset, .unset, .unset, .unset, .unset, .unset, .unset, .unset, .unset, .unset, .unset, .unset, .unset, .unset, .unset, .unset, .unset] [(.ref ob)])) _
      refine XS.dup X4.here hx rfl (hb hby at_56) rfl rfl ?_
      show Steps p.tables e below (T4.setTop (mkF m 57 #[.val (.int p1), .val (.int p2), .val (.int (0 : Int32)), .val (.double (mnF j.val)), .second, .unset, .unset, .unset, .unset, .unset, .unset, .unset, .unset, .unset, .unset, .unset, .unset, .unset, .unset, .unset, .unset, .unset, .unset] [(.ref ob), (.ref ob)])) _
      refine XS.dloadN X4.here hx rfl (hb hby at_57) rfl ?_
      show Steps p.tables e below (T4.setTop (mkF m 58 #[.val (.int p1), .val (.int p2), .val (.int (0 : Int32)), .val (.double (mnF j.val)), .second, .unset, .unset, .unset, .unset, .unset, .unset, .unset, .unset, .unset, .unset, .unset, .unset, .unset, .unset, .unset, .unset, .unset, .unset] [(.double (mnF j.val)), (.ref ob), (.ref ob)])) _
      exact k)
    obtain ⟨_, _, ⟨T13, L13, k13', n13⟩, -, X13, ⟨Lc13, hQ13, l13, y13, z13⟩, st13⟩ := X4.specialBack hx (y := (⟨"com/example/topple/topple/markov/PoissonWeights", "<init>", "(D)V"⟩ : MethodName)) rfl hown (mvT hZ (hw _ (List.mem_of_getElem? (i := 4) rfl))) (mvT hZ (hw _ (List.mem_of_getElem? (i := 5) rfl))) (mvT hZ (hw _ (List.mem_of_getElem? (i := 6) rfl))) (by decide) (backOf (W := 1) (rm_ct l Z a0 hw [] ob (mnF j.val) (j.val / 2) 0 (prF j.val) (tmF j.val) h4 n0 (Nat.le_trans Z0 E4.1) A4 F5 F6 F7 F8 F9 F10 (Nat.le_trans Z0 (Nat.le_of_eq g4.symm)) (by omega) (Nat.zero_le _) (by omega) (mn_md j) rfl (fun k hk => by
          obtain ⟨x1, x2, x3⟩ := hp_c j ⟨k, by omega⟩ hk
          exact ⟨nn_of x1, rfl, nn_of x2, x3⟩) (Or.inl rfl) rfl (fun k hk => by
          obtain ⟨x1, x2⟩ := ht_c j ⟨k, by omega⟩ hk
          exact ⟨nn_of x1, nn_of x2, rfl⟩)) hZ (hw _ (List.mem_of_getElem? (i := 6) rfl)) (hw _ (List.mem_of_getElem? (i := 3) rfl)) (by decide) (by decide)) (g := (mkF m 58 #[.val (.int p1), .val (.int p2), .val (.int (0 : Int32)), .val (.double (mnF j.val)), .second, .unset, .unset, .unset, .unset, .unset, .unset, .unset, .unset, .unset, .unset, .unset, .unset, .unset, .unset, .unset, .unset, .unset, .unset] [(.double (mnF j.val)), (.ref ob), (.ref ob)])) rfl (by rw [hml]; rfl) (Steps.refl _) (a := ob) (argsL := [(.double (mnF j.val))]) (rest := [(.ref ob)]) (lenOf pd__D_V rfl) rfl (by show 2 * 0 + _ ≤ _; exact Nat.le_of_eq rfl) (hb hby at_58) (fun _ _ => ⟨rfl, e4, (by decide : 1 + 1 ≤ _), (by decide : 6 + 2000 ≤ _)⟩)
    dsimp only [Pt.U, Pt.locs, Pt.cells, Pt.slots] at X13 l13 y13 z13 st13 hQ13
    subst l13 y13 z13
    obtain ⟨ta, rfl, N13, K13, ne13, G13_0, G13_1, G13_2, G13_3, G13_4, G13_5, G13_6, G13_7⟩ := hQ13
    have M13 := Fr.app N0 N13
    have F14 : Exa Z T13.heap ob "com/example/topple/topple/markov/PoissonWeights" := (A4.keep K13)
    have c15 : ∀ t, Steps p.tables e below (T13.setTop (mkF m 61 #[.val (.int p1), .val (.int p2), .val (.int (0 : Int32)), .val (.double (mnF j.val)), .second, .unset, .unset, .unset, .unset, .unset, .unset, .unset, .unset, .unset, .unset, .unset, .unset, .unset, .unset, .unset, .unset, .unset, .unset] [(.ref ob)])) t → Steps p.tables e below (s₁.setTop (entryFrame m #[(.int p1), (.int p2)] maxLocals)) t := fun t k => c12 t (st13.trans k)
    have c16 : ∀ t, Steps p.tables e below (T13.setTop (mkF m 65 #[.val (.int p1), .val (.int p2), .val (.int (0 : Int32)), .val (.double (mnF j.val)), .second, .val (.ref ob), .unset, .unset, .unset, .unset, .unset, .unset, .unset, .unset, .unset, .unset, .unset, .unset, .unset, .unset, .unset, .unset, .unset] [(.ref ob)])) t → Steps p.tables e below (s₁.setTop (entryFrame m #[(.int p1), (.int p2)] maxLocals)) t := fun t k => c15 t (by
      show Steps p.tables e below (T13.setTop (mkF m 61 #[.val (.int p1), .val (.int p2), .val (.int (0 : Int32)), .val (.double (mnF j.val)), .second, .unset, .unset, .unset, .unset, .unset, .unset, .unset, .unset, .unset, .unset, .unset, .unset, .unset, .unset, .unset, .unset, .unset, .unset] [(.ref ob)])) _
      refine XS.astore X13.here hx rfl (hb hby at_61) rfl rfl (l' := #[.val (.int p1), .val (.int p2), .val (.int (0 : Int32)), .val (.double (mnF j.val)), .second, .val (.ref ob), .unset, .unset, .unset, .unset, .unset, .unset, .unset, .unset, .unset, .unset, .unset, .unset, .unset, .unset, .unset, .unset, .unset]) rfl ?_
      show Steps p.tables e below (T13.setTop (mkF m 63 #[.val (.int p1), .val (.int p2), .val (.int (0 : Int32)), .val (.double (mnF j.val)), .second, .val (.ref ob), .unset, .unset, .unset, .unset, .unset, .unset, .unset, .unset, .unset, .unset, .unset, .unset, .unset, .unset, .unset, .unset, .unset] [])) _
      refine XS.aload X13.here hx rfl (hb hby at_63) rfl rfl ?_
      show Steps p.tables e below (T13.setTop (mkF m 65 #[.val (.int p1), .val (.int p2), .val (.int (0 : Int32)), .val (.double (mnF j.val)), .second, .val (.ref ob), .unset, .unset, .unset, .unset, .unset, .unset, .unset, .unset, .unset, .unset, .unset, .unset, .unset, .unset, .unset, .unset, .unset] [(.ref ob)])) _
      exact k)
    obtain ⟨cq17, kq17, q17a, q17b, q17c⟩ := isOf hZ rfl G13_0
    obtain ⟨_, _, ⟨T17, L17, k17', n17⟩, -, X17, ⟨Lc17, hQ17, l17, y17, z17⟩, st17⟩ := X13.virtualBack hx (y := (⟨"com/example/topple/topple/markov/PoissonWeights", "next", "()D"⟩ : MethodName)) (z := (⟨"com/example/topple/topple/markov/PoissonWeights", "next", "()D"⟩ : MethodName)) hown (mvT hZ (hw _ (List.mem_of_getElem? (i := 22) rfl))) (mvT hZ (hw _ (List.mem_of_getElem? (i := 23) rfl))) (notFace_of_selects (args := #[]) (mvT hZ (hw _ (List.mem_of_getElem? (i := 25) rfl)))) (mvT hZ (hw _ (List.mem_of_getElem? (i := 25) rfl))) (mvT hZ (hw _ (List.mem_of_getElem? (i := 24) rfl))) (by decide) (backOf (W := 0) (rm_nx l Z a0 hw [] ob ta (mnF j.val) (-1 : Int32) (0 : Int32) (Int32.ofNat (j.val / 2)) (Int32.ofNat 0) (0 : UInt64) (WF j.val 0) (j.val / 2 - 0 + 1) 0 (fun i => tmF j.val (j.val / 2 - 0 - i)) T13.heap n0 (Nat.le_trans (Nat.le_trans Z0 E4.1) K13.1) G13_0 G13_1 G13_2 G13_3 G13_4 G13_5 G13_6 (Nat.le_trans Z0 (Nat.le_of_eq g4.symm)) (by decide) ne13 G13_7 (by decide) (nlo_0 j) (fun q => by
          obtain ⟨x1, x2, x3⟩ := nhi_0 j q
          exact ⟨nn_of x1, nn_of x2, x3⟩)) hZ (hw _ (List.mem_of_getElem? (i := 26) rfl)) (hw _ (List.mem_of_getElem? (i := 3) rfl)) (by decide) (by decide)) q17a q17c (g := (mkF m 65 #[.val (.int p1), .val (.int p2), .val (.int (0 : Int32)), .val (.double (mnF j.val)), .second, .val (.ref ob), .unset, .unset, .unset, .unset, .unset, .unset, .unset, .unset, .unset, .unset, .unset, .unset, .unset, .unset, .unset, .unset, .unset] [(.ref ob)])) rfl (by rw [hml]; rfl) (Steps.refl _) (argsL := []) (rest := []) (lenOf pd___D rfl) rfl (by show 2 * 0 + _ ≤ _; exact Nat.le_of_eq rfl) (hb hby at_65) (fun _ _ => ⟨rfl, rfl, (by decide : 2 + 0 ≤ _), (by decide : 2006 + 0 ≤ _)⟩)
    dsimp only [Pt.U, Pt.locs, Pt.cells, Pt.slots] at X17 l17 y17 z17 st17 hQ17
    subst l17 y17 z17
    obtain ⟨rfl, N17, K17, G17_0, G17_1, G17_2, G17_3, G17_4, G17_5, G17_6⟩ := hQ17
    have M17 := Fr.app M13 N17
    have F18 : Exa Z T17.heap ob "com/example/topple/topple/markov/PoissonWeights" := (G13_0.keep K17)
    have F19 : OwnArr.Ag Z T17.heap ta .double (j.val / 2 - 0 + 1) (fun i => .double (tmF j.val (j.val / 2 - 0 - i))) := (G13_7.keep K17 (ninS ne13 nin0))
    have c20 : ∀ t, Steps p.tables e below (T17.setTop (mkF m 68 #[.val (.int p1), .val (.int p2), .val (.int (0 : Int32)), .val (.double (mnF j.val)), .second, .val (.ref ob), .unset, .unset, .unset, .unset, .unset, .unset, .unset, .unset, .unset, .unset, .unset, .unset, .unset, .unset, .unset, .unset, .unset] [(.double (WF j.val 0))])) t → Steps p.tables e below (s₁.setTop (entryFrame m #[(.int p1), (.int p2)] maxLocals)) t := fun t k => c16 t (st17.trans k)
    have c21 : ∀ t, Steps p.tables e below (T17.setTop (mkF m 72 #[.val (.int p1), .val (.int p2), .val (.int (0 : Int32)), .val (.double (mnF j.val)), .second, .val (.ref ob), .val (.double (WF j.val 0)), .second, .unset, .unset, .unset, .unset, .unset, .unset, .unset, .unset, .unset, .unset, .unset, .unset, .unset, .unset, .unset] [(.ref ob)])) t → Steps p.tables e below (s₁.setTop (entryFrame m #[(.int p1), (.int p2)] maxLocals)) t := fun t k => c20 t (by
      show Steps p.tables e below (T17.setTop (mkF m 68 #[.val (.int p1), .val (.int p2), .val (.int (0 : Int32)), .val (.double (mnF j.val)), .second, .val (.ref ob), .unset, .unset, .unset, .unset, .unset, .unset, .unset, .unset, .unset, .unset, .unset, .unset, .unset, .unset, .unset, .unset, .unset] [(.double (WF j.val 0))])) _
      refine XS.dstore X17.here hx rfl (hb hby at_68) rfl (l' := #[.val (.int p1), .val (.int p2), .val (.int (0 : Int32)), .val (.double (mnF j.val)), .second, .val (.ref ob), .val (.double (WF j.val 0)), .second, .unset, .unset, .unset, .unset, .unset, .unset, .unset, .unset, .unset, .unset, .unset, .unset, .unset, .unset, .unset]) rfl ?_
      show Steps p.tables e below (T17.setTop (mkF m 70 #[.val (.int p1), .val (.int p2), .val (.int (0 : Int32)), .val (.double (mnF j.val)), .second, .val (.ref ob), .val (.double (WF j.val 0)), .second, .unset, .unset, .unset, .unset, .unset, .unset, .unset, .unset, .unset, .unset, .unset, .unset, .unset, .unset, .unset] [])) _
      refine XS.aload X17.here hx rfl (hb hby at_70) rfl rfl ?_
      show Steps p.tables e below (T17.setTop (mkF m 72 #[.val (.int p1), .val (.int p2), .val (.int (0 : Int32)), .val (.double (mnF j.val)), .second, .val (.ref ob), .val (.double (WF j.val 0)), .second, .unset, .unset, .unset, .unset, .unset, .unset, .unset, .unset, .unset, .unset, .unset, .unset, .unset, .unset, .unset] [(.ref ob)])) _
      exact k)
    obtain ⟨cq22, kq22, q22a, q22b, q22c⟩ := isOf hZ rfl G17_0
    obtain ⟨_, _, ⟨T22, L22, k22', n22⟩, -, X22, ⟨Lc22, hQ22, l22, y22, z22⟩, st22⟩ := X17.virtualBack hx (y := (⟨"com/example/topple/topple/markov/PoissonWeights", "next", "()D"⟩ : MethodName)) (z := (⟨"com/example/topple/topple/markov/PoissonWeights", "next", "()D"⟩ : MethodName)) hown (mvT hZ (hw _ (List.mem_of_getElem? (i := 22) rfl))) (mvT hZ (hw _ (List.mem_of_getElem? (i := 23) rfl))) (notFace_of_selects (args := #[]) (mvT hZ (hw _ (List.mem_of_getElem? (i := 25) rfl)))) (mvT hZ (hw _ (List.mem_of_getElem? (i := 25) rfl))) (mvT hZ (hw _ (List.mem_of_getElem? (i := 24) rfl))) (by decide) (backOf (W := 0) (rm_nx l Z a0 hw [] ob ta (mnF j.val) (0 : Int32) (1 : Int32) (Int32.ofNat (j.val / 2)) (Int32.ofNat 0) (WF j.val 0) (WF j.val 1) (j.val / 2 - 0 + 1) 1 (fun i => tmF j.val (j.val / 2 - 0 - i)) T17.heap n0 (Nat.le_trans (Nat.le_trans (Nat.le_trans Z0 E4.1) K13.1) K17.1) G17_0 G17_1 G17_2 G17_3 G17_4 G17_5 G17_6 (Nat.le_trans Z0 (Nat.le_of_eq g4.symm)) (by decide) ne13 F19 (by decide) (nlo_1 j) (fun q => by
          obtain ⟨x1, x2, x3⟩ := nhi_1 j q
          exact ⟨nn_of x1, nn_of x2, x3⟩)) hZ (hw _ (List.mem_of_getElem? (i := 26) rfl)) (hw _ (List.mem_of_getElem? (i := 3) rfl)) (by decide) (by decide)) q22a q22c (g := (mkF m 72 #[.val (.int p1), .val (.int p2), .val (.int (0 : Int32)), .val (.double (mnF j.val)), .second, .val (.ref ob), .val (.double (WF j.val 0)), .second, .unset, .unset, .unset, .unset, .unset, .unset, .unset, .unset, .unset, .unset, .unset, .unset, .unset, .unset, .unset] [(.ref ob)])) rfl (by rw [hml]; rfl) (Steps.refl _) (argsL := []) (rest := []) (lenOf pd___D rfl) rfl (by show 2 * 0 + _ ≤ _; exact Nat.le_of_eq rfl) (hb hby at_72) (fun _ _ => ⟨rfl, rfl, (by decide : 2 + 0 ≤ _), (by decide : 2006 + 0 ≤ _)⟩)
    dsimp only [Pt.U, Pt.locs, Pt.cells, Pt.slots] at X22 l22 y22 z22 st22 hQ22
    subst l22 y22 z22
    obtain ⟨rfl, N22, K22, G22_0, G22_1, G22_2, G22_3, G22_4, G22_5, G22_6⟩ := hQ22
    have M22 := Fr.app M17 N22
    have F23 : Exa Z T22.heap ob "com/example/topple/topple/markov/PoissonWeights" := (G17_0.keep K22)
    have F24 : OwnArr.Ag Z T22.heap ta .double (j.val / 2 - 0 + 1) (fun i => .double (tmF j.val (j.val / 2 - 0 - i))) := (F19.keep K22 (ninS ne13 nin0))
    have c25 : ∀ t, Steps p.tables e below (T22.setTop (mkF m 75 #[.val (.int p1), .val (.int p2), .val (.int (0 : Int32)), .val (.double (mnF j.val)), .second, .val (.ref ob), .val (.double (WF j.val 0)), .second, .unset, .unset, .unset, .unset, .unset, .unset, .unset, .unset, .unset, .unset, .unset, .unset, .unset, .unset, .unset] [(.double (WF j.val 1))])) t → Steps p.tables e below (s₁.setTop (entryFrame m #[(.int p1), (.int p2)] maxLocals)) t := fun t k => c21 t (st22.trans k)
    have c26 : ∀ t, Steps p.tables e below (T22.setTop (mkF m 79 #[.val (.int p1), .val (.int p2), .val (.int (0 : Int32)), .val (.double (mnF j.val)), .second, .val (.ref ob), .val (.double (WF j.val 0)), .second, .val (.double (WF j.val 1)), .second, .unset, .unset, .unset, .unset, .unset, .unset, .unset, .unset, .unset, .unset, .unset, .unset, .unset] [(.ref ob)])) t → Steps p.tables e below (s₁.setTop (entryFrame m #[(.int p1), (.int p2)] maxLocals)) t := fun t k => c25 t (by
      show Steps p.tables e below (T22.setTop (mkF m 75 #[.val (.int p1), .val (.int p2), .val (.int (0 : Int32)), .val (.double (mnF j.val)), .second, .val (.ref ob), .val (.double (WF j.val 0)), .second, .unset, .unset, .unset, .unset, .unset, .unset, .unset, .unset, .unset, .unset, .unset, .unset, .unset, .unset, .unset] [(.double (WF j.val 1))])) _
      refine XS.dstore X22.here hx rfl (hb hby at_75) rfl (l' := #[.val (.int p1), .val (.int p2), .val (.int (0 : Int32)), .val (.double (mnF j.val)), .second, .val (.ref ob), .val (.double (WF j.val 0)), .second, .val (.double (WF j.val 1)), .second, .unset, .unset, .unset, .unset, .unset, .unset, .unset, .unset, .unset, .unset, .unset, .unset, .unset]) rfl ?_
      show Steps p.tables e below (T22.setTop (mkF m 77 #[.val (.int p1), .val (.int p2), .val (.int (0 : Int32)), .val (.double (mnF j.val)), .second, .val (.ref ob), .val (.double (WF j.val 0)), .second, .val (.double (WF j.val 1)), .second, .unset, .unset, .unset, .unset, .unset, .unset, .unset, .unset, .unset, .unset, .unset, .unset, .unset] [])) _
      refine XS.aload X22.here hx rfl (hb hby at_77) rfl rfl ?_
      show Steps p.tables e below (T22.setTop (mkF m 79 #[.val (.int p1), .val (.int p2), .val (.int (0 : Int32)), .val (.double (mnF j.val)), .second, .val (.ref ob), .val (.double (WF j.val 0)), .second, .val (.double (WF j.val 1)), .second, .unset, .unset, .unset, .unset, .unset, .unset, .unset, .unset, .unset, .unset, .unset, .unset, .unset] [(.ref ob)])) _
      exact k)
    obtain ⟨cq27, kq27, q27a, q27b, q27c⟩ := isOf hZ rfl G22_0
    obtain ⟨_, _, ⟨T27, L27, k27', n27⟩, -, X27, ⟨Lc27, hQ27, l27, y27, z27⟩, st27⟩ := X22.virtualBack hx (y := (⟨"com/example/topple/topple/markov/PoissonWeights", "next", "()D"⟩ : MethodName)) (z := (⟨"com/example/topple/topple/markov/PoissonWeights", "next", "()D"⟩ : MethodName)) hown (mvT hZ (hw _ (List.mem_of_getElem? (i := 22) rfl))) (mvT hZ (hw _ (List.mem_of_getElem? (i := 23) rfl))) (notFace_of_selects (args := #[]) (mvT hZ (hw _ (List.mem_of_getElem? (i := 25) rfl)))) (mvT hZ (hw _ (List.mem_of_getElem? (i := 25) rfl))) (mvT hZ (hw _ (List.mem_of_getElem? (i := 24) rfl))) (by decide) (backOf (W := 0) (rm_nx l Z a0 hw [] ob ta (mnF j.val) (1 : Int32) (2 : Int32) (Int32.ofNat (j.val / 2)) (Int32.ofNat 0) (WF j.val 1) (WF j.val 2) (j.val / 2 - 0 + 1) 2 (fun i => tmF j.val (j.val / 2 - 0 - i)) T22.heap n0 (Nat.le_trans (Nat.le_trans (Nat.le_trans (Nat.le_trans Z0 E4.1) K13.1) K17.1) K22.1) G22_0 G22_1 G22_2 G22_3 G22_4 G22_5 G22_6 (Nat.le_trans Z0 (Nat.le_of_eq g4.symm)) (by decide) ne13 F24 (by decide) (nlo_2 j) (fun q => by
          obtain ⟨x1, x2, x3⟩ := nhi_2 j q
          exact ⟨nn_of x1, nn_of x2, x3⟩)) hZ (hw _ (List.mem_of_getElem? (i := 26) rfl)) (hw _ (List.mem_of_getElem? (i := 3) rfl)) (by decide) (by decide)) q27a q27c (g := (mkF m 79 #[.val (.int p1), .val (.int p2), .val (.int (0 : Int32)), .val (.double (mnF j.val)), .second, .val (.ref ob), .val (.double (WF j.val 0)), .second, .val (.double (WF j.val 1)), .second, .unset, .unset, .unset, .unset, .unset, .unset, .unset, .unset, .unset, .unset, .unset, .unset, .unset] [(.ref ob)])) rfl (by rw [hml]; rfl) (Steps.refl _) (argsL := []) (rest := []) (lenOf pd___D rfl) rfl (by show 2 * 0 + _ ≤ _; exact Nat.le_of_eq rfl) (hb hby at_79) (fun _ _ => ⟨rfl, rfl, (by decide : 2 + 0 ≤ _), (by decide : 2006 + 0 ≤ _)⟩)
    dsimp only [Pt.U, Pt.locs, Pt.cells, Pt.slots] at X27 l27 y27 z27 st27 hQ27
    subst l27 y27 z27
    obtain ⟨rfl, N27, K27, G27_0, G27_1, G27_2, G27_3, G27_4, G27_5, G27_6⟩ := hQ27
    have M27 := Fr.app M22 N27
    have F28 : Exa Z T27.heap ob "com/example/topple/topple/markov/PoissonWeights" := (G22_0.keep K27)
    have F29 : OwnArr.Ag Z T27.heap ta .double (j.val / 2 - 0 + 1) (fun i => .double (tmF j.val (j.val / 2 - 0 - i))) := (F24.keep K27 (ninS ne13 nin0))
    have c30 : ∀ t, Steps p.tables e below (T27.setTop (mkF m 82 #[.val (.int p1), .val (.int p2), .val (.int (0 : Int32)), .val (.double (mnF j.val)), .second, .val (.ref ob), .val (.double (WF j.val 0)), .second, .val (.double (WF j.val 1)), .second, .unset, .unset, .unset, .unset, .unset, .unset, .unset, .unset, .unset, .unset, .unset, .unset, .unset] [(.double (WF j.val 2))])) t → Steps p.tables e below (s₁.setTop (entryFrame m #[(.int p1), (.int p2)] maxLocals)) t := fun t k => c26 t (st27.trans k)
    have c31 : ∀ t, Steps p.tables e below (T27.setTop (mkF m 86 #[.val (.int p1), .val (.int p2), .val (.int (0 : Int32)), .val (.double (mnF j.val)), .second, .val (.ref ob), .val (.double (WF j.val 0)), .second, .val (.double (WF j.val 1)), .second, .val (.double (WF j.val 2)), .second, .unset, .unset, .unset, .unset, .unset, .unset, .unset, .unset, .unset, .unset, .unset] [(.ref ob)])) t → Steps p.tables e below (s₁.setTop (entryFrame m #[(.int p1), (.int p2)] maxLocals)) t := fun t k => c30 t (by
      show Steps p.tables e below (T27.setTop (mkF m 82 #[.val (.int p1), .val (.int p2), .val (.int (0 : Int32)), .val (.double (mnF j.val)), .second, .val (.ref ob), .val (.double (WF j.val 0)), .second, .val (.double (WF j.val 1)), .second, .unset, .unset, .unset, .unset, .unset, .unset, .unset, .unset, .unset, .unset, .unset, .unset, .unset] [(.double (WF j.val 2))])) _
      refine XS.dstore X27.here hx rfl (hb hby at_82) rfl (l' := #[.val (.int p1), .val (.int p2), .val (.int (0 : Int32)), .val (.double (mnF j.val)), .second, .val (.ref ob), .val (.double (WF j.val 0)), .second, .val (.double (WF j.val 1)), .second, .val (.double (WF j.val 2)), .second, .unset, .unset, .unset, .unset, .unset, .unset, .unset, .unset, .unset, .unset, .unset]) rfl ?_
      show Steps p.tables e below (T27.setTop (mkF m 84 #[.val (.int p1), .val (.int p2), .val (.int (0 : Int32)), .val (.double (mnF j.val)), .second, .val (.ref ob), .val (.double (WF j.val 0)), .second, .val (.double (WF j.val 1)), .second, .val (.double (WF j.val 2)), .second, .unset, .unset, .unset, .unset, .unset, .unset, .unset, .unset, .unset, .unset, .unset] [])) _
      refine XS.aload X27.here hx rfl (hb hby at_84) rfl rfl ?_
      show Steps p.tables e below (T27.setTop (mkF m 86 #[.val (.int p1), .val (.int p2), .val (.int (0 : Int32)), .val (.double (mnF j.val)), .second, .val (.ref ob), .val (.double (WF j.val 0)), .second, .val (.double (WF j.val 1)), .second, .val (.double (WF j.val 2)), .second, .unset, .unset, .unset, .unset, .unset, .unset, .unset, .unset, .unset, .unset, .unset] [(.ref ob)])) _
      exact k)
    obtain ⟨cq32, kq32, q32a, q32b, q32c⟩ := isOf hZ rfl G27_0
    obtain ⟨_, _, ⟨T32, L32, k32', n32⟩, -, X32, ⟨Lc32, hQ32, l32, y32, z32⟩, st32⟩ := X27.virtualBack hx (y := (⟨"com/example/topple/topple/markov/PoissonWeights", "next", "()D"⟩ : MethodName)) (z := (⟨"com/example/topple/topple/markov/PoissonWeights", "next", "()D"⟩ : MethodName)) hown (mvT hZ (hw _ (List.mem_of_getElem? (i := 22) rfl))) (mvT hZ (hw _ (List.mem_of_getElem? (i := 23) rfl))) (notFace_of_selects (args := #[]) (mvT hZ (hw _ (List.mem_of_getElem? (i := 25) rfl)))) (mvT hZ (hw _ (List.mem_of_getElem? (i := 25) rfl))) (mvT hZ (hw _ (List.mem_of_getElem? (i := 24) rfl))) (by decide) (backOf (W := 0) (rm_nx l Z a0 hw [] ob ta (mnF j.val) (2 : Int32) (3 : Int32) (Int32.ofNat (j.val / 2)) (Int32.ofNat 0) (WF j.val 2) (WF j.val 3) (j.val / 2 - 0 + 1) 3 (fun i => tmF j.val (j.val / 2 - 0 - i)) T27.heap n0 (Nat.le_trans (Nat.le_trans (Nat.le_trans (Nat.le_trans (Nat.le_trans Z0 E4.1) K13.1) K17.1) K22.1) K27.1) G27_0 G27_1 G27_2 G27_3 G27_4 G27_5 G27_6 (Nat.le_trans Z0 (Nat.le_of_eq g4.symm)) (by decide) ne13 F29 (by decide) (nlo_3 j) (fun q => by
          obtain ⟨x1, x2, x3⟩ := nhi_3 j q
          exact ⟨nn_of x1, nn_of x2, x3⟩)) hZ (hw _ (List.mem_of_getElem? (i := 26) rfl)) (hw _ (List.mem_of_getElem? (i := 3) rfl)) (by decide) (by decide)) q32a q32c (g := (mkF m 86 #[.val (.int p1), .val (.int p2), .val (.int (0 : Int32)), .val (.double (mnF j.val)), .second, .val (.ref ob), .val (.double (WF j.val 0)), .second, .val (.double (WF j.val 1)), .second, .val (.double (WF j.val 2)), .second, .unset, .unset, .unset, .unset, .unset, .unset, .unset, .unset, .unset, .unset, .unset] [(.ref ob)])) rfl (by rw [hml]; rfl) (Steps.refl _) (argsL := []) (rest := []) (lenOf pd___D rfl) rfl (by show 2 * 0 + _ ≤ _; exact Nat.le_of_eq rfl) (hb hby at_86) (fun _ _ => ⟨rfl, rfl, (by decide : 2 + 0 ≤ _), (by decide : 2006 + 0 ≤ _)⟩)
    dsimp only [Pt.U, Pt.locs, Pt.cells, Pt.slots] at X32 l32 y32 z32 st32 hQ32
    subst l32 y32 z32
    obtain ⟨rfl, N32, K32, G32_0, G32_1, G32_2, G32_3, G32_4, G32_5, G32_6⟩ := hQ32
    have M32 := Fr.app M27 N32
    have F33 : Exa Z T32.heap ob "com/example/topple/topple/markov/PoissonWeights" := (G27_0.keep K32)
    have F34 : OwnArr.Ag Z T32.heap ta .double (j.val / 2 - 0 + 1) (fun i => .double (tmF j.val (j.val / 2 - 0 - i))) := (F29.keep K32 (ninS ne13 nin0))
    have c35 : ∀ t, Steps p.tables e below (T32.setTop (mkF m 89 #[.val (.int p1), .val (.int p2), .val (.int (0 : Int32)), .val (.double (mnF j.val)), .second, .val (.ref ob), .val (.double (WF j.val 0)), .second, .val (.double (WF j.val 1)), .second, .val (.double (WF j.val 2)), .second, .unset, .unset, .unset, .unset, .unset, .unset, .unset, .unset, .unset, .unset, .unset] [(.double (WF j.val 3))])) t → Steps p.tables e below (s₁.setTop (entryFrame m #[(.int p1), (.int p2)] maxLocals)) t := fun t k => c31 t (st32.trans k)
    have c36 : ∀ t, Steps p.tables e below (T32.setTop (mkF m 93 #[.val (.int p1), .val (.int p2), .val (.int (0 : Int32)), .val (.double (mnF j.val)), .second, .val (.ref ob), .val (.double (WF j.val 0)), .second, .val (.double (WF j.val 1)), .second, .val (.double (WF j.val 2)), .second, .val (.double (WF j.val 3)), .second, .unset, .unset, .unset, .unset, .unset, .unset, .unset, .unset, .unset] [(.ref ob)])) t → Steps p.tables e below (s₁.setTop (entryFrame m #[(.int p1), (.int p2)] maxLocals)) t := fun t k => c35 t (by
      show Steps p.tables e below (T32.setTop (mkF m 89 #[.val (.int p1), .val (.int p2), .val (.int (0 : Int32)), .val (.double (mnF j.val)), .second, .val (.ref ob), .val (.double (WF j.val 0)), .second, .val (.double (WF j.val 1)), .second, .val (.double (WF j.val 2)), .second, .unset, .unset, .unset, .unset, .unset, .unset, .unset, .unset, .unset, .unset, .unset] [(.double (WF j.val 3))])) _
      refine XS.dstore X32.here hx rfl (hb hby at_89) rfl (l' := #[.val (.int p1), .val (.int p2), .val (.int (0 : Int32)), .val (.double (mnF j.val)), .second, .val (.ref ob), .val (.double (WF j.val 0)), .second, .val (.double (WF j.val 1)), .second, .val (.double (WF j.val 2)), .second, .val (.double (WF j.val 3)), .second, .unset, .unset, .unset, .unset, .unset, .unset, .unset, .unset, .unset]) rfl ?_
      show Steps p.tables e below (T32.setTop (mkF m 91 #[.val (.int p1), .val (.int p2), .val (.int (0 : Int32)), .val (.double (mnF j.val)), .second, .val (.ref ob), .val (.double (WF j.val 0)), .second, .val (.double (WF j.val 1)), .second, .val (.double (WF j.val 2)), .second, .val (.double (WF j.val 3)), .second, .unset, .unset, .unset, .unset, .unset, .unset, .unset, .unset, .unset] [])) _
      refine XS.aload X32.here hx rfl (hb hby at_91) rfl rfl ?_
      show Steps p.tables e below (T32.setTop (mkF m 93 #[.val (.int p1), .val (.int p2), .val (.int (0 : Int32)), .val (.double (mnF j.val)), .second, .val (.ref ob), .val (.double (WF j.val 0)), .second, .val (.double (WF j.val 1)), .second, .val (.double (WF j.val 2)), .second, .val (.double (WF j.val 3)), .second, .unset, .unset, .unset, .unset, .unset, .unset, .unset, .unset, .unset] [(.ref ob)])) _
      exact k)
    obtain ⟨cq37, kq37, q37a, q37b, q37c⟩ := isOf hZ rfl G32_0
    obtain ⟨_, _, ⟨T37, L37, k37', n37⟩, -, X37, ⟨Lc37, hQ37, l37, y37, z37⟩, st37⟩ := X32.virtualBack hx (y := (⟨"com/example/topple/topple/markov/PoissonWeights", "next", "()D"⟩ : MethodName)) (z := (⟨"com/example/topple/topple/markov/PoissonWeights", "next", "()D"⟩ : MethodName)) hown (mvT hZ (hw _ (List.mem_of_getElem? (i := 22) rfl))) (mvT hZ (hw _ (List.mem_of_getElem? (i := 23) rfl))) (notFace_of_selects (args := #[]) (mvT hZ (hw _ (List.mem_of_getElem? (i := 25) rfl)))) (mvT hZ (hw _ (List.mem_of_getElem? (i := 25) rfl))) (mvT hZ (hw _ (List.mem_of_getElem? (i := 24) rfl))) (by decide) (backOf (W := 0) (rm_nx l Z a0 hw [] ob ta (mnF j.val) (3 : Int32) (4 : Int32) (Int32.ofNat (j.val / 2)) (Int32.ofNat 0) (WF j.val 3) (WF j.val 4) (j.val / 2 - 0 + 1) 4 (fun i => tmF j.val (j.val / 2 - 0 - i)) T32.heap n0 (Nat.le_trans (Nat.le_trans (Nat.le_trans (Nat.le_trans (Nat.le_trans (Nat.le_trans Z0 E4.1) K13.1) K17.1) K22.1) K27.1) K32.1) G32_0 G32_1 G32_2 G32_3 G32_4 G32_5 G32_6 (Nat.le_trans Z0 (Nat.le_of_eq g4.symm)) (by decide) ne13 F34 (by decide) (nlo_4 j) (fun q => by
          obtain ⟨x1, x2, x3⟩ := nhi_4 j q
          exact ⟨nn_of x1, nn_of x2, x3⟩)) hZ (hw _ (List.mem_of_getElem? (i := 26) rfl)) (hw _ (List.mem_of_getElem? (i := 3) rfl)) (by decide) (by decide)) q37a q37c (g := (mkF m 93 #[.val (.int p1), .val (.int p2), .val (.int (0 : Int32)), .val (.double (mnF j.val)), .second, .val (.ref ob), .val (.double (WF j.val 0)), .second, .val (.double (WF j.val 1)), .second, .val (.double (WF j.val 2)), .second, .val (.double (WF j.val 3)), .second, .unset, .unset, .unset, .unset, .unset, .unset, .unset, .unset, .unset] [(.ref ob)])) rfl (by rw [hml]; rfl) (Steps.refl _) (argsL := []) (rest := []) (lenOf pd___D rfl) rfl (by show 2 * 0 + _ ≤ _; exact Nat.le_of_eq rfl) (hb hby at_93) (fun _ _ => ⟨rfl, rfl, (by decide : 2 + 0 ≤ _), (by decide : 2006 + 0 ≤ _)⟩)
    dsimp only [Pt.U, Pt.locs, Pt.cells, Pt.slots] at X37 l37 y37 z37 st37 hQ37
    subst l37 y37 z37
    obtain ⟨rfl, N37, K37, G37_0, G37_1, G37_2, G37_3, G37_4, G37_5, G37_6⟩ := hQ37
    have M37 := Fr.app M32 N37
    have F38 : Exa Z T37.heap ob "com/example/topple/topple/markov/PoissonWeights" := (G32_0.keep K37)
    have F39 : OwnArr.Ag Z T37.heap ta .double (j.val / 2 - 0 + 1) (fun i => .double (tmF j.val (j.val / 2 - 0 - i))) := (F34.keep K37 (ninS ne13 nin0))
    have c40 : ∀ t, Steps p.tables e below (T37.setTop (mkF m 96 #[.val (.int p1), .val (.int p2), .val (.int (0 : Int32)), .val (.double (mnF j.val)), .second, .val (.ref ob), .val (.double (WF j.val 0)), .second, .val (.double (WF j.val 1)), .second, .val (.double (WF j.val 2)), .second, .val (.double (WF j.val 3)), .second, .unset, .unset, .unset, .unset, .unset, .unset, .unset, .unset, .unset] [(.double (WF j.val 4))])) t → Steps p.tables e below (s₁.setTop (entryFrame m #[(.int p1), (.int p2)] maxLocals)) t := fun t k => c36 t (st37.trans k)
    have c41 : ∀ t, Steps p.tables e below (T37.setTop (mkF m 100 #[.val (.int p1), .val (.int p2), .val (.int (0 : Int32)), .val (.double (mnF j.val)), .second, .val (.ref ob), .val (.double (WF j.val 0)), .second, .val (.double (WF j.val 1)), .second, .val (.double (WF j.val 2)), .second, .val (.double (WF j.val 3)), .second, .val (.double (WF j.val 4)), .second, .unset, .unset, .unset, .unset, .unset, .unset, .unset] [(.ref ob)])) t → Steps p.tables e below (s₁.setTop (entryFrame m #[(.int p1), (.int p2)] maxLocals)) t := fun t k => c40 t (by
      show Steps p.tables e below (T37.setTop (mkF m 96 #[.val (.int p1), .val (.int p2), .val (.int (0 : Int32)), .val (.double (mnF j.val)), .second, .val (.ref ob), .val (.double (WF j.val 0)), .second, .val (.double (WF j.val 1)), .second, .val (.double (WF j.val 2)), .second, .val (.double (WF j.val 3)), .second, .unset, .unset, .unset, .unset, .unset, .unset, .unset, .unset, .unset] [(.double (WF j.val 4))])) _
      refine XS.dstore X37.here hx rfl (hb hby at_96) rfl (l' := #[.val (.int p1), .val (.int p2), .val (.int (0 : Int32)), .val (.double (mnF j.val)), .second, .val (.ref ob), .val (.double (WF j.val 0)), .second, .val (.double (WF j.val 1)), .second, .val (.double (WF j.val 2)), .second, .val (.double (WF j.val 3)), .second, .val (.double (WF j.val 4)), .second, .unset, .unset, .unset, .unset, .unset, .unset, .unset]) rfl ?_
      show Steps p.tables e below (T37.setTop (mkF m 98 #[.val (.int p1), .val (.int p2), .val (.int (0 : Int32)), .val (.double (mnF j.val)), .second, .val (.ref ob), .val (.double (WF j.val 0)), .second, .val (.double (WF j.val 1)), .second, .val (.double (WF j.val 2)), .second, .val (.double (WF j.val 3)), .second, .val (.double (WF j.val 4)), .second, .unset, .unset, .unset, .unset, .unset, .unset, .unset] [])) _
      refine XS.aload X37.here hx rfl (hb hby at_98) rfl rfl ?_
      show Steps p.tables e below (T37.setTop (mkF m 100 #[.val (.int p1), .val (.int p2), .val (.int (0 : Int32)), .val (.double (mnF j.val)), .second, .val (.ref ob), .val (.double (WF j.val 0)), .second, .val (.double (WF j.val 1)), .second, .val (.double (WF j.val 2)), .second, .val (.double (WF j.val 3)), .second, .val (.double (WF j.val 4)), .second, .unset, .unset, .unset, .unset, .unset, .unset, .unset] [(.ref ob)])) _
      exact k)
    obtain ⟨cq42, kq42, q42a, q42b, q42c⟩ := isOf hZ rfl G37_0
    obtain ⟨_, _, ⟨T42, L42, k42', n42⟩, -, X42, ⟨Lc42, hQ42, l42, y42, z42⟩, st42⟩ := X37.virtualBack hx (y := (⟨"com/example/topple/topple/markov/PoissonWeights", "next", "()D"⟩ : MethodName)) (z := (⟨"com/example/topple/topple/markov/PoissonWeights", "next", "()D"⟩ : MethodName)) hown (mvT hZ (hw _ (List.mem_of_getElem? (i := 22) rfl))) (mvT hZ (hw _ (List.mem_of_getElem? (i := 23) rfl))) (notFace_of_selects (args := #[]) (mvT hZ (hw _ (List.mem_of_getElem? (i := 25) rfl)))) (mvT hZ (hw _ (List.mem_of_getElem? (i := 25) rfl))) (mvT hZ (hw _ (List.mem_of_getElem? (i := 24) rfl))) (by decide) (backOf (W := 0) (rm_nx l Z a0 hw [] ob ta (mnF j.val) (4 : Int32) (5 : Int32) (Int32.ofNat (j.val / 2)) (Int32.ofNat 0) (WF j.val 4) (WF j.val 5) (j.val / 2 - 0 + 1) 5 (fun i => tmF j.val (j.val / 2 - 0 - i)) T37.heap n0 (Nat.le_trans (Nat.le_trans (Nat.le_trans (Nat.le_trans (Nat.le_trans (Nat.le_trans (Nat.le_trans Z0 E4.1) K13.1) K17.1) K22.1) K27.1) K32.1) K37.1) G37_0 G37_1 G37_2 G37_3 G37_4 G37_5 G37_6 (Nat.le_trans Z0 (Nat.le_of_eq g4.symm)) (by decide) ne13 F39 (by decide) (nlo_5 j) (fun q => by
          obtain ⟨x1, x2, x3⟩ := nhi_5 j q
          exact ⟨nn_of x1, nn_of x2, x3⟩)) hZ (hw _ (List.mem_of_getElem? (i := 26) rfl)) (hw _ (List.mem_of_getElem? (i := 3) rfl)) (by decide) (by decide)) q42a q42c (g := (mkF m 100 #[.val (.int p1), .val (.int p2), .val (.int (0 : Int32)), .val (.double (mnF j.val)), .second, .val (.ref ob), .val (.double (WF j.val 0)), .second, .val (.double (WF j.val 1)), .second, .val (.double (WF j.val 2)), .second, .val (.double (WF j.val 3)), .second, .val (.double (WF j.val 4)), .second, .unset, .unset, .unset, .unset, .unset, .unset, .unset] [(.ref ob)])) rfl (by rw [hml]; rfl) (Steps.refl _) (argsL := []) (rest := []) (lenOf pd___D rfl) rfl (by show 2 * 0 + _ ≤ _; exact Nat.le_of_eq rfl) (hb hby at_100) (fun _ _ => ⟨rfl, rfl, (by decide : 2 + 0 ≤ _), (by decide : 2006 + 0 ≤ _)⟩)
    dsimp only [Pt.U, Pt.locs, Pt.cells, Pt.slots] at X42 l42 y42 z42 st42 hQ42
    subst l42 y42 z42
    obtain ⟨rfl, N42, K42, G42_0, G42_1, G42_2, G42_3, G42_4, G42_5, G42_6⟩ := hQ42
    have M42 := Fr.app M37 N42
    have F43 : Exa Z T42.heap ob "com/example/topple/topple/markov/PoissonWeights" := (G37_0.keep K42)
    have F44 : OwnArr.Ag Z T42.heap ta .double (j.val / 2 - 0 + 1) (fun i => .double (tmF j.val (j.val / 2 - 0 - i))) := (F39.keep K42 (ninS ne13 nin0))
    have c45 : ∀ t, Steps p.tables e below (T42.setTop (mkF m 103 #[.val (.int p1), .val (.int p2), .val (.int (0 : Int32)), .val (.double (mnF j.val)), .second, .val (.ref ob), .val (.double (WF j.val 0)), .second, .val (.double (WF j.val 1)), .second, .val (.double (WF j.val 2)), .second, .val (.double (WF j.val 3)), .second, .val (.double (WF j.val 4)), .second, .unset, .unset, .unset, .unset, .unset, .unset, .unset] [(.double (WF j.val 5))])) t → Steps p.tables e below (s₁.setTop (entryFrame m #[(.int p1), (.int p2)] maxLocals)) t := fun t k => c41 t (st42.trans k)
    have c46 : ∀ t, Steps p.tables e below (T42.setTop (mkF m 107 #[.val (.int p1), .val (.int p2), .val (.int (0 : Int32)), .val (.double (mnF j.val)), .second, .val (.ref ob), .val (.double (WF j.val 0)), .second, .val (.double (WF j.val 1)), .second, .val (.double (WF j.val 2)), .second, .val (.double (WF j.val 3)), .second, .val (.double (WF j.val 4)), .second, .val (.double (WF j.val 5)), .second, .unset, .unset, .unset, .unset, .unset] [(.ref ob)])) t → Steps p.tables e below (s₁.setTop (entryFrame m #[(.int p1), (.int p2)] maxLocals)) t := fun t k => c45 t (by
      show Steps p.tables e below (T42.setTop (mkF m 103 #[.val (.int p1), .val (.int p2), .val (.int (0 : Int32)), .val (.double (mnF j.val)), .second, .val (.ref ob), .val (.double (WF j.val 0)), .second, .val (.double (WF j.val 1)), .second, .val (.double (WF j.val 2)), .second, .val (.double (WF j.val 3)), .second, .val (.double (WF j.val 4)), .second, .unset, .unset, .unset, .unset, .unset, .unset, .unset] [(.double (WF j.val 5))])) _
      refine XS.dstore X42.here hx rfl (hb hby at_103) rfl (l' := #[.val (.int p1), .val (.int p2), .val (.int (0 : Int32)), .val (.double (mnF j.val)), .second, .val (.ref ob), .val (.double (WF j.val 0)), .second, .val (.double (WF j.val 1)), .second, .val (.double (WF j.val 2)), .second, .val (.double (WF j.val 3)), .second, .val (.double (WF j.val 4)), .second, .val (.double (WF j.val 5)), .second, .unset, .unset, .unset, .unset, .unset]) rfl ?_
      show Steps p.tables e below (T42.setTop (mkF m 105 #[.val (.int p1), .val (.int p2), .val (.int (0 : Int32)), .val (.double (mnF j.val)), .second, .val (.ref ob), .val (.double (WF j.val 0)), .second, .val (.double (WF j.val 1)), .second, .val (.double (WF j.val 2)), .second, .val (.double (WF j.val 3)), .second, .val (.double (WF j.val 4)), .second, .val (.double (WF j.val 5)), .second, .unset, .unset, .unset, .unset, .unset] [])) _
      refine XS.aload X42.here hx rfl (hb hby at_105) rfl rfl ?_
      show Steps p.tables e below (T42.setTop (mkF m 107 #[.val (.int p1), .val (.int p2), .val (.int (0 : Int32)), .val (.double (mnF j.val)), .second, .val (.ref ob), .val (.double (WF j.val 0)), .second, .val (.double (WF j.val 1)), .second, .val (.double (WF j.val 2)), .second, .val (.double (WF j.val 3)), .second, .val (.double (WF j.val 4)), .second, .val (.double (WF j.val 5)), .second, .unset, .unset, .unset, .unset, .unset] [(.ref ob)])) _
      exact k)
    obtain ⟨cq47, kq47, q47a, q47b, q47c⟩ := isOf hZ rfl G42_0
    obtain ⟨_, _, ⟨T47, L47, k47', n47⟩, -, X47, ⟨Lc47, hQ47, l47, y47, z47⟩, st47⟩ := X42.virtualBack hx (y := (⟨"com/example/topple/topple/markov/PoissonWeights", "next", "()D"⟩ : MethodName)) (z := (⟨"com/example/topple/topple/markov/PoissonWeights", "next", "()D"⟩ : MethodName)) hown (mvT hZ (hw _ (List.mem_of_getElem? (i := 22) rfl))) (mvT hZ (hw _ (List.mem_of_getElem? (i := 23) rfl))) (notFace_of_selects (args := #[]) (mvT hZ (hw _ (List.mem_of_getElem? (i := 25) rfl)))) (mvT hZ (hw _ (List.mem_of_getElem? (i := 25) rfl))) (mvT hZ (hw _ (List.mem_of_getElem? (i := 24) rfl))) (by decide) (backOf (W := 0) (rm_nx l Z a0 hw [] ob ta (mnF j.val) (5 : Int32) (6 : Int32) (Int32.ofNat (j.val / 2)) (Int32.ofNat 0) (WF j.val 5) (WF j.val 6) (j.val / 2 - 0 + 1) 6 (fun i => tmF j.val (j.val / 2 - 0 - i)) T42.heap n0 (Nat.le_trans (Nat.le_trans (Nat.le_trans (Nat.le_trans (Nat.le_trans (Nat.le_trans (Nat.le_trans (Nat.le_trans Z0 E4.1) K13.1) K17.1) K22.1) K27.1) K32.1) K37.1) K42.1) G42_0 G42_1 G42_2 G42_3 G42_4 G42_5 G42_6 (Nat.le_trans Z0 (Nat.le_of_eq g4.symm)) (by decide) ne13 F44 (by decide) (nlo_6 j) (fun q => by
          obtain ⟨x1, x2, x3⟩ := nhi_6 j q
          exact ⟨nn_of x1, nn_of x2, x3⟩)) hZ (hw _ (List.mem_of_getElem? (i := 26) rfl)) (hw _ (List.mem_of_getElem? (i := 3) rfl)) (by decide) (by decide)) q47a q47c (g := (mkF m 107 #[.val (.int p1), .val (.int p2), .val (.int (0 : Int32)), .val (.double (mnF j.val)), .second, .val (.ref ob), .val (.double (WF j.val 0)), .second, .val (.double (WF j.val 1)), .second, .val (.double (WF j.val 2)), .second, .val (.double (WF j.val 3)), .second, .val (.double (WF j.val 4)), .second, .val (.double (WF j.val 5)), .second, .unset, .unset, .unset, .unset, .unset] [(.ref ob)])) rfl (by rw [hml]; rfl) (Steps.refl _) (argsL := []) (rest := []) (lenOf pd___D rfl) rfl (by show 2 * 0 + _ ≤ _; exact Nat.le_of_eq rfl) (hb hby at_107) (fun _ _ => ⟨rfl, rfl, (by decide : 2 + 0 ≤ _), (by decide : 2006 + 0 ≤ _)⟩)
    dsimp only [Pt.U, Pt.locs, Pt.cells, Pt.slots] at X47 l47 y47 z47 st47 hQ47
    subst l47 y47 z47
    obtain ⟨rfl, N47, K47, G47_0, G47_1, G47_2, G47_3, G47_4, G47_5, G47_6⟩ := hQ47
    have M47 := Fr.app M42 N47
    have F48 : Exa Z T47.heap ob "com/example/topple/topple/markov/PoissonWeights" := (G42_0.keep K47)
    have F49 : OwnArr.Ag Z T47.heap ta .double (j.val / 2 - 0 + 1) (fun i => .double (tmF j.val (j.val / 2 - 0 - i))) := (F44.keep K47 (ninS ne13 nin0))
    have c50 : ∀ t, Steps p.tables e below (T47.setTop (mkF m 110 #[.val (.int p1), .val (.int p2), .val (.int (0 : Int32)), .val (.double (mnF j.val)), .second, .val (.ref ob), .val (.double (WF j.val 0)), .second, .val (.double (WF j.val 1)), .second, .val (.double (WF j.val 2)), .second, .val (.double (WF j.val 3)), .second, .val (.double (WF j.val 4)), .second, .val (.double (WF j.val 5)), .second, .unset, .unset, .unset, .unset, .unset] [(.double (WF j.val 6))])) t → Steps p.tables e below (s₁.setTop (entryFrame m #[(.int p1), (.int p2)] maxLocals)) t := fun t k => c46 t (st47.trans k)
    have c51 : ∀ t, Steps p.tables e below (T47.setTop (mkF m 114 #[.val (.int p1), .val (.int p2), .val (.int (0 : Int32)), .val (.double (mnF j.val)), .second, .val (.ref ob), .val (.double (WF j.val 0)), .second, .val (.double (WF j.val 1)), .second, .val (.double (WF j.val 2)), .second, .val (.double (WF j.val 3)), .second, .val (.double (WF j.val 4)), .second, .val (.double (WF j.val 5)), .second, .val (.double (WF j.val 6)), .second, .unset, .unset, .unset] [(.ref ob)])) t → Steps p.tables e below (s₁.setTop (entryFrame m #[(.int p1), (.int p2)] maxLocals)) t := fun t k => c50 t (by
      show Steps p.tables e below (T47.setTop (mkF m 110 #[.val (.int p1), .val (.int p2), .val (.int (0 : Int32)), .val (.double (mnF j.val)), .second, .val (.ref ob), .val (.double (WF j.val 0)), .second, .val (.double (WF j.val 1)), .second, .val (.double (WF j.val 2)), .second, .val (.double (WF j.val 3)), .second, .val (.double (WF j.val 4)), .second, .val (.double (WF j.val 5)), .second, .unset, .unset, .unset, .unset, .unset] [(.double (WF j.val 6))])) _
      refine XS.dstore X47.here hx rfl (hb hby at_110) rfl (l' := #[.val (.int p1), .val (.int p2), .val (.int (0 : Int32)), .val (.double (mnF j.val)), .second, .val (.ref ob), .val (.double (WF j.val 0)), .second, .val (.double (WF j.val 1)), .second, .val (.double (WF j.val 2)), .second, .val (.double (WF j.val 3)), .second, .val (.double (WF j.val 4)), .second, .val (.double (WF j.val 5)), .second, .val (.double (WF j.val 6)), .second, .unset, .unset, .unset]) rfl ?_
      show Steps p.tables e below (T47.setTop (mkF m 112 #[.val (.int p1), .val (.int p2), .val (.int (0 : Int32)), .val (.double (mnF j.val)), .second, .val (.ref ob), .val (.double (WF j.val 0)), .second, .val (.double (WF j.val 1)), .second, .val (.double (WF j.val 2)), .second, .val (.double (WF j.val 3)), .second, .val (.double (WF j.val 4)), .second, .val (.double (WF j.val 5)), .second, .val (.double (WF j.val 6)), .second, .unset, .unset, .unset] [])) _
      refine XS.aload X47.here hx rfl (hb hby at_112) rfl rfl ?_
      show Steps p.tables e below (T47.setTop (mkF m 114 #[.val (.int p1), .val (.int p2), .val (.int (0 : Int32)), .val (.double (mnF j.val)), .second, .val (.ref ob), .val (.double (WF j.val 0)), .second, .val (.double (WF j.val 1)), .second, .val (.double (WF j.val 2)), .second, .val (.double (WF j.val 3)), .second, .val (.double (WF j.val 4)), .second, .val (.double (WF j.val 5)), .second, .val (.double (WF j.val 6)), .second, .unset, .unset, .unset] [(.ref ob)])) _
      exact k)
    obtain ⟨cq52, kq52, q52a, q52b, q52c⟩ := isOf hZ rfl G47_0
    obtain ⟨_, _, ⟨T52, L52, k52', n52⟩, -, X52, ⟨Lc52, hQ52, l52, y52, z52⟩, st52⟩ := X47.virtualBack hx (y := (⟨"com/example/topple/topple/markov/PoissonWeights", "next", "()D"⟩ : MethodName)) (z := (⟨"com/example/topple/topple/markov/PoissonWeights", "next", "()D"⟩ : MethodName)) hown (mvT hZ (hw _ (List.mem_of_getElem? (i := 22) rfl))) (mvT hZ (hw _ (List.mem_of_getElem? (i := 23) rfl))) (notFace_of_selects (args := #[]) (mvT hZ (hw _ (List.mem_of_getElem? (i := 25) rfl)))) (mvT hZ (hw _ (List.mem_of_getElem? (i := 25) rfl))) (mvT hZ (hw _ (List.mem_of_getElem? (i := 24) rfl))) (by decide) (backOf (W := 0) (rm_nx l Z a0 hw [] ob ta (mnF j.val) (6 : Int32) (7 : Int32) (Int32.ofNat (j.val / 2)) (Int32.ofNat 0) (WF j.val 6) (WF j.val 7) (j.val / 2 - 0 + 1) 7 (fun i => tmF j.val (j.val / 2 - 0 - i)) T47.heap n0 (Nat.le_trans (Nat.le_trans (Nat.le_trans (Nat.le_trans (Nat.le_trans (Nat.le_trans (Nat.le_trans (Nat.le_trans (Nat.le_trans Z0 E4.1) K13.1) K17.1) K22.1) K27.1) K32.1) K37.1) K42.1) K47.1) G47_0 G47_1 G47_2 G47_3 G47_4 G47_5 G47_6 (Nat.le_trans Z0 (Nat.le_of_eq g4.symm)) (by decide) ne13 F49 (by decide) (nlo_7 j) (fun q => by
          obtain ⟨x1, x2, x3⟩ := nhi_7 j q
          exact ⟨nn_of x1, nn_of x2, x3⟩)) hZ (hw _ (List.mem_of_getElem? (i := 26) rfl)) (hw _ (List.mem_of_getElem? (i := 3) rfl)) (by decide) (by decide)) q52a q52c (g := (mkF m 114 #[.val (.int p1), .val (.int p2), .val (.int (0 : Int32)), .val (.double (mnF j.val)), .second, .val (.ref ob), .val (.double (WF j.val 0)), .second, .val (.double (WF j.val 1)), .second, .val (.double (WF j.val 2)), .second, .val (.double (WF j.val 3)), .second, .val (.double (WF j.val 4)), .second, .val (.double (WF j.val 5)), .second, .val (.double (WF j.val 6)), .second, .unset, .unset, .unset] [(.ref ob)])) rfl (by rw [hml]; rfl) (Steps.refl _) (argsL := []) (rest := []) (lenOf pd___D rfl) rfl (by show 2 * 0 + _ ≤ _; exact Nat.le_of_eq rfl) (hb hby at_114) (fun _ _ => ⟨rfl, rfl, (by decide : 2 + 0 ≤ _), (by decide : 2006 + 0 ≤ _)⟩)
    dsimp only [Pt.U, Pt.locs, Pt.cells, Pt.slots] at X52 l52 y52 z52 st52 hQ52
    subst l52 y52 z52
    obtain ⟨rfl, N52, K52, G52_0, G52_1, G52_2, G52_3, G52_4, G52_5, G52_6⟩ := hQ52
    have M52 := Fr.app M47 N52
    have F53 : Exa Z T52.heap ob "com/example/topple/topple/markov/PoissonWeights" := (G47_0.keep K52)
    have F54 : OwnArr.Ag Z T52.heap ta .double (j.val / 2 - 0 + 1) (fun i => .double (tmF j.val (j.val / 2 - 0 - i))) := (F49.keep K52 (ninS ne13 nin0))
    have c55 : ∀ t, Steps p.tables e below (T52.setTop (mkF m 117 #[.val (.int p1), .val (.int p2), .val (.int (0 : Int32)), .val (.double (mnF j.val)), .second, .val (.ref ob), .val (.double (WF j.val 0)), .second, .val (.double (WF j.val 1)), .second, .val (.double (WF j.val 2)), .second, .val (.double (WF j.val 3)), .second, .val (.double (WF j.val 4)), .second, .val (.double (WF j.val 5)), .second, .val (.double (WF j.val 6)), .second, .unset, .unset, .unset] [(.double (WF j.val 7))])) t → Steps p.tables e below (s₁.setTop (entryFrame m #[(.int p1), (.int p2)] maxLocals)) t := fun t k => c51 t (st52.trans k)
    have c56 : ∀ t, Steps p.tables e below (T52.setTop (mkF m 121 #[.val (.int p1), .val (.int p2), .val (.int (0 : Int32)), .val (.double (mnF j.val)), .second, .val (.ref ob), .val (.double (WF j.val 0)), .second, .val (.double (WF j.val 1)), .second, .val (.double (WF j.val 2)), .second, .val (.double (WF j.val 3)), .second, .val (.double (WF j.val 4)), .second, .val (.double (WF j.val 5)), .second, .val (.double (WF j.val 6)), .second, .val (.double (WF j.val 7)), .second, .unset] [(.ref ob)])) t → Steps p.tables e below (s₁.setTop (entryFrame m #[(.int p1), (.int p2)] maxLocals)) t := fun t k => c55 t (by
      show Steps p.tables e below (T52.setTop (mkF m 117 #[.val (.int p1), .val (.int p2), .val (.int (0 : Int32)), .val (.double (mnF j.val)), .second, .val (.ref ob), .val (.double (WF j.val 0)), .second, .val (.double (WF j.val 1)), .second, .val (.double (WF j.val 2)), .second, .val (.double (WF j.val 3)), .second, .val (.double (WF j.val 4)), .second, .val (.double (WF j.val 5)), .second, .val (.double (WF j.val 6)), .second, .unset, .unset, .unset] [(.double (WF j.val 7))])) _
      refine XS.dstore X52.here hx rfl (hb hby at_117) rfl (l' := #[.val (.int p1), .val (.int p2), .val (.int (0 : Int32)), .val (.double (mnF j.val)), .second, .val (.ref ob), .val (.double (WF j.val 0)), .second, .val (.double (WF j.val 1)), .second, .val (.double (WF j.val 2)), .second, .val (.double (WF j.val 3)), .second, .val (.double (WF j.val 4)), .second, .val (.double (WF j.val 5)), .second, .val (.double (WF j.val 6)), .second, .val (.double (WF j.val 7)), .second, .unset]) rfl ?_
      show Steps p.tables e below (T52.setTop (mkF m 119 #[.val (.int p1), .val (.int p2), .val (.int (0 : Int32)), .val (.double (mnF j.val)), .second, .val (.ref ob), .val (.double (WF j.val 0)), .second, .val (.double (WF j.val 1)), .second, .val (.double (WF j.val 2)), .second, .val (.double (WF j.val 3)), .second, .val (.double (WF j.val 4)), .second, .val (.double (WF j.val 5)), .second, .val (.double (WF j.val 6)), .second, .val (.double (WF j.val 7)), .second, .unset] [])) _
      refine XS.aload X52.here hx rfl (hb hby at_119) rfl rfl ?_
      show Steps p.tables e below (T52.setTop (mkF m 121 #[.val (.int p1), .val (.int p2), .val (.int (0 : Int32)), .val (.double (mnF j.val)), .second, .val (.ref ob), .val (.double (WF j.val 0)), .second, .val (.double (WF j.val 1)), .second, .val (.double (WF j.val 2)), .second, .val (.double (WF j.val 3)), .second, .val (.double (WF j.val 4)), .second, .val (.double (WF j.val 5)), .second, .val (.double (WF j.val 6)), .second, .val (.double (WF j.val 7)), .second, .unset] [(.ref ob)])) _
      exact k)
    obtain ⟨cq57, kq57, q57a, q57b, q57c⟩ := isOf hZ rfl G52_0
    obtain ⟨_, _, ⟨T57, L57, k57', n57⟩, -, X57, ⟨Lc57, hQ57, l57, y57, z57⟩, st57⟩ := X52.virtualBack hx (y := (⟨"com/example/topple/topple/markov/PoissonWeights", "count", "()I"⟩ : MethodName)) (z := (⟨"com/example/topple/topple/markov/PoissonWeights", "count", "()I"⟩ : MethodName)) hown (mvT hZ (hw _ (List.mem_of_getElem? (i := 29) rfl))) (mvT hZ (hw _ (List.mem_of_getElem? (i := 30) rfl))) (notFace_of_selects (args := #[]) (mvT hZ (hw _ (List.mem_of_getElem? (i := 32) rfl)))) (mvT hZ (hw _ (List.mem_of_getElem? (i := 32) rfl))) (mvT hZ (hw _ (List.mem_of_getElem? (i := 31) rfl))) (by decide) (backOf (W := 0) (rm_cn l Z a0 hw [] ob (7 : Int32) T52.heap n0 (Nat.le_trans (Nat.le_trans (Nat.le_trans (Nat.le_trans (Nat.le_trans (Nat.le_trans (Nat.le_trans (Nat.le_trans (Nat.le_trans (Nat.le_trans Z0 E4.1) K13.1) K17.1) K22.1) K27.1) K32.1) K37.1) K42.1) K47.1) K52.1) G52_1) hZ (hw _ (List.mem_of_getElem? (i := 33) rfl)) (hw _ (List.mem_of_getElem? (i := 3) rfl)) (by decide) (by decide)) q57a q57c (g := (mkF m 121 #[.val (.int p1), .val (.int p2), .val (.int (0 : Int32)), .val (.double (mnF j.val)), .second, .val (.ref ob), .val (.double (WF j.val 0)), .second, .val (.double (WF j.val 1)), .second, .val (.double (WF j.val 2)), .second, .val (.double (WF j.val 3)), .second, .val (.double (WF j.val 4)), .second, .val (.double (WF j.val 5)), .second, .val (.double (WF j.val 6)), .second, .val (.double (WF j.val 7)), .second, .unset] [(.ref ob)])) rfl (by rw [hml]; rfl) (Steps.refl _) (argsL := []) (rest := []) (lenOf pd___I rfl) rfl (by show 2 * 0 + _ ≤ _; exact Nat.le_of_eq rfl) (hb hby at_121) (fun _ _ => ⟨rfl, rfl, (by decide : 2 + 0 ≤ _), (by decide : 2006 + 0 ≤ _)⟩)
    dsimp only [Pt.U, Pt.locs, Pt.cells, Pt.slots] at X57 l57 y57 z57 st57 hQ57
    subst l57 y57 z57
    obtain ⟨rfl, N57, e57⟩ := hQ57
    have M57 := Fr.app M52 N57
    have c58 : ∀ t, Steps p.tables e below (T57.setTop (mkF m 124 #[.val (.int p1), .val (.int p2), .val (.int (0 : Int32)), .val (.double (mnF j.val)), .second, .val (.ref ob), .val (.double (WF j.val 0)), .second, .val (.double (WF j.val 1)), .second, .val (.double (WF j.val 2)), .second, .val (.double (WF j.val 3)), .second, .val (.double (WF j.val 4)), .second, .val (.double (WF j.val 5)), .second, .val (.double (WF j.val 6)), .second, .val (.double (WF j.val 7)), .second, .unset] [(.int (7 : Int32))])) t → Steps p.tables e below (s₁.setTop (entryFrame m #[(.int p1), (.int p2)] maxLocals)) t := fun t k => c56 t (st57.trans k)
    obtain ⟨md, hmd⟩ : ∃ v : Int32, v = ((p1 &&& (15 : Int32)) >>> ((1 : Int32) &&& 31)) := ⟨_, rfl⟩
    have c59 : ∀ t, Steps p.tables e below (T57.setTop (mkF m 205 #[.val (.int p1), .val (.int p2), .val (.int (0 : Int32)), .val (.double (mnF j.val)), .second, .val (.ref ob), .val (.double (WF j.val 0)), .second, .val (.double (WF j.val 1)), .second, .val (.double (WF j.val 2)), .second, .val (.double (WF j.val 3)), .second, .val (.double (WF j.val 4)), .second, .val (.double (WF j.val 5)), .second, .val (.double (WF j.val 6)), .second, .val (.double (WF j.val 7)), .second, .val (.int md)] [])) t → Steps p.tables e below (s₁.setTop (entryFrame m #[(.int p1), (.int p2)] maxLocals)) t := fun t k => c58 t (by
      rw [hmd] at k
      show Steps p.tables e below (T57.setTop (mkF m 124 #[.val (.int p1), .val (.int p2), .val (.int (0 : Int32)), .val (.double (mnF j.val)), .second, .val (.ref ob), .val (.double (WF j.val 0)), .second, .val (.double (WF j.val 1)), .second, .val (.double (WF j.val 2)), .second, .val (.double (WF j.val 3)), .second, .val (.double (WF j.val 4)), .second, .val (.double (WF j.val 5)), .second, .val (.double (WF j.val 6)), .second, .val (.double (WF j.val 7)), .second, .unset] [(.int (7 : Int32))])) _
      refine XS.bipush X57.here hx rfl (hb hby at_124) ?_
      show Steps p.tables e below (T57.setTop (mkF m 126 #[.val (.int p1), .val (.int p2), .val (.int (0 : Int32)), .val (.double (mnF j.val)), .second, .val (.ref ob), .val (.double (WF j.val 0)), .second, .val (.double (WF j.val 1)), .second, .val (.double (WF j.val 2)), .second, .val (.double (WF j.val 3)), .second, .val (.double (WF j.val 4)), .second, .val (.double (WF j.val 5)), .second, .val (.double (WF j.val 6)), .second, .val (.double (WF j.val 7)), .second, .unset] [(.int (7 : Int32)), (.int (7 : Int32))])) _
      refine XS.icmpYes X57.here hx rfl (pc0 := 126) (pc' := 131) rfl (hb hby at_126) rfl (XT.ii_eq_t (by decide)) (by decide) (by decide) ?_
      show Steps p.tables e below (T57.setTop (mkF m 131 #[.val (.int p1), .val (.int p2), .val (.int (0 : Int32)), .val (.double (mnF j.val)), .second, .val (.ref ob), .val (.double (WF j.val 0)), .second, .val (.double (WF j.val 1)), .second, .val (.double (WF j.val 2)), .second, .val (.double (WF j.val 3)), .second, .val (.double (WF j.val 4)), .second, .val (.double (WF j.val 5)), .second, .val (.double (WF j.val 6)), .second, .val (.double (WF j.val 7)), .second, .unset] [])) _
      refine XS.iloadN X57.here hx rfl (hb hby at_131) rfl ?_
      show Steps p.tables e below (T57.setTop (mkF m 132 #[.val (.int p1), .val (.int p2), .val (.int (0 : Int32)), .val (.double (mnF j.val)), .second, .val (.ref ob), .val (.double (WF j.val 0)), .second, .val (.double (WF j.val 1)), .second, .val (.double (WF j.val 2)), .second, .val (.double (WF j.val 3)), .second, .val (.double (WF j.val 4)), .second, .val (.double (WF j.val 5)), .second, .val (.double (WF j.val 6)), .second, .val (.double (WF j.val 7)), .second, .unset] [(.int (0 : Int32))])) _
      refine XS.ifYes X57.here hx rfl (pc0 := 132) (pc' := 197) rfl (hb hby at_132) rfl (XT.i0_eq_t (by decide)) (by decide) (by decide) ?_
      show Steps p.tables e below (T57.setTop (mkF m 197 #[.val (.int p1), .val (.int p2), .val (.int (0 : Int32)), .val (.double (mnF j.val)), .second, .val (.ref ob), .val (.double (WF j.val 0)), .second, .val (.double (WF j.val 1)), .second, .val (.double (WF j.val 2)), .second, .val (.double (WF j.val 3)), .second, .val (.double (WF j.val 4)), .second, .val (.double (WF j.val 5)), .second, .val (.double (WF j.val 6)), .second, .val (.double (WF j.val 7)), .second, .unset] [])) _
      refine XS.iloadN X57.here hx rfl (hb hby at_197) rfl ?_
      show Steps p.tables e below (T57.setTop (mkF m 198 #[.val (.int p1), .val (.int p2), .val (.int (0 : Int32)), .val (.double (mnF j.val)), .second, .val (.ref ob), .val (.double (WF j.val 0)), .second, .val (.double (WF j.val 1)), .second, .val (.double (WF j.val 2)), .second, .val (.double (WF j.val 3)), .second, .val (.double (WF j.val 4)), .second, .val (.double (WF j.val 5)), .second, .val (.double (WF j.val 6)), .second, .val (.double (WF j.val 7)), .second, .unset] [(.int p1)])) _
      refine XS.bipush X57.here hx rfl (hb hby at_198) ?_
      show Steps p.tables e below (T57.setTop (mkF m 200 #[.val (.int p1), .val (.int p2), .val (.int (0 : Int32)), .val (.double (mnF j.val)), .second, .val (.ref ob), .val (.double (WF j.val 0)), .second, .val (.double (WF j.val 1)), .second, .val (.double (WF j.val 2)), .second, .val (.double (WF j.val 3)), .second, .val (.double (WF j.val 4)), .second, .val (.double (WF j.val 5)), .second, .val (.double (WF j.val 6)), .second, .val (.double (WF j.val 7)), .second, .unset] [(.int (15 : Int32)), (.int p1)])) _
      refine XS.iand X57.here hx rfl (hb hby at_200) rfl ?_
      show Steps p.tables e below (T57.setTop (mkF m 201 #[.val (.int p1), .val (.int p2), .val (.int (0 : Int32)), .val (.double (mnF j.val)), .second, .val (.ref ob), .val (.double (WF j.val 0)), .second, .val (.double (WF j.val 1)), .second, .val (.double (WF j.val 2)), .second, .val (.double (WF j.val 3)), .second, .val (.double (WF j.val 4)), .second, .val (.double (WF j.val 5)), .second, .val (.double (WF j.val 6)), .second, .val (.double (WF j.val 7)), .second, .unset] [(.int (p1 &&& (15 : Int32)))])) _
      refine XS.iconst X57.here hx rfl (hb hby at_201) ?_
      show Steps p.tables e below (T57.setTop (mkF m 202 #[.val (.int p1), .val (.int p2), .val (.int (0 : Int32)), .val (.double (mnF j.val)), .second, .val (.ref ob), .val (.double (WF j.val 0)), .second, .val (.double (WF j.val 1)), .second, .val (.double (WF j.val 2)), .second, .val (.double (WF j.val 3)), .second, .val (.double (WF j.val 4)), .second, .val (.double (WF j.val 5)), .second, .val (.double (WF j.val 6)), .second, .val (.double (WF j.val 7)), .second, .unset] [(.int (1 : Int32)), (.int (p1 &&& (15 : Int32)))])) _
      refine XT.ishr X57.here hx rfl (hb hby at_202) rfl ?_
      show Steps p.tables e below (T57.setTop (mkF m 203 #[.val (.int p1), .val (.int p2), .val (.int (0 : Int32)), .val (.double (mnF j.val)), .second, .val (.ref ob), .val (.double (WF j.val 0)), .second, .val (.double (WF j.val 1)), .second, .val (.double (WF j.val 2)), .second, .val (.double (WF j.val 3)), .second, .val (.double (WF j.val 4)), .second, .val (.double (WF j.val 5)), .second, .val (.double (WF j.val 6)), .second, .val (.double (WF j.val 7)), .second, .unset] [(.int ((p1 &&& (15 : Int32)) >>> ((1 : Int32) &&& 31)))])) _
      refine XS.istore X57.here hx rfl (hb hby at_203) rfl (l' := #[.val (.int p1), .val (.int p2), .val (.int (0 : Int32)), .val (.double (mnF j.val)), .second, .val (.ref ob), .val (.double (WF j.val 0)), .second, .val (.double (WF j.val 1)), .second, .val (.double (WF j.val 2)), .second, .val (.double (WF j.val 3)), .second, .val (.double (WF j.val 4)), .second, .val (.double (WF j.val 5)), .second, .val (.double (WF j.val 6)), .second, .val (.double (WF j.val 7)), .second, .val (.int ((p1 &&& (15 : Int32)) >>> ((1 : Int32) &&& 31)))]) rfl ?_
      show Steps p.tables e below (T57.setTop (mkF m 205 #[.val (.int p1), .val (.int p2), .val (.int (0 : Int32)), .val (.double (mnF j.val)), .second, .val (.ref ob), .val (.double (WF j.val 0)), .second, .val (.double (WF j.val 1)), .second, .val (.double (WF j.val 2)), .second, .val (.double (WF j.val 3)), .second, .val (.double (WF j.val 4)), .second, .val (.double (WF j.val 5)), .second, .val (.double (WF j.val 6)), .second, .val (.double (WF j.val 7)), .second, .val (.int ((p1 &&& (15 : Int32)) >>> ((1 : Int32) &&& 31)))] [])) _
      exact k)
    have em : md = Int32.ofNat (j.val / 2) := by rw [hmd, et]; exact md_k j
    subst em
    have c60 : ∀ t, Steps p.tables e below (T57.setTop (mkF m 214 #[.val (.int p1), .val (.int p2), .val (.int (0 : Int32)), .val (.double (mnF j.val)), .second, .val (.ref ob), .val (.double (WF j.val 0)), .second, .val (.double (WF j.val 1)), .second, .val (.double (WF j.val 2)), .second, .val (.double (WF j.val 3)), .second, .val (.double (WF j.val 4)), .second, .val (.double (WF j.val 5)), .second, .val (.double (WF j.val 6)), .second, .val (.double (WF j.val 7)), .second, .val (.int (Int32.ofNat (j.val / 2)))] [(.int (Int32.ofNat (j.val / 2))), (.double (mnF j.val)), (.double (WF j.val 1)), (.double FP.dconst0), (.double (WF j.val 0)), (.int (0 : Int32))])) t → Steps p.tables e below (s₁.setTop (entryFrame m #[(.int p1), (.int p2)] maxLocals)) t := fun t k => c59 t (by
      show Steps p.tables e below (T57.setTop (mkF m 205 #[.val (.int p1), .val (.int p2), .val (.int (0 : Int32)), .val (.double (mnF j.val)), .second, .val (.ref ob), .val (.double (WF j.val 0)), .second, .val (.double (WF j.val 1)), .second, .val (.double (WF j.val 2)), .second, .val (.double (WF j.val 3)), .second, .val (.double (WF j.val 4)), .second, .val (.double (WF j.val 5)), .second, .val (.double (WF j.val 6)), .second, .val (.double (WF j.val 7)), .second, .val (.int (Int32.ofNat (j.val / 2)))] [])) _
      refine XS.iconst X57.here hx rfl (hb hby at_205) ?_
      show Steps p.tables e below (T57.setTop (mkF m 206 #[.val (.int p1), .val (.int p2), .val (.int (0 : Int32)), .val (.double (mnF j.val)), .second, .val (.ref ob), .val (.double (WF j.val 0)), .second, .val (.double (WF j.val 1)), .second, .val (.double (WF j.val 2)), .second, .val (.double (WF j.val 3)), .second, .val (.double (WF j.val 4)), .second, .val (.double (WF j.val 5)), .second, .val (.double (WF j.val 6)), .second, .val (.double (WF j.val 7)), .second, .val (.int (Int32.ofNat (j.val / 2)))] [(.int (0 : Int32))])) _
      refine XS.dload X57.here hx rfl (hb hby at_206) rfl ?_
      show Steps p.tables e below (T57.setTop (mkF m 208 #[.val (.int p1), .val (.int p2), .val (.int (0 : Int32)), .val (.double (mnF j.val)), .second, .val (.ref ob), .val (.double (WF j.val 0)), .second, .val (.double (WF j.val 1)), .second, .val (.double (WF j.val 2)), .second, .val (.double (WF j.val 3)), .second, .val (.double (WF j.val 4)), .second, .val (.double (WF j.val 5)), .second, .val (.double (WF j.val 6)), .second, .val (.double (WF j.val 7)), .second, .val (.int (Int32.ofNat (j.val / 2)))] [(.double (WF j.val 0)), (.int (0 : Int32))])) _
      refine XS.dconst0 X57.here hx rfl (hb hby at_208) rfl ?_
      show Steps p.tables e below (T57.setTop (mkF m 209 #[.val (.int p1), .val (.int p2), .val (.int (0 : Int32)), .val (.double (mnF j.val)), .second, .val (.ref ob), .val (.double (WF j.val 0)), .second, .val (.double (WF j.val 1)), .second, .val (.double (WF j.val 2)), .second, .val (.double (WF j.val 3)), .second, .val (.double (WF j.val 4)), .second, .val (.double (WF j.val 5)), .second, .val (.double (WF j.val 6)), .second, .val (.double (WF j.val 7)), .second, .val (.int (Int32.ofNat (j.val / 2)))] [(.double FP.dconst0), (.double (WF j.val 0)), (.int (0 : Int32))])) _
      refine XS.dload X57.here hx rfl (hb hby at_209) rfl ?_
      show Steps p.tables e below (T57.setTop (mkF m 211 #[.val (.int p1), .val (.int p2), .val (.int (0 : Int32)), .val (.double (mnF j.val)), .second, .val (.ref ob), .val (.double (WF j.val 0)), .second, .val (.double (WF j.val 1)), .second, .val (.double (WF j.val 2)), .second, .val (.double (WF j.val 3)), .second, .val (.double (WF j.val 4)), .second, .val (.double (WF j.val 5)), .second, .val (.double (WF j.val 6)), .second, .val (.double (WF j.val 7)), .second, .val (.int (Int32.ofNat (j.val / 2)))] [(.double (WF j.val 1)), (.double FP.dconst0), (.double (WF j.val 0)), (.int (0 : Int32))])) _
      refine XS.dloadN X57.here hx rfl (hb hby at_211) rfl ?_
      show Steps p.tables e below (T57.setTop (mkF m 212 #[.val (.int p1), .val (.int p2), .val (.int (0 : Int32)), .val (.double (mnF j.val)), .second, .val (.ref ob), .val (.double (WF j.val 0)), .second, .val (.double (WF j.val 1)), .second, .val (.double (WF j.val 2)), .second, .val (.double (WF j.val 3)), .second, .val (.double (WF j.val 4)), .second, .val (.double (WF j.val 5)), .second, .val (.double (WF j.val 6)), .second, .val (.double (WF j.val 7)), .second, .val (.int (Int32.ofNat (j.val / 2)))] [(.double (mnF j.val)), (.double (WF j.val 1)), (.double FP.dconst0), (.double (WF j.val 0)), (.int (0 : Int32))])) _
      refine XS.iload X57.here hx rfl (hb hby at_212) rfl ?_
      show Steps p.tables e below (T57.setTop (mkF m 214 #[.val (.int p1), .val (.int p2), .val (.int (0 : Int32)), .val (.double (mnF j.val)), .second, .val (.ref ob), .val (.double (WF j.val 0)), .second, .val (.double (WF j.val 1)), .second, .val (.double (WF j.val 2)), .second, .val (.double (WF j.val 3)), .second, .val (.double (WF j.val 4)), .second, .val (.double (WF j.val 5)), .second, .val (.double (WF j.val 6)), .second, .val (.double (WF j.val 7)), .second, .val (.int (Int32.ofNat (j.val / 2)))] [(.int (Int32.ofNat (j.val / 2))), (.double (mnF j.val)), (.double (WF j.val 1)), (.double FP.dconst0), (.double (WF j.val 0)), (.int (0 : Int32))])) _
      exact k)
    obtain ⟨_, _, ⟨T61, L61, k61', n61⟩, -, X61, ⟨Lc61, hQ61, l61, y61, z61⟩, st61⟩ := Jvm.LawKit.callS X57 hx (y := (⟨"com/example/topple/topple/markov/PoissonWeightsNextPinLaw", "ok", "(IDDDDI)Z"⟩ : MethodName)) hown (mvT hZ (hw _ (List.mem_of_getElem? (i := 34) rfl))) (mvT hZ (hw _ (List.mem_of_getElem? (i := 35) rfl))) (mvT hZ (hw _ (List.mem_of_getElem? (i := 36) rfl))) (mvT hZ (hw _ (List.mem_of_getElem? (i := 37) rfl))) (by decide) (backOf (W := 0) (rm_ok l Z a0 hw [] (0 : Int32) (WF j.val 0) FP.dconst0 (WF j.val 1) (mnF j.val) (Int32.ofNat (j.val / 2)) T52.heap n0 (Nat.le_trans (Nat.le_trans (Nat.le_trans (Nat.le_trans (Nat.le_trans (Nat.le_trans (Nat.le_trans (Nat.le_trans (Nat.le_trans (Nat.le_trans Z0 E4.1) K13.1) K17.1) K22.1) K27.1) K32.1) K37.1) K42.1) K47.1) K52.1) (oke_0 j) (fun q1 q2 => by
          obtain ⟨x1, x2, x3⟩ := okl_0 j q1 q2
          exact ⟨nn_of x1, nn_of x2, x3⟩) (fun q1 q2 => by
          obtain ⟨x1, x2, x3⟩ := okg_0 j q1 q2
          exact ⟨nn_of x1, nn_of x2, x3⟩)) hZ (hw _ (List.mem_of_getElem? (i := 37) rfl)) (hw _ (List.mem_of_getElem? (i := 36) rfl)) (by decide) (by decide)) (g := (mkF m 214 #[.val (.int p1), .val (.int p2), .val (.int (0 : Int32)), .val (.double (mnF j.val)), .second, .val (.ref ob), .val (.double (WF j.val 0)), .second, .val (.double (WF j.val 1)), .second, .val (.double (WF j.val 2)), .second, .val (.double (WF j.val 3)), .second, .val (.double (WF j.val 4)), .second, .val (.double (WF j.val 5)), .second, .val (.double (WF j.val 6)), .second, .val (.double (WF j.val 7)), .second, .val (.int (Int32.ofNat (j.val / 2)))] [(.int (Int32.ofNat (j.val / 2))), (.double (mnF j.val)), (.double (WF j.val 1)), (.double FP.dconst0), (.double (WF j.val 0)), (.int (0 : Int32))])) rfl (by rw [hml]; rfl) (argsL := [(.int (0 : Int32)), (.double (WF j.val 0)), (.double FP.dconst0), (.double (WF j.val 1)), (.double (mnF j.val)), (.int (Int32.ofNat (j.val / 2)))]) (rest := []) (lenOf pd__IDDDDI_Z rfl) rfl (by show 2 * 0 + _ ≤ _; exact Nat.le_of_eq rfl) (hb hby at_214) (fun _ _ => ⟨rfl, e57, (by decide : 2 + 0 ≤ _), (by decide : 2006 + 0 ≤ _)⟩)
    dsimp only [Pt.U, Pt.locs, Pt.cells, Pt.slots] at X61 l61 y61 z61 st61 hQ61
    subst l61 y61 z61
    obtain ⟨rfl, N61, e61⟩ := hQ61
    have M61 := Fr.app M57 N61
    have c62 : ∀ t, Steps p.tables e below (T61.setTop (mkF m 217 #[.val (.int p1), .val (.int p2), .val (.int (0 : Int32)), .val (.double (mnF j.val)), .second, .val (.ref ob), .val (.double (WF j.val 0)), .second, .val (.double (WF j.val 1)), .second, .val (.double (WF j.val 2)), .second, .val (.double (WF j.val 3)), .second, .val (.double (WF j.val 4)), .second, .val (.double (WF j.val 5)), .second, .val (.double (WF j.val 6)), .second, .val (.double (WF j.val 7)), .second, .val (.int (Int32.ofNat (j.val / 2)))] [(.int (1 : Int32))])) t → Steps p.tables e below (s₁.setTop (entryFrame m #[(.int p1), (.int p2)] maxLocals)) t := fun t k => c60 t (st61 _ k)
    have c63 : ∀ t, Steps p.tables e below (T61.setTop (mkF m 230 #[.val (.int p1), .val (.int p2), .val (.int (0 : Int32)), .val (.double (mnF j.val)), .second, .val (.ref ob), .val (.double (WF j.val 0)), .second, .val (.double (WF j.val 1)), .second, .val (.double (WF j.val 2)), .second, .val (.double (WF j.val 3)), .second, .val (.double (WF j.val 4)), .second, .val (.double (WF j.val 5)), .second, .val (.double (WF j.val 6)), .second, .val (.double (WF j.val 7)), .second, .val (.int (Int32.ofNat (j.val / 2)))] [(.int (Int32.ofNat (j.val / 2))), (.double (mnF j.val)), (.double (WF j.val 2)), (.double (WF j.val 0)), (.double (WF j.val 1)), (.int (1 : Int32))])) t → Steps p.tables e below (s₁.setTop (entryFrame m #[(.int p1), (.int p2)] maxLocals)) t := fun t k => c62 t (by
      show Steps p.tables e below (T61.setTop (mkF m 217 #[.val (.int p1), .val (.int p2), .val (.int (0 : Int32)), .val (.double (mnF j.val)), .second, .val (.ref ob), .val (.double (WF j.val 0)), .second, .val (.double (WF j.val 1)), .second, .val (.double (WF j.val 2)), .second, .val (.double (WF j.val 3)), .second, .val (.double (WF j.val 4)), .second, .val (.double (WF j.val 5)), .second, .val (.double (WF j.val 6)), .second, .val (.double (WF j.val 7)), .second, .val (.int (Int32.ofNat (j.val / 2)))] [(.int (1 : Int32))])) _
      refine XS.ifNo X61.here hx rfl (hb hby at_217) rfl (XT.i0_eq_f (by decide)) ?_
      show Steps p.tables e below (T61.setTop (mkF m 220 #[.val (.int p1), .val (.int p2), .val (.int (0 : Int32)), .val (.double (mnF j.val)), .second, .val (.ref ob), .val (.double (WF j.val 0)), .second, .val (.double (WF j.val 1)), .second, .val (.double (WF j.val 2)), .second, .val (.double (WF j.val 3)), .second, .val (.double (WF j.val 4)), .second, .val (.double (WF j.val 5)), .second, .val (.double (WF j.val 6)), .second, .val (.double (WF j.val 7)), .second, .val (.int (Int32.ofNat (j.val / 2)))] [])) _
      refine XS.iconst X61.here hx rfl (hb hby at_220) ?_
      show Steps p.tables e below (T61.setTop (mkF m 221 #[.val (.int p1), .val (.int p2), .val (.int (0 : Int32)), .val (.double (mnF j.val)), .second, .val (.ref ob), .val (.double (WF j.val 0)), .second, .val (.double (WF j.val 1)), .second, .val (.double (WF j.val 2)), .second, .val (.double (WF j.val 3)), .second, .val (.double (WF j.val 4)), .second, .val (.double (WF j.val 5)), .second, .val (.double (WF j.val 6)), .second, .val (.double (WF j.val 7)), .second, .val (.int (Int32.ofNat (j.val / 2)))] [(.int (1 : Int32))])) _
      refine XS.dload X61.here hx rfl (hb hby at_221) rfl ?_
      show Steps p.tables e below (T61.setTop (mkF m 223 #[.val (.int p1), .val (.int p2), .val (.int (0 : Int32)), .val (.double (mnF j.val)), .second, .val (.ref ob), .val (.double (WF j.val 0)), .second, .val (.double (WF j.val 1)), .second, .val (.double (WF j.val 2)), .second, .val (.double (WF j.val 3)), .second, .val (.double (WF j.val 4)), .second, .val (.double (WF j.val 5)), .second, .val (.double (WF j.val 6)), .second, .val (.double (WF j.val 7)), .second, .val (.int (Int32.ofNat (j.val / 2)))] [(.double (WF j.val 1)), (.int (1 : Int32))])) _
      refine XS.dload X61.here hx rfl (hb hby at_223) rfl ?_
      show Steps p.tables e below (T61.setTop (mkF m 225 #[.val (.int p1), .val (.int p2), .val (.int (0 : Int32)), .val (.double (mnF j.val)), .second, .val (.ref ob), .val (.double (WF j.val 0)), .second, .val (.double (WF j.val 1)), .second, .val (.double (WF j.val 2)), .second, .val (.double (WF j.val 3)), .second, .val (.double (WF j.val 4)), .second, .val (.double (WF j.val 5)), .second, .val (.double (WF j.val 6)), .second, .val (.double (WF j.val 7)), .second, .val (.int (Int32.ofNat (j.val / 2)))] [(.double (WF j.val 0)), (.double (WF j.val 1)), (.int (1 : Int32))])) _
      refine XS.dload X61.here hx rfl (hb hby at_225) rfl ?_
      show Steps p.tables e below (T61.setTop (mkF m 227 #[.val (.int p1), .val (.int p2), .val (.int (0 : Int32)), .val (.double (mnF j.val)), .second, .val (.ref ob), .val (.double (WF j.val 0)), .second, .val (.double (WF j.val 1)), .second, .val (.double (WF j.val 2)), .second, .val (.double (WF j.val 3)), .second, .val (.double (WF j.val 4)), .second, .val (.double (WF j.val 5)), .second, .val (.double (WF j.val 6)), .second, .val (.double (WF j.val 7)), .second, .val (.int (Int32.ofNat (j.val / 2)))] [(.double (WF j.val 2)), (.double (WF j.val 0)), (.double (WF j.val 1)), (.int (1 : Int32))])) _
      refine XS.dloadN X61.here hx rfl (hb hby at_227) rfl ?_
      show Steps p.tables e below (T61.setTop (mkF m 228 #[.val (.int p1), .val (.int p2), .val (.int (0 : Int32)), .val (.double (mnF j.val)), .second, .val (.ref ob), .val (.double (WF j.val 0)), .second, .val (.double (WF j.val 1)), .second, .val (.double (WF j.val 2)), .second, .val (.double (WF j.val 3)), .second, .val (.double (WF j.val 4)), .second, .val (.double (WF j.val 5)), .second, .val (.double (WF j.val 6)), .second, .val (.double (WF j.val 7)), .second, .val (.int (Int32.ofNat (j.val / 2)))] [(.double (mnF j.val)), (.double (WF j.val 2)), (.double (WF j.val 0)), (.double (WF j.val 1)), (.int (1 : Int32))])) _
      refine XS.iload X61.here hx rfl (hb hby at_228) rfl ?_
      show Steps p.tables e below (T61.setTop (mkF m 230 #[.val (.int p1), .val (.int p2), .val (.int (0 : Int32)), .val (.double (mnF j.val)), .second, .val (.ref ob), .val (.double (WF j.val 0)), .second, .val (.double (WF j.val 1)), .second, .val (.double (WF j.val 2)), .second, .val (.double (WF j.val 3)), .second, .val (.double (WF j.val 4)), .second, .val (.double (WF j.val 5)), .second, .val (.double (WF j.val 6)), .second, .val (.double (WF j.val 7)), .second, .val (.int (Int32.ofNat (j.val / 2)))] [(.int (Int32.ofNat (j.val / 2))), (.double (mnF j.val)), (.double (WF j.val 2)), (.double (WF j.val 0)), (.double (WF j.val 1)), (.int (1 : Int32))])) _
      exact k)
    obtain ⟨_, _, ⟨T64, L64, k64', n64⟩, -, X64, ⟨Lc64, hQ64, l64, y64, z64⟩, st64⟩ := Jvm.LawKit.callS X61 hx (y := (⟨"com/example/topple/topple/markov/PoissonWeightsNextPinLaw", "ok", "(IDDDDI)Z"⟩ : MethodName)) hown (mvT hZ (hw _ (List.mem_of_getElem? (i := 34) rfl))) (mvT hZ (hw _ (List.mem_of_getElem? (i := 35) rfl))) (mvT hZ (hw _ (List.mem_of_getElem? (i := 36) rfl))) (mvT hZ (hw _ (List.mem_of_getElem? (i := 37) rfl))) (by decide) (backOf (W := 0) (rm_ok l Z a0 hw [] (1 : Int32) (WF j.val 1) (WF j.val 0) (WF j.val 2) (mnF j.val) (Int32.ofNat (j.val / 2)) T52.heap n0 (Nat.le_trans (Nat.le_trans (Nat.le_trans (Nat.le_trans (Nat.le_trans (Nat.le_trans (Nat.le_trans (Nat.le_trans (Nat.le_trans (Nat.le_trans Z0 E4.1) K13.1) K17.1) K22.1) K27.1) K32.1) K37.1) K42.1) K47.1) K52.1) (oke_1 j) (fun q1 q2 => by
          obtain ⟨x1, x2, x3⟩ := okl_1 j q1 q2
          exact ⟨nn_of x1, nn_of x2, x3⟩) (fun q1 q2 => by
          obtain ⟨x1, x2, x3⟩ := okg_1 j q1 q2
          exact ⟨nn_of x1, nn_of x2, x3⟩)) hZ (hw _ (List.mem_of_getElem? (i := 37) rfl)) (hw _ (List.mem_of_getElem? (i := 36) rfl)) (by decide) (by decide)) (g := (mkF m 230 #[.val (.int p1), .val (.int p2), .val (.int (0 : Int32)), .val (.double (mnF j.val)), .second, .val (.ref ob), .val (.double (WF j.val 0)), .second, .val (.double (WF j.val 1)), .second, .val (.double (WF j.val 2)), .second, .val (.double (WF j.val 3)), .second, .val (.double (WF j.val 4)), .second, .val (.double (WF j.val 5)), .second, .val (.double (WF j.val 6)), .second, .val (.double (WF j.val 7)), .second, .val (.int (Int32.ofNat (j.val / 2)))] [(.int (Int32.ofNat (j.val / 2))), (.double (mnF j.val)), (.double (WF j.val 2)), (.double (WF j.val 0)), (.double (WF j.val 1)), (.int (1 : Int32))])) rfl (by rw [hml]; rfl) (argsL := [(.int (1 : Int32)), (.double (WF j.val 1)), (.double (WF j.val 0)), (.double (WF j.val 2)), (.double (mnF j.val)), (.int (Int32.ofNat (j.val / 2)))]) (rest := []) (lenOf pd__IDDDDI_Z rfl) rfl (by show 2 * 0 + _ ≤ _; exact Nat.le_of_eq rfl) (hb hby at_230) (fun _ _ => ⟨rfl, e61, (by decide : 2 + 0 ≤ _), (by decide : 2006 + 0 ≤ _)⟩)
    dsimp only [Pt.U, Pt.locs, Pt.cells, Pt.slots] at X64 l64 y64 z64 st64 hQ64
    subst l64 y64 z64
    obtain ⟨rfl, N64, e64⟩ := hQ64
    have M64 := Fr.app M61 N64
    have c65 : ∀ t, Steps p.tables e below (T64.setTop (mkF m 233 #[.val (.int p1), .val (.int p2), .val (.int (0 : Int32)), .val (.double (mnF j.val)), .second, .val (.ref ob), .val (.double (WF j.val 0)), .second, .val (.double (WF j.val 1)), .second, .val (.double (WF j.val 2)), .second, .val (.double (WF j.val 3)), .second, .val (.double (WF j.val 4)), .second, .val (.double (WF j.val 5)), .second, .val (.double (WF j.val 6)), .second, .val (.double (WF j.val 7)), .second, .val (.int (Int32.ofNat (j.val / 2)))] [(.int (1 : Int32))])) t → Steps p.tables e below (s₁.setTop (entryFrame m #[(.int p1), (.int p2)] maxLocals)) t := fun t k => c63 t (st64 _ k)
    have c66 : ∀ t, Steps p.tables e below (T64.setTop (mkF m 246 #[.val (.int p1), .val (.int p2), .val (.int (0 : Int32)), .val (.double (mnF j.val)), .second, .val (.ref ob), .val (.double (WF j.val 0)), .second, .val (.double (WF j.val 1)), .second, .val (.double (WF j.val 2)), .second, .val (.double (WF j.val 3)), .second, .val (.double (WF j.val 4)), .second, .val (.double (WF j.val 5)), .second, .val (.double (WF j.val 6)), .second, .val (.double (WF j.val 7)), .second, .val (.int (Int32.ofNat (j.val / 2)))] [(.int (Int32.ofNat (j.val / 2))), (.double (mnF j.val)), (.double (WF j.val 3)), (.double (WF j.val 1)), (.double (WF j.val 2)), (.int (2 : Int32))])) t → Steps p.tables e below (s₁.setTop (entryFrame m #[(.int p1), (.int p2)] maxLocals)) t := fun t k => c65 t (by
      show Steps p.tables e below (T64.setTop (mkF m 233 #[.val (.int p1), .val (.int p2), .val (.int (0 : Int32)), .val (.double (mnF j.val)), .second, .val (.ref ob), .val (.double (WF j.val 0)), .second, .val (.double (WF j.val 1)), .second, .val (.double (WF j.val 2)), .second, .val (.double (WF j.val 3)), .second, .val (.double (WF j.val 4)), .second, .val (.double (WF j.val 5)), .second, .val (.double (WF j.val 6)), .second, .val (.double (WF j.val 7)), .second, .val (.int (Int32.ofNat (j.val / 2)))] [(.int (1 : Int32))])) _
      refine XS.ifNo X64.here hx rfl (hb hby at_233) rfl (XT.i0_eq_f (by decide)) ?_
      show Steps p.tables e below (T64.setTop (mkF m 236 #[.val (.int p1), .val (.int p2), .val (.int (0 : Int32)), .val (.double (mnF j.val)), .second, .val (.ref ob), .val (.double (WF j.val 0)), .second, .val (.double (WF j.val 1)), .second, .val (.double (WF j.val 2)), .second, .val (.double (WF j.val 3)), .second, .val (.double (WF j.val 4)), .second, .val (.double (WF j.val 5)), .second, .val (.double (WF j.val 6)), .second, .val (.double (WF j.val 7)), .second, .val (.int (Int32.ofNat (j.val / 2)))] [])) _
      refine XS.iconst X64.here hx rfl (hb hby at_236) ?_
      show Steps p.tables e below (T64.setTop (mkF m 237 #[.val (.int p1), .val (.int p2), .val (.int (0 : Int32)), .val (.double (mnF j.val)), .second, .val (.ref ob), .val (.double (WF j.val 0)), .second, .val (.double (WF j.val 1)), .second, .val (.double (WF j.val 2)), .second, .val (.double (WF j.val 3)), .second, .val (.double (WF j.val 4)), .second, .val (.double (WF j.val 5)), .second, .val (.double (WF j.val 6)), .second, .val (.double (WF j.val 7)), .second, .val (.int (Int32.ofNat (j.val / 2)))] [(.int (2 : Int32))])) _
      refine XS.dload X64.here hx rfl (hb hby at_237) rfl ?_
      show Steps p.tables e below (T64.setTop (mkF m 239 #[.val (.int p1), .val (.int p2), .val (.int (0 : Int32)), .val (.double (mnF j.val)), .second, .val (.ref ob), .val (.double (WF j.val 0)), .second, .val (.double (WF j.val 1)), .second, .val (.double (WF j.val 2)), .second, .val (.double (WF j.val 3)), .second, .val (.double (WF j.val 4)), .second, .val (.double (WF j.val 5)), .second, .val (.double (WF j.val 6)), .second, .val (.double (WF j.val 7)), .second, .val (.int (Int32.ofNat (j.val / 2)))] [(.double (WF j.val 2)), (.int (2 : Int32))])) _
      refine XS.dload X64.here hx rfl (hb hby at_239) rfl ?_
      show Steps p.tables e below (T64.setTop (mkF m 241 #[.val (.int p1), .val (.int p2), .val (.int (0 : Int32)), .val (.double (mnF j.val)), .second, .val (.ref ob), .val (.double (WF j.val 0)), .second, .val (.double (WF j.val 1)), .second, .val (.double (WF j.val 2)), .second, .val (.double (WF j.val 3)), .second, .val (.double (WF j.val 4)), .second, .val (.double (WF j.val 5)), .second, .val (.double (WF j.val 6)), .second, .val (.double (WF j.val 7)), .second, .val (.int (Int32.ofNat (j.val / 2)))] [(.double (WF j.val 1)), (.double (WF j.val 2)), (.int (2 : Int32))])) _
      refine XS.dload X64.here hx rfl (hb hby at_241) rfl ?_
      show Steps p.tables e below (T64.setTop (mkF m 243 #[.val (.int p1), .val (.int p2), .val (.int (0 : Int32)), .val (.double (mnF j.val)), .second, .val (.ref ob), .val (.double (WF j.val 0)), .second, .val (.double (WF j.val 1)), .second, .val (.double (WF j.val 2)), .second, .val (.double (WF j.val 3)), .second, .val (.double (WF j.val 4)), .second, .val (.double (WF j.val 5)), .second, .val (.double (WF j.val 6)), .second, .val (.double (WF j.val 7)), .second, .val (.int (Int32.ofNat (j.val / 2)))] [(.double (WF j.val 3)), (.double (WF j.val 1)), (.double (WF j.val 2)), (.int (2 : Int32))])) _
      refine XS.dloadN X64.here hx rfl (hb hby at_243) rfl ?_
      show Steps p.tables e below (T64.setTop (mkF m 244 #[.val (.int p1), .val (.int p2), .val (.int (0 : Int32)), .val (.double (mnF j.val)), .second, .val (.ref ob), .val (.double (WF j.val 0)), .second, .val (.double (WF j.val 1)), .second, .val (.double (WF j.val 2)), .second, .val (.double (WF j.val 3)), .second, .val (.double (WF j.val 4)), .second, .val (.double (WF j.val 5)), .second, .val (.double (WF j.val 6)), .second, .val (.double (WF j.val 7)), .second, .val (.int (Int32.ofNat (j.val / 2)))] [(.double (mnF j.val)), (.double (WF j.val 3)), (.double (WF j.val 1)), (.double (WF j.val 2)), (.int (2 : Int32))])) _
      refine XS.iload X64.here hx rfl (hb hby at_244) rfl ?_
      show Steps p.tables e below (T64.setTop (mkF m 246 #[.val (.int p1), .val (.int p2), .val (.int (0 : Int32)), .val (.double (mnF j.val)), .second, .val (.ref ob), .val (.double (WF j.val 0)), .second, .val (.double (WF j.val 1)), .second, .val (.double (WF j.val 2)), .second, .val (.double (WF j.val 3)), .second, .val (.double (WF j.val 4)), .second, .val (.double (WF j.val 5)), .second, .val (.double (WF j.val 6)), .second, .val (.double (WF j.val 7)), .second, .val (.int (Int32.ofNat (j.val / 2)))] [(.int (Int32.ofNat (j.val / 2))), (.double (mnF j.val)), (.double (WF j.val 3)), (.double (WF j.val 1)), (.double (WF j.val 2)), (.int (2 : Int32))])) _
      exact k)
    obtain ⟨_, _, ⟨T67, L67, k67', n67⟩, -, X67, ⟨Lc67, hQ67, l67, y67, z67⟩, st67⟩ := Jvm.LawKit.callS X64 hx (y := (⟨"com/example/topple/topple/markov/PoissonWeightsNextPinLaw", "ok", "(IDDDDI)Z"⟩ : MethodName)) hown (mvT hZ (hw _ (List.mem_of_getElem? (i := 34) rfl))) (mvT hZ (hw _ (List.mem_of_getElem? (i := 35) rfl))) (mvT hZ (hw _ (List.mem_of_getElem? (i := 36) rfl))) (mvT hZ (hw _ (List.mem_of_getElem? (i := 37) rfl))) (by decide) (backOf (W := 0) (rm_ok l Z a0 hw [] (2 : Int32) (WF j.val 2) (WF j.val 1) (WF j.val 3) (mnF j.val) (Int32.ofNat (j.val / 2)) T52.heap n0 (Nat.le_trans (Nat.le_trans (Nat.le_trans (Nat.le_trans (Nat.le_trans (Nat.le_trans (Nat.le_trans (Nat.le_trans (Nat.le_trans (Nat.le_trans Z0 E4.1) K13.1) K17.1) K22.1) K27.1) K32.1) K37.1) K42.1) K47.1) K52.1) (oke_2 j) (fun q1 q2 => by
          obtain ⟨x1, x2, x3⟩ := okl_2 j q1 q2
          exact ⟨nn_of x1, nn_of x2, x3⟩) (fun q1 q2 => by
          obtain ⟨x1, x2, x3⟩ := okg_2 j q1 q2
          exact ⟨nn_of x1, nn_of x2, x3⟩)) hZ (hw _ (List.mem_of_getElem? (i := 37) rfl)) (hw _ (List.mem_of_getElem? (i := 36) rfl)) (by decide) (by decide)) (g := (mkF m 246 #[.val (.int p1), .val (.int p2), .val (.int (0 : Int32)), .val (.double (mnF j.val)), .second, .val (.ref ob), .val (.double (WF j.val 0)), .second, .val (.double (WF j.val 1)), .second, .val (.double (WF j.val 2)), .second, .val (.double (WF j.val 3)), .second, .val (.double (WF j.val 4)), .second, .val (.double (WF j.val 5)), .second, .val (.double (WF j.val 6)), .second, .val (.double (WF j.val 7)), .second, .val (.int (Int32.ofNat (j.val / 2)))] [(.int (Int32.ofNat (j.val / 2))), (.double (mnF j.val)), (.double (WF j.val 3)), (.double (WF j.val 1)), (.double (WF j.val 2)), (.int (2 : Int32))])) rfl (by rw [hml]; rfl) (argsL := [(.int (2 : Int32)), (.double (WF j.val 2)), (.double (WF j.val 1)), (.double (WF j.val 3)), (.double (mnF j.val)), (.int (Int32.ofNat (j.val / 2)))]) (rest := []) (lenOf pd__IDDDDI_Z rfl) rfl (by show 2 * 0 + _ ≤ _; exact Nat.le_of_eq rfl) (hb hby at_246) (fun _ _ => ⟨rfl, e64, (by decide : 2 + 0 ≤ _), (by decide : 2006 + 0 ≤ _)⟩)
    dsimp only [Pt.U, Pt.locs, Pt.cells, Pt.slots] at X67 l67 y67 z67 st67 hQ67
    subst l67 y67 z67
    obtain ⟨rfl, N67, e67⟩ := hQ67
    have M67 := Fr.app M64 N67
    have c68 : ∀ t, Steps p.tables e below (T67.setTop (mkF m 249 #[.val (.int p1), .val (.int p2), .val (.int (0 : Int32)), .val (.double (mnF j.val)), .second, .val (.ref ob), .val (.double (WF j.val 0)), .second, .val (.double (WF j.val 1)), .second, .val (.double (WF j.val 2)), .second, .val (.double (WF j.val 3)), .second, .val (.double (WF j.val 4)), .second, .val (.double (WF j.val 5)), .second, .val (.double (WF j.val 6)), .second, .val (.double (WF j.val 7)), .second, .val (.int (Int32.ofNat (j.val / 2)))] [(.int (1 : Int32))])) t → Steps p.tables e below (s₁.setTop (entryFrame m #[(.int p1), (.int p2)] maxLocals)) t := fun t k => c66 t (st67 _ k)
    have c69 : ∀ t, Steps p.tables e below (T67.setTop (mkF m 262 #[.val (.int p1), .val (.int p2), .val (.int (0 : Int32)), .val (.double (mnF j.val)), .second, .val (.ref ob), .val (.double (WF j.val 0)), .second, .val (.double (WF j.val 1)), .second, .val (.double (WF j.val 2)), .second, .val (.double (WF j.val 3)), .second, .val (.double (WF j.val 4)), .second, .val (.double (WF j.val 5)), .second, .val (.double (WF j.val 6)), .second, .val (.double (WF j.val 7)), .second, .val (.int (Int32.ofNat (j.val / 2)))] [(.int (Int32.ofNat (j.val / 2))), (.double (mnF j.val)), (.double (WF j.val 4)), (.double (WF j.val 2)), (.double (WF j.val 3)), (.int (3 : Int32))])) t → Steps p.tables e below (s₁.setTop (entryFrame m #[(.int p1), (.int p2)] maxLocals)) t := fun t k => c68 t (by
      show Steps p.tables e below (T67.setTop (mkF m 249 #[.val (.int p1), .val (.int p2), .val (.int (0 : Int32)), .val (.double (mnF j.val)), .second, .val (.ref ob), .val (.double (WF j.val 0)), .second, .val (.double (WF j.val 1)), .second, .val (.double (WF j.val 2)), .second, .val (.double (WF j.val 3)), .second, .val (.double (WF j.val 4)), .second, .val (.double (WF j.val 5)), .second, .val (.double (WF j.val 6)), .second, .val (.double (WF j.val 7)), .second, .val (.int (Int32.ofNat (j.val / 2)))] [(.int (1 : Int32))])) _
      refine XS.ifNo X67.here hx rfl (hb hby at_249) rfl (XT.i0_eq_f (by decide)) ?_
      show Steps p.tables e below (T67.setTop (mkF m 252 #[.val (.int p1), .val (.int p2), .val (.int (0 : Int32)), .val (.double (mnF j.val)), .second, .val (.ref ob), .val (.double (WF j.val 0)), .second, .val (.double (WF j.val 1)), .second, .val (.double (WF j.val 2)), .second, .val (.double (WF j.val 3)), .second, .val (.double (WF j.val 4)), .second, .val (.double (WF j.val 5)), .second, .val (.double (WF j.val 6)), .second, .val (.double (WF j.val 7)), .second, .val (.int (Int32.ofNat (j.val / 2)))] [])) _
      refine XS.iconst X67.here hx rfl (hb hby at_252) ?_
      show Steps p.tables e below (T67.setTop (mkF m 253 #[.val (.int p1), .val (.int p2), .val (.int (0 : Int32)), .val (.double (mnF j.val)), .second, .val (.ref ob), .val (.double (WF j.val 0)), .second, .val (.double (WF j.val 1)), .second, .val (.double (WF j.val 2)), .second, .val (.double (WF j.val 3)), .second, .val (.double (WF j.val 4)), .second, .val (.double (WF j.val 5)), .second, .val (.double (WF j.val 6)), .second, .val (.double (WF j.val 7)), .second, .val (.int (Int32.ofNat (j.val / 2)))] [(.int (3 : Int32))])) _
      refine XS.dload X67.here hx rfl (hb hby at_253) rfl ?_
      show Steps p.tables e below (T67.setTop (mkF m 255 #[.val (.int p1), .val (.int p2), .val (.int (0 : Int32)), .val (.double (mnF j.val)), .second, .val (.ref ob), .val (.double (WF j.val 0)), .second, .val (.double (WF j.val 1)), .second, .val (.double (WF j.val 2)), .second, .val (.double (WF j.val 3)), .second, .val (.double (WF j.val 4)), .second, .val (.double (WF j.val 5)), .second, .val (.double (WF j.val 6)), .second, .val (.double (WF j.val 7)), .second, .val (.int (Int32.ofNat (j.val / 2)))] [(.double (WF j.val 3)), (.int (3 : Int32))])) _
      refine XS.dload X67.here hx rfl (hb hby at_255) rfl ?_
      show Steps p.tables e below (T67.setTop (mkF m 257 #[.val (.int p1), .val (.int p2), .val (.int (0 : Int32)), .val (.double (mnF j.val)), .second, .val (.ref ob), .val (.double (WF j.val 0)), .second, .val (.double (WF j.val 1)), .second, .val (.double (WF j.val 2)), .second, .val (.double (WF j.val 3)), .second, .val (.double (WF j.val 4)), .second, .val (.double (WF j.val 5)), .second, .val (.double (WF j.val 6)), .second, .val (.double (WF j.val 7)), .second, .val (.int (Int32.ofNat (j.val / 2)))] [(.double (WF j.val 2)), (.double (WF j.val 3)), (.int (3 : Int32))])) _
      refine XS.dload X67.here hx rfl (hb hby at_257) rfl ?_
      show Steps p.tables e below (T67.setTop (mkF m 259 #[.val (.int p1), .val (.int p2), .val (.int (0 : Int32)), .val (.double (mnF j.val)), .second, .val (.ref ob), .val (.double (WF j.val 0)), .second, .val (.double (WF j.val 1)), .second, .val (.double (WF j.val 2)), .second, .val (.double (WF j.val 3)), .second, .val (.double (WF j.val 4)), .second, .val (.double (WF j.val 5)), .second, .val (.double (WF j.val 6)), .second, .val (.double (WF j.val 7)), .second, .val (.int (Int32.ofNat (j.val / 2)))] [(.double (WF j.val 4)), (.double (WF j.val 2)), (.double (WF j.val 3)), (.int (3 : Int32))])) _
      refine XS.dloadN X67.here hx rfl (hb hby at_259) rfl ?_
      show Steps p.tables e below (T67.setTop (mkF m 260 #[.val (.int p1), .val (.int p2), .val (.int (0 : Int32)), .val (.double (mnF j.val)), .second, .val (.ref ob), .val (.double (WF j.val 0)), .second, .val (.double (WF j.val 1)), .second, .val (.double (WF j.val 2)), .second, .val (.double (WF j.val 3)), .second, .val (.double (WF j.val 4)), .second, .val (.double (WF j.val 5)), .second, .val (.double (WF j.val 6)), .second, .val (.double (WF j.val 7)), .second, .val (.int (Int32.ofNat (j.val / 2)))] [(.double (mnF j.val)), (.double (WF j.val 4)), (.double (WF j.val 2)), (.double (WF j.val 3)), (.int (3 : Int32))])) _
      refine XS.iload X67.here hx rfl (hb hby at_260) rfl ?_
      show Steps p.tables e below (T67.setTop (mkF m 262 #[.val (.int p1), .val (.int p2), .val (.int (0 : Int32)), .val (.double (mnF j.val)), .second, .val (.ref ob), .val (.double (WF j.val 0)), .second, .val (.double (WF j.val 1)), .second, .val (.double (WF j.val 2)), .second, .val (.double (WF j.val 3)), .second, .val (.double (WF j.val 4)), .second, .val (.double (WF j.val 5)), .second, .val (.double (WF j.val 6)), .second, .val (.double (WF j.val 7)), .second, .val (.int (Int32.ofNat (j.val / 2)))] [(.int (Int32.ofNat (j.val / 2))), (.double (mnF j.val)), (.double (WF j.val 4)), (.double (WF j.val 2)), (.double (WF j.val 3)), (.int (3 : Int32))])) _
      exact k)
    obtain ⟨_, _, ⟨T70, L70, k70', n70⟩, -, X70, ⟨Lc70, hQ70, l70, y70, z70⟩, st70⟩ := Jvm.LawKit.callS X67 hx (y := (⟨"com/example/topple/topple/markov/PoissonWeightsNextPinLaw", "ok", "(IDDDDI)Z"⟩ : MethodName)) hown (mvT hZ (hw _ (List.mem_of_getElem? (i := 34) rfl))) (mvT hZ (hw _ (List.mem_of_getElem? (i := 35) rfl))) (mvT hZ (hw _ (List.mem_of_getElem? (i := 36) rfl))) (mvT hZ (hw _ (List.mem_of_getElem? (i := 37) rfl))) (by decide) (backOf (W := 0) (rm_ok l Z a0 hw [] (3 : Int32) (WF j.val 3) (WF j.val 2) (WF j.val 4) (mnF j.val) (Int32.ofNat (j.val / 2)) T52.heap n0 (Nat.le_trans (Nat.le_trans (Nat.le_trans (Nat.le_trans (Nat.le_trans (Nat.le_trans (Nat.le_trans (Nat.le_trans (Nat.le_trans (Nat.le_trans Z0 E4.1) K13.1) K17.1) K22.1) K27.1) K32.1) K37.1) K42.1) K47.1) K52.1) (oke_3 j) (fun q1 q2 => by
          obtain ⟨x1, x2, x3⟩ := okl_3 j q1 q2
          exact ⟨nn_of x1, nn_of x2, x3⟩) (fun q1 q2 => by
          obtain ⟨x1, x2, x3⟩ := okg_3 j q1 q2
          exact ⟨nn_of x1, nn_of x2, x3⟩)) hZ (hw _ (List.mem_of_getElem? (i := 37) rfl)) (hw _ (List.mem_of_getElem? (i := 36) rfl)) (by decide) (by decide)) (g := (mkF m 262 #[.val (.int p1), .val (.int p2), .val (.int (0 : Int32)), .val (.double (mnF j.val)), .second, .val (.ref ob), .val (.double (WF j.val 0)), .second, .val (.double (WF j.val 1)), .second, .val (.double (WF j.val 2)), .second, .val (.double (WF j.val 3)), .second, .val (.double (WF j.val 4)), .second, .val (.double (WF j.val 5)), .second, .val (.double (WF j.val 6)), .second, .val (.double (WF j.val 7)), .second, .val (.int (Int32.ofNat (j.val / 2)))] [(.int (Int32.ofNat (j.val / 2))), (.double (mnF j.val)), (.double (WF j.val 4)), (.double (WF j.val 2)), (.double (WF j.val 3)), (.int (3 : Int32))])) rfl (by rw [hml]; rfl) (argsL := [(.int (3 : Int32)), (.double (WF j.val 3)), (.double (WF j.val 2)), (.double (WF j.val 4)), (.double (mnF j.val)), (.int (Int32.ofNat (j.val / 2)))]) (rest := []) (lenOf pd__IDDDDI_Z rfl) rfl (by show 2 * 0 + _ ≤ _; exact Nat.le_of_eq rfl) (hb hby at_262) (fun _ _ => ⟨rfl, e67, (by decide : 2 + 0 ≤ _), (by decide : 2006 + 0 ≤ _)⟩)
    dsimp only [Pt.U, Pt.locs, Pt.cells, Pt.slots] at X70 l70 y70 z70 st70 hQ70
    subst l70 y70 z70
    obtain ⟨rfl, N70, e70⟩ := hQ70
    have M70 := Fr.app M67 N70
    have c71 : ∀ t, Steps p.tables e below (T70.setTop (mkF m 265 #[.val (.int p1), .val (.int p2), .val (.int (0 : Int32)), .val (.double (mnF j.val)), .second, .val (.ref ob), .val (.double (WF j.val 0)), .second, .val (.double (WF j.val 1)), .second, .val (.double (WF j.val 2)), .second, .val (.double (WF j.val 3)), .second, .val (.double (WF j.val 4)), .second, .val (.double (WF j.val 5)), .second, .val (.double (WF j.val 6)), .second, .val (.double (WF j.val 7)), .second, .val (.int (Int32.ofNat (j.val / 2)))] [(.int (1 : Int32))])) t → Steps p.tables e below (s₁.setTop (entryFrame m #[(.int p1), (.int p2)] maxLocals)) t := fun t k => c69 t (st70 _ k)
    have c72 : ∀ t, Steps p.tables e below (T70.setTop (mkF m 278 #[.val (.int p1), .val (.int p2), .val (.int (0 : Int32)), .val (.double (mnF j.val)), .second, .val (.ref ob), .val (.double (WF j.val 0)), .second, .val (.double (WF j.val 1)), .second, .val (.double (WF j.val 2)), .second, .val (.double (WF j.val 3)), .second, .val (.double (WF j.val 4)), .second, .val (.double (WF j.val 5)), .second, .val (.double (WF j.val 6)), .second, .val (.double (WF j.val 7)), .second, .val (.int (Int32.ofNat (j.val / 2)))] [(.int (Int32.ofNat (j.val / 2))), (.double (mnF j.val)), (.double (WF j.val 5)), (.double (WF j.val 3)), (.double (WF j.val 4)), (.int (4 : Int32))])) t → Steps p.tables e below (s₁.setTop (entryFrame m #[(.int p1), (.int p2)] maxLocals)) t := fun t k => c71 t (by
      show Steps p.tables e below (T70.setTop (mkF m 265 #[.val (.int p1), .val (.int p2), .val (.int (0 : Int32)), .val (.double (mnF j.val)), .second, .val (.ref ob), .val (.double (WF j.val 0)), .second, .val (.double (WF j.val 1)), .second, .val (.double (WF j.val 2)), .second, .val (.double (WF j.val 3)), .second, .val (.double (WF j.val 4)), .second, .val (.double (WF j.val 5)), .second, .val (.double (WF j.val 6)), .second, .val (.double (WF j.val 7)), .second, .val (.int (Int32.ofNat (j.val / 2)))] [(.int (1 : Int32))])) _
      refine XS.ifNo X70.here hx rfl (hb hby at_265) rfl (XT.i0_eq_f (by decide)) ?_
      show Steps p.tables e below (T70.setTop (mkF m 268 #[.val (.int p1), .val (.int p2), .val (.int (0 : Int32)), .val (.double (mnF j.val)), .second, .val (.ref ob), .val (.double (WF j.val 0)), .second, .val (.double (WF j.val 1)), .second, .val (.double (WF j.val 2)), .second, .val (.double (WF j.val 3)), .second, .val (.double (WF j.val 4)), .second, .val (.double (WF j.val 5)), .second, .val (.double (WF j.val 6)), .second, .val (.double (WF j.val 7)), .second, .val (.int (Int32.ofNat (j.val / 2)))] [])) _
      refine XS.iconst X70.here hx rfl (hb hby at_268) ?_
      show Steps p.tables e below (T70.setTop (mkF m 269 #[.val (.int p1), .val (.int p2), .val (.int (0 : Int32)), .val (.double (mnF j.val)), .second, .val (.ref ob), .val (.double (WF j.val 0)), .second, .val (.double (WF j.val 1)), .second, .val (.double (WF j.val 2)), .second, .val (.double (WF j.val 3)), .second, .val (.double (WF j.val 4)), .second, .val (.double (WF j.val 5)), .second, .val (.double (WF j.val 6)), .second, .val (.double (WF j.val 7)), .second, .val (.int (Int32.ofNat (j.val / 2)))] [(.int (4 : Int32))])) _
      refine XS.dload X70.here hx rfl (hb hby at_269) rfl ?_
      show Steps p.tables e below (T70.setTop (mkF m 271 #[.val (.int p1), .val (.int p2), .val (.int (0 : Int32)), .val (.double (mnF j.val)), .second, .val (.ref ob), .val (.double (WF j.val 0)), .second, .val (.double (WF j.val 1)), .second, .val (.double (WF j.val 2)), .second, .val (.double (WF j.val 3)), .second, .val (.double (WF j.val 4)), .second, .val (.double (WF j.val 5)), .second, .val (.double (WF j.val 6)), .second, .val (.double (WF j.val 7)), .second, .val (.int (Int32.ofNat (j.val / 2)))] [(.double (WF j.val 4)), (.int (4 : Int32))])) _
      refine XS.dload X70.here hx rfl (hb hby at_271) rfl ?_
      show Steps p.tables e below (T70.setTop (mkF m 273 #[.val (.int p1), .val (.int p2), .val (.int (0 : Int32)), .val (.double (mnF j.val)), .second, .val (.ref ob), .val (.double (WF j.val 0)), .second, .val (.double (WF j.val 1)), .second, .val (.double (WF j.val 2)), .second, .val (.double (WF j.val 3)), .second, .val (.double (WF j.val 4)), .second, .val (.double (WF j.val 5)), .second, .val (.double (WF j.val 6)), .second, .val (.double (WF j.val 7)), .second, .val (.int (Int32.ofNat (j.val / 2)))] [(.double (WF j.val 3)), (.double (WF j.val 4)), (.int (4 : Int32))])) _
      refine XS.dload X70.here hx rfl (hb hby at_273) rfl ?_
      show Steps p.tables e below (T70.setTop (mkF m 275 #[.val (.int p1), .val (.int p2), .val (.int (0 : Int32)), .val (.double (mnF j.val)), .second, .val (.ref ob), .val (.double (WF j.val 0)), .second, .val (.double (WF j.val 1)), .second, .val (.double (WF j.val 2)), .second, .val (.double (WF j.val 3)), .second, .val (.double (WF j.val 4)), .second, .val (.double (WF j.val 5)), .second, .val (.double (WF j.val 6)), .second, .val (.double (WF j.val 7)), .second, .val (.int (Int32.ofNat (j.val / 2)))] [(.double (WF j.val 5)), (.double (WF j.val 3)), (.double (WF j.val 4)), (.int (4 : Int32))])) _
      refine XS.dloadN X70.here hx rfl (hb hby at_275) rfl ?_
      show Steps p.tables e below (T70.setTop (mkF m 276 #[.val (.int p1), .val (.int p2), .val (.int (0 : Int32)), .val (.double (mnF j.val)), .second, .val (.ref ob), .val (.double (WF j.val 0)), .second, .val (.double (WF j.val 1)), .second, .val (.double (WF j.val 2)), .second, .val (.double (WF j.val 3)), .second, .val (.double (WF j.val 4)), .second, .val (.double (WF j.val 5)), .second, .val (.double (WF j.val 6)), .second, .val (.double (WF j.val 7)), .second, .val (.int (Int32.ofNat (j.val / 2)))] [(.double (mnF j.val)), (.double (WF j.val 5)), (.double (WF j.val 3)), (.double (WF j.val 4)), (.int (4 : Int32))])) _
      refine XS.iload X70.here hx rfl (hb hby at_276) rfl ?_
      show Steps p.tables e below (T70.setTop (mkF m 278 #[.val (.int p1), .val (.int p2), .val (.int (0 : Int32)), .val (.double (mnF j.val)), .second, .val (.ref ob), .val (.double (WF j.val 0)), .second, .val (.double (WF j.val 1)), .second, .val (.double (WF j.val 2)), .second, .val (.double (WF j.val 3)), .second, .val (.double (WF j.val 4)), .second, .val (.double (WF j.val 5)), .second, .val (.double (WF j.val 6)), .second, .val (.double (WF j.val 7)), .second, .val (.int (Int32.ofNat (j.val / 2)))] [(.int (Int32.ofNat (j.val / 2))), (.double (mnF j.val)), (.double (WF j.val 5)), (.double (WF j.val 3)), (.double (WF j.val 4)), (.int (4 : Int32))])) _
      exact k)
    obtain ⟨_, _, ⟨T73, L73, k73', n73⟩, -, X73, ⟨Lc73, hQ73, l73, y73, z73⟩, st73⟩ := Jvm.LawKit.callS X70 hx (y := (⟨"com/example/topple/topple/markov/PoissonWeightsNextPinLaw", "ok", "(IDDDDI)Z"⟩ : MethodName)) hown (mvT hZ (hw _ (List.mem_of_getElem? (i := 34) rfl))) (mvT hZ (hw _ (List.mem_of_getElem? (i := 35) rfl))) (mvT hZ (hw _ (List.mem_of_getElem? (i := 36) rfl))) (mvT hZ (hw _ (List.mem_of_getElem? (i := 37) rfl))) (by decide) (backOf (W := 0) (rm_ok l Z a0 hw [] (4 : Int32) (WF j.val 4) (WF j.val 3) (WF j.val 5) (mnF j.val) (Int32.ofNat (j.val / 2)) T52.heap n0 (Nat.le_trans (Nat.le_trans (Nat.le_trans (Nat.le_trans (Nat.le_trans (Nat.le_trans (Nat.le_trans (Nat.le_trans (Nat.le_trans (Nat.le_trans Z0 E4.1) K13.1) K17.1) K22.1) K27.1) K32.1) K37.1) K42.1) K47.1) K52.1) (oke_4 j) (fun q1 q2 => by
          obtain ⟨x1, x2, x3⟩ := okl_4 j q1 q2
          exact ⟨nn_of x1, nn_of x2, x3⟩) (fun q1 q2 => by
          obtain ⟨x1, x2, x3⟩ := okg_4 j q1 q2
          exact ⟨nn_of x1, nn_of x2, x3⟩)) hZ (hw _ (List.mem_of_getElem? (i := 37) rfl)) (hw _ (List.mem_of_getElem? (i := 36) rfl)) (by decide) (by decide)) (g := (mkF m 278 #[.val (.int p1), .val (.int p2), .val (.int (0 : Int32)), .val (.double (mnF j.val)), .second, .val (.ref ob), .val (.double (WF j.val 0)), .second, .val (.double (WF j.val 1)), .second, .val (.double (WF j.val 2)), .second, .val (.double (WF j.val 3)), .second, .val (.double (WF j.val 4)), .second, .val (.double (WF j.val 5)), .second, .val (.double (WF j.val 6)), .second, .val (.double (WF j.val 7)), .second, .val (.int (Int32.ofNat (j.val / 2)))] [(.int (Int32.ofNat (j.val / 2))), (.double (mnF j.val)), (.double (WF j.val 5)), (.double (WF j.val 3)), (.double (WF j.val 4)), (.int (4 : Int32))])) rfl (by rw [hml]; rfl) (argsL := [(.int (4 : Int32)), (.double (WF j.val 4)), (.double (WF j.val 3)), (.double (WF j.val 5)), (.double (mnF j.val)), (.int (Int32.ofNat (j.val / 2)))]) (rest := []) (lenOf pd__IDDDDI_Z rfl) rfl (by show 2 * 0 + _ ≤ _; exact Nat.le_of_eq rfl) (hb hby at_278) (fun _ _ => ⟨rfl, e70, (by decide : 2 + 0 ≤ _), (by decide : 2006 + 0 ≤ _)⟩)
    dsimp only [Pt.U, Pt.locs, Pt.cells, Pt.slots] at X73 l73 y73 z73 st73 hQ73
    subst l73 y73 z73
    obtain ⟨rfl, N73, e73⟩ := hQ73
    have M73 := Fr.app M70 N73
    have c74 : ∀ t, Steps p.tables e below (T73.setTop (mkF m 281 #[.val (.int p1), .val (.int p2), .val (.int (0 : Int32)), .val (.double (mnF j.val)), .second, .val (.ref ob), .val (.double (WF j.val 0)), .second, .val (.double (WF j.val 1)), .second, .val (.double (WF j.val 2)), .second, .val (.double (WF j.val 3)), .second, .val (.double (WF j.val 4)), .second, .val (.double (WF j.val 5)), .second, .val (.double (WF j.val 6)), .second, .val (.double (WF j.val 7)), .second, .val (.int (Int32.ofNat (j.val / 2)))] [(.int (1 : Int32))])) t → Steps p.tables e below (s₁.setTop (entryFrame m #[(.int p1), (.int p2)] maxLocals)) t := fun t k => c72 t (st73 _ k)
    have c75 : ∀ t, Steps p.tables e below (T73.setTop (mkF m 294 #[.val (.int p1), .val (.int p2), .val (.int (0 : Int32)), .val (.double (mnF j.val)), .second, .val (.ref ob), .val (.double (WF j.val 0)), .second, .val (.double (WF j.val 1)), .second, .val (.double (WF j.val 2)), .second, .val (.double (WF j.val 3)), .second, .val (.double (WF j.val 4)), .second, .val (.double (WF j.val 5)), .second, .val (.double (WF j.val 6)), .second, .val (.double (WF j.val 7)), .second, .val (.int (Int32.ofNat (j.val / 2)))] [(.int (Int32.ofNat (j.val / 2))), (.double (mnF j.val)), (.double (WF j.val 6)), (.double (WF j.val 4)), (.double (WF j.val 5)), (.int (5 : Int32))])) t → Steps p.tables e below (s₁.setTop (entryFrame m #[(.int p1), (.int p2)] maxLocals)) t := fun t k => c74 t (by
      show Steps p.tables e below (T73.setTop (mkF m 281 #[.val (.int p1), .val (.int p2), .val (.int (0 : Int32)), .val (.double (mnF j.val)), .second, .val (.ref ob), .val (.double (WF j.val 0)), .second, .val (.double (WF j.val 1)), .second, .val (.double (WF j.val 2)), .second, .val (.double (WF j.val 3)), .second, .val (.double (WF j.val 4)), .second, .val (.double (WF j.val 5)), .second, .val (.double (WF j.val 6)), .second, .val (.double (WF j.val 7)), .second, .val (.int (Int32.ofNat (j.val / 2)))] [(.int (1 : Int32))])) _
      refine XS.ifNo X73.here hx rfl (hb hby at_281) rfl (XT.i0_eq_f (by decide)) ?_
      show Steps p.tables e below (T73.setTop (mkF m 284 #[.val (.int p1), .val (.int p2), .val (.int (0 : Int32)), .val (.double (mnF j.val)), .second, .val (.ref ob), .val (.double (WF j.val 0)), .second, .val (.double (WF j.val 1)), .second, .val (.double (WF j.val 2)), .second, .val (.double (WF j.val 3)), .second, .val (.double (WF j.val 4)), .second, .val (.double (WF j.val 5)), .second, .val (.double (WF j.val 6)), .second, .val (.double (WF j.val 7)), .second, .val (.int (Int32.ofNat (j.val / 2)))] [])) _
      refine XS.iconst X73.here hx rfl (hb hby at_284) ?_
      show Steps p.tables e below (T73.setTop (mkF m 285 #[.val (.int p1), .val (.int p2), .val (.int (0 : Int32)), .val (.double (mnF j.val)), .second, .val (.ref ob), .val (.double (WF j.val 0)), .second, .val (.double (WF j.val 1)), .second, .val (.double (WF j.val 2)), .second, .val (.double (WF j.val 3)), .second, .val (.double (WF j.val 4)), .second, .val (.double (WF j.val 5)), .second, .val (.double (WF j.val 6)), .second, .val (.double (WF j.val 7)), .second, .val (.int (Int32.ofNat (j.val / 2)))] [(.int (5 : Int32))])) _
      refine XS.dload X73.here hx rfl (hb hby at_285) rfl ?_
      show Steps p.tables e below (T73.setTop (mkF m 287 #[.val (.int p1), .val (.int p2), .val (.int (0 : Int32)), .val (.double (mnF j.val)), .second, .val (.ref ob), .val (.double (WF j.val 0)), .second, .val (.double (WF j.val 1)), .second, .val (.double (WF j.val 2)), .second, .val (.double (WF j.val 3)), .second, .val (.double (WF j.val 4)), .second, .val (.double (WF j.val 5)), .second, .val (.double (WF j.val 6)), .second, .val (.double (WF j.val 7)), .second, .val (.int (Int32.ofNat (j.val / 2)))] [(.double (WF j.val 5)), (.int (5 : Int32))])) _
      refine XS.dload X73.here hx rfl (hb hby at_287) rfl ?_
      show Steps p.tables e below (T73.setTop (mkF m 289 #[.val (.int p1), .val (.int p2), .val (.int (0 : Int32)), .val (.double (mnF j.val)), .second, .val (.ref ob), .val (.double (WF j.val 0)), .second, .val (.double (WF j.val 1)), .second, .val (.double (WF j.val 2)), .second, .val (.double (WF j.val 3)), .second, .val (.double (WF j.val 4)), .second, .val (.double (WF j.val 5)), .second, .val (.double (WF j.val 6)), .second, .val (.double (WF j.val 7)), .second, .val (.int (Int32.ofNat (j.val / 2)))] [(.double (WF j.val 4)), (.double (WF j.val 5)), (.int (5 : Int32))])) _
      refine XS.dload X73.here hx rfl (hb hby at_289) rfl ?_
      show Steps p.tables e below (T73.setTop (mkF m 291 #[.val (.int p1), .val (.int p2), .val (.int (0 : Int32)), .val (.double (mnF j.val)), .second, .val (.ref ob), .val (.double (WF j.val 0)), .second, .val (.double (WF j.val 1)), .second, .val (.double (WF j.val 2)), .second, .val (.double (WF j.val 3)), .second, .val (.double (WF j.val 4)), .second, .val (.double (WF j.val 5)), .second, .val (.double (WF j.val 6)), .second, .val (.double (WF j.val 7)), .second, .val (.int (Int32.ofNat (j.val / 2)))] [(.double (WF j.val 6)), (.double (WF j.val 4)), (.double (WF j.val 5)), (.int (5 : Int32))])) _
      refine XS.dloadN X73.here hx rfl (hb hby at_291) rfl ?_
      show Steps p.tables e below (T73.setTop (mkF m 292 #[.val (.int p1), .val (.int p2), .val (.int (0 : Int32)), .val (.double (mnF j.val)), .second, .val (.ref ob), .val (.double (WF j.val 0)), .second, .val (.double (WF j.val 1)), .second, .val (.double (WF j.val 2)), .second, .val (.double (WF j.val 3)), .second, .val (.double (WF j.val 4)), .second, .val (.double (WF j.val 5)), .second, .val (.double (WF j.val 6)), .second, .val (.double (WF j.val 7)), .second, .val (.int (Int32.ofNat (j.val / 2)))] [(.double (mnF j.val)), (.double (WF j.val 6)), (.double (WF j.val 4)), (.double (WF j.val 5)), (.int (5 : Int32))])) _
      refine XS.iload X73.here hx rfl (hb hby at_292) rfl ?_
      show Steps p.tables e below (T73.setTop (mkF m 294 #[.val (.int p1), .val (.int p2), .val (.int (0 : Int32)), .val (.double (mnF j.val)), .second, .val (.ref ob), .val (.double (WF j.val 0)), .second, .val (.double (WF j.val 1)), .second, .val (.double (WF j.val 2)), .second, .val (.double (WF j.val 3)), .second, .val (.double (WF j.val 4)), .second, .val (.double (WF j.val 5)), .second, .val (.double (WF j.val 6)), .second, .val (.double (WF j.val 7)), .second, .val (.int (Int32.ofNat (j.val / 2)))] [(.int (Int32.ofNat (j.val / 2))), (.double (mnF j.val)), (.double (WF j.val 6)), (.double (WF j.val 4)), (.double (WF j.val 5)), (.int (5 : Int32))])) _
      exact k)
    obtain ⟨_, _, ⟨T76, L76, k76', n76⟩, -, X76, ⟨Lc76, hQ76, l76, y76, z76⟩, st76⟩ := Jvm.LawKit.callS X73 hx (y := (⟨"com/example/topple/topple/markov/PoissonWeightsNextPinLaw", "ok", "(IDDDDI)Z"⟩ : MethodName)) hown (mvT hZ (hw _ (List.mem_of_getElem? (i := 34) rfl))) (mvT hZ (hw _ (List.mem_of_getElem? (i := 35) rfl))) (mvT hZ (hw _ (List.mem_of_getElem? (i := 36) rfl))) (mvT hZ (hw _ (List.mem_of_getElem? (i := 37) rfl))) (by decide) (backOf (W := 0) (rm_ok l Z a0 hw [] (5 : Int32) (WF j.val 5) (WF j.val 4) (WF j.val 6) (mnF j.val) (Int32.ofNat (j.val / 2)) T52.heap n0 (Nat.le_trans (Nat.le_trans (Nat.le_trans (Nat.le_trans (Nat.le_trans (Nat.le_trans (Nat.le_trans (Nat.le_trans (Nat.le_trans (Nat.le_trans Z0 E4.1) K13.1) K17.1) K22.1) K27.1) K32.1) K37.1) K42.1) K47.1) K52.1) (oke_5 j) (fun q1 q2 => by
          obtain ⟨x1, x2, x3⟩ := okl_5 j q1 q2
          exact ⟨nn_of x1, nn_of x2, x3⟩) (fun q1 q2 => by
          obtain ⟨x1, x2, x3⟩ := okg_5 j q1 q2
          exact ⟨nn_of x1, nn_of x2, x3⟩)) hZ (hw _ (List.mem_of_getElem? (i := 37) rfl)) (hw _ (List.mem_of_getElem? (i := 36) rfl)) (by decide) (by decide)) (g := (mkF m 294 #[.val (.int p1), .val (.int p2), .val (.int (0 : Int32)), .val (.double (mnF j.val)), .second, .val (.ref ob), .val (.double (WF j.val 0)), .second, .val (.double (WF j.val 1)), .second, .val (.double (WF j.val 2)), .second, .val (.double (WF j.val 3)), .second, .val (.double (WF j.val 4)), .second, .val (.double (WF j.val 5)), .second, .val (.double (WF j.val 6)), .second, .val (.double (WF j.val 7)), .second, .val (.int (Int32.ofNat (j.val / 2)))] [(.int (Int32.ofNat (j.val / 2))), (.double (mnF j.val)), (.double (WF j.val 6)), (.double (WF j.val 4)), (.double (WF j.val 5)), (.int (5 : Int32))])) rfl (by rw [hml]; rfl) (argsL := [(.int (5 : Int32)), (.double (WF j.val 5)), (.double (WF j.val 4)), (.double (WF j.val 6)), (.double (mnF j.val)), (.int (Int32.ofNat (j.val / 2)))]) (rest := []) (lenOf pd__IDDDDI_Z rfl) rfl (by show 2 * 0 + _ ≤ _; exact Nat.le_of_eq rfl) (hb hby at_294) (fun _ _ => ⟨rfl, e73, (by decide : 2 + 0 ≤ _), (by decide : 2006 + 0 ≤ _)⟩)
    dsimp only [Pt.U, Pt.locs, Pt.cells, Pt.slots] at X76 l76 y76 z76 st76 hQ76
    subst l76 y76 z76
    obtain ⟨rfl, N76, e76⟩ := hQ76
    have M76 := Fr.app M73 N76
    have c77 : ∀ t, Steps p.tables e below (T76.setTop (mkF m 297 #[.val (.int p1), .val (.int p2), .val (.int (0 : Int32)), .val (.double (mnF j.val)), .second, .val (.ref ob), .val (.double (WF j.val 0)), .second, .val (.double (WF j.val 1)), .second, .val (.double (WF j.val 2)), .second, .val (.double (WF j.val 3)), .second, .val (.double (WF j.val 4)), .second, .val (.double (WF j.val 5)), .second, .val (.double (WF j.val 6)), .second, .val (.double (WF j.val 7)), .second, .val (.int (Int32.ofNat (j.val / 2)))] [(.int (1 : Int32))])) t → Steps p.tables e below (s₁.setTop (entryFrame m #[(.int p1), (.int p2)] maxLocals)) t := fun t k => c75 t (st76 _ k)
    have c78 : ∀ t, Steps p.tables e below (T76.setTop (mkF m 311 #[.val (.int p1), .val (.int p2), .val (.int (0 : Int32)), .val (.double (mnF j.val)), .second, .val (.ref ob), .val (.double (WF j.val 0)), .second, .val (.double (WF j.val 1)), .second, .val (.double (WF j.val 2)), .second, .val (.double (WF j.val 3)), .second, .val (.double (WF j.val 4)), .second, .val (.double (WF j.val 5)), .second, .val (.double (WF j.val 6)), .second, .val (.double (WF j.val 7)), .second, .val (.int (Int32.ofNat (j.val / 2)))] [(.int (Int32.ofNat (j.val / 2))), (.double (mnF j.val)), (.double (WF j.val 7)), (.double (WF j.val 5)), (.double (WF j.val 6)), (.int (6 : Int32))])) t → Steps p.tables e below (s₁.setTop (entryFrame m #[(.int p1), (.int p2)] maxLocals)) t := fun t k => c77 t (by
      show Steps p.tables e below (T76.setTop (mkF m 297 #[.val (.int p1), .val (.int p2), .val (.int (0 : Int32)), .val (.double (mnF j.val)), .second, .val (.ref ob), .val (.double (WF j.val 0)), .second, .val (.double (WF j.val 1)), .second, .val (.double (WF j.val 2)), .second, .val (.double (WF j.val 3)), .second, .val (.double (WF j.val 4)), .second, .val (.double (WF j.val 5)), .second, .val (.double (WF j.val 6)), .second, .val (.double (WF j.val 7)), .second, .val (.int (Int32.ofNat (j.val / 2)))] [(.int (1 : Int32))])) _
      refine XS.ifNo X76.here hx rfl (hb hby at_297) rfl (XT.i0_eq_f (by decide)) ?_
      show Steps p.tables e below (T76.setTop (mkF m 300 #[.val (.int p1), .val (.int p2), .val (.int (0 : Int32)), .val (.double (mnF j.val)), .second, .val (.ref ob), .val (.double (WF j.val 0)), .second, .val (.double (WF j.val 1)), .second, .val (.double (WF j.val 2)), .second, .val (.double (WF j.val 3)), .second, .val (.double (WF j.val 4)), .second, .val (.double (WF j.val 5)), .second, .val (.double (WF j.val 6)), .second, .val (.double (WF j.val 7)), .second, .val (.int (Int32.ofNat (j.val / 2)))] [])) _
      refine XS.bipush X76.here hx rfl (hb hby at_300) ?_
      show Steps p.tables e below (T76.setTop (mkF m 302 #[.val (.int p1), .val (.int p2), .val (.int (0 : Int32)), .val (.double (mnF j.val)), .second, .val (.ref ob), .val (.double (WF j.val 0)), .second, .val (.double (WF j.val 1)), .second, .val (.double (WF j.val 2)), .second, .val (.double (WF j.val 3)), .second, .val (.double (WF j.val 4)), .second, .val (.double (WF j.val 5)), .second, .val (.double (WF j.val 6)), .second, .val (.double (WF j.val 7)), .second, .val (.int (Int32.ofNat (j.val / 2)))] [(.int (6 : Int32))])) _
      refine XS.dload X76.here hx rfl (hb hby at_302) rfl ?_
      show Steps p.tables e below (T76.setTop (mkF m 304 #[.val (.int p1), .val (.int p2), .val (.int (0 : Int32)), .val (.double (mnF j.val)), .second, .val (.ref ob), .val (.double (WF j.val 0)), .second, .val (.double (WF j.val 1)), .second, .val (.double (WF j.val 2)), .second, .val (.double (WF j.val 3)), .second, .val (.double (WF j.val 4)), .second, .val (.double (WF j.val 5)), .second, .val (.double (WF j.val 6)), .second, .val (.double (WF j.val 7)), .second, .val (.int (Int32.ofNat (j.val / 2)))] [(.double (WF j.val 6)), (.int (6 : Int32))])) _
      refine XS.dload X76.here hx rfl (hb hby at_304) rfl ?_
      show Steps p.tables e below (T76.setTop (mkF m 306 #[.val (.int p1), .val (.int p2), .val (.int (0 : Int32)), .val (.double (mnF j.val)), .second, .val (.ref ob), .val (.double (WF j.val 0)), .second, .val (.double (WF j.val 1)), .second, .val (.double (WF j.val 2)), .second, .val (.double (WF j.val 3)), .second, .val (.double (WF j.val 4)), .second, .val (.double (WF j.val 5)), .second, .val (.double (WF j.val 6)), .second, .val (.double (WF j.val 7)), .second, .val (.int (Int32.ofNat (j.val / 2)))] [(.double (WF j.val 5)), (.double (WF j.val 6)), (.int (6 : Int32))])) _
      refine XS.dload X76.here hx rfl (hb hby at_306) rfl ?_
      show Steps p.tables e below (T76.setTop (mkF m 308 #[.val (.int p1), .val (.int p2), .val (.int (0 : Int32)), .val (.double (mnF j.val)), .second, .val (.ref ob), .val (.double (WF j.val 0)), .second, .val (.double (WF j.val 1)), .second, .val (.double (WF j.val 2)), .second, .val (.double (WF j.val 3)), .second, .val (.double (WF j.val 4)), .second, .val (.double (WF j.val 5)), .second, .val (.double (WF j.val 6)), .second, .val (.double (WF j.val 7)), .second, .val (.int (Int32.ofNat (j.val / 2)))] [(.double (WF j.val 7)), (.double (WF j.val 5)), (.double (WF j.val 6)), (.int (6 : Int32))])) _
      refine XS.dloadN X76.here hx rfl (hb hby at_308) rfl ?_
      show Steps p.tables e below (T76.setTop (mkF m 309 #[.val (.int p1), .val (.int p2), .val (.int (0 : Int32)), .val (.double (mnF j.val)), .second, .val (.ref ob), .val (.double (WF j.val 0)), .second, .val (.double (WF j.val 1)), .second, .val (.double (WF j.val 2)), .second, .val (.double (WF j.val 3)), .second, .val (.double (WF j.val 4)), .second, .val (.double (WF j.val 5)), .second, .val (.double (WF j.val 6)), .second, .val (.double (WF j.val 7)), .second, .val (.int (Int32.ofNat (j.val / 2)))] [(.double (mnF j.val)), (.double (WF j.val 7)), (.double (WF j.val 5)), (.double (WF j.val 6)), (.int (6 : Int32))])) _
      refine XS.iload X76.here hx rfl (hb hby at_309) rfl ?_
      show Steps p.tables e below (T76.setTop (mkF m 311 #[.val (.int p1), .val (.int p2), .val (.int (0 : Int32)), .val (.double (mnF j.val)), .second, .val (.ref ob), .val (.double (WF j.val 0)), .second, .val (.double (WF j.val 1)), .second, .val (.double (WF j.val 2)), .second, .val (.double (WF j.val 3)), .second, .val (.double (WF j.val 4)), .second, .val (.double (WF j.val 5)), .second, .val (.double (WF j.val 6)), .second, .val (.double (WF j.val 7)), .second, .val (.int (Int32.ofNat (j.val / 2)))] [(.int (Int32.ofNat (j.val / 2))), (.double (mnF j.val)), (.double (WF j.val 7)), (.double (WF j.val 5)), (.double (WF j.val 6)), (.int (6 : Int32))])) _
      exact k)
    obtain ⟨_, _, ⟨T79, L79, k79', n79⟩, -, X79, ⟨Lc79, hQ79, l79, y79, z79⟩, st79⟩ := Jvm.LawKit.callS X76 hx (y := (⟨"com/example/topple/topple/markov/PoissonWeightsNextPinLaw", "ok", "(IDDDDI)Z"⟩ : MethodName)) hown (mvT hZ (hw _ (List.mem_of_getElem? (i := 34) rfl))) (mvT hZ (hw _ (List.mem_of_getElem? (i := 35) rfl))) (mvT hZ (hw _ (List.mem_of_getElem? (i := 36) rfl))) (mvT hZ (hw _ (List.mem_of_getElem? (i := 37) rfl))) (by decide) (backOf (W := 0) (rm_ok l Z a0 hw [] (6 : Int32) (WF j.val 6) (WF j.val 5) (WF j.val 7) (mnF j.val) (Int32.ofNat (j.val / 2)) T52.heap n0 (Nat.le_trans (Nat.le_trans (Nat.le_trans (Nat.le_trans (Nat.le_trans (Nat.le_trans (Nat.le_trans (Nat.le_trans (Nat.le_trans (Nat.le_trans Z0 E4.1) K13.1) K17.1) K22.1) K27.1) K32.1) K37.1) K42.1) K47.1) K52.1) (oke_6 j) (fun q1 q2 => by
          obtain ⟨x1, x2, x3⟩ := okl_6 j q1 q2
          exact ⟨nn_of x1, nn_of x2, x3⟩) (fun q1 q2 => by
          obtain ⟨x1, x2, x3⟩ := okg_6 j q1 q2
          exact ⟨nn_of x1, nn_of x2, x3⟩)) hZ (hw _ (List.mem_of_getElem? (i := 37) rfl)) (hw _ (List.mem_of_getElem? (i := 36) rfl)) (by decide) (by decide)) (g := (mkF m 311 #[.val (.int p1), .val (.int p2), .val (.int (0 : Int32)), .val (.double (mnF j.val)), .second, .val (.ref ob), .val (.double (WF j.val 0)), .second, .val (.double (WF j.val 1)), .second, .val (.double (WF j.val 2)), .second, .val (.double (WF j.val 3)), .second, .val (.double (WF j.val 4)), .second, .val (.double (WF j.val 5)), .second, .val (.double (WF j.val 6)), .second, .val (.double (WF j.val 7)), .second, .val (.int (Int32.ofNat (j.val / 2)))] [(.int (Int32.ofNat (j.val / 2))), (.double (mnF j.val)), (.double (WF j.val 7)), (.double (WF j.val 5)), (.double (WF j.val 6)), (.int (6 : Int32))])) rfl (by rw [hml]; rfl) (argsL := [(.int (6 : Int32)), (.double (WF j.val 6)), (.double (WF j.val 5)), (.double (WF j.val 7)), (.double (mnF j.val)), (.int (Int32.ofNat (j.val / 2)))]) (rest := []) (lenOf pd__IDDDDI_Z rfl) rfl (by show 2 * 0 + _ ≤ _; exact Nat.le_of_eq rfl) (hb hby at_311) (fun _ _ => ⟨rfl, e76, (by decide : 2 + 0 ≤ _), (by decide : 2006 + 0 ≤ _)⟩)
    dsimp only [Pt.U, Pt.locs, Pt.cells, Pt.slots] at X79 l79 y79 z79 st79 hQ79
    subst l79 y79 z79
    obtain ⟨rfl, N79, e79⟩ := hQ79
    have M79 := Fr.app M76 N79
    have c80 : ∀ t, Steps p.tables e below (T79.setTop (mkF m 314 #[.val (.int p1), .val (.int p2), .val (.int (0 : Int32)), .val (.double (mnF j.val)), .second, .val (.ref ob), .val (.double (WF j.val 0)), .second, .val (.double (WF j.val 1)), .second, .val (.double (WF j.val 2)), .second, .val (.double (WF j.val 3)), .second, .val (.double (WF j.val 4)), .second, .val (.double (WF j.val 5)), .second, .val (.double (WF j.val 6)), .second, .val (.double (WF j.val 7)), .second, .val (.int (Int32.ofNat (j.val / 2)))] [(.int (1 : Int32))])) t → Steps p.tables e below (s₁.setTop (entryFrame m #[(.int p1), (.int p2)] maxLocals)) t := fun t k => c78 t (st79 _ k)
    have c81 : ∀ t, Steps p.tables e below (T79.setTop (mkF m 327 #[.val (.int p1), .val (.int p2), .val (.int (0 : Int32)), .val (.double (mnF j.val)), .second, .val (.ref ob), .val (.double (WF j.val 0)), .second, .val (.double (WF j.val 1)), .second, .val (.double (WF j.val 2)), .second, .val (.double (WF j.val 3)), .second, .val (.double (WF j.val 4)), .second, .val (.double (WF j.val 5)), .second, .val (.double (WF j.val 6)), .second, .val (.double (WF j.val 7)), .second, .val (.int (Int32.ofNat (j.val / 2)))] [(.int (Int32.ofNat (j.val / 2))), (.double (mnF j.val)), (.double FP.dconst0), (.double (WF j.val 6)), (.double (WF j.val 7)), (.int (7 : Int32))])) t → Steps p.tables e below (s₁.setTop (entryFrame m #[(.int p1), (.int p2)] maxLocals)) t := fun t k => c80 t (by
      show Steps p.tables e below (T79.setTop (mkF m 314 #[.val (.int p1), .val (.int p2), .val (.int (0 : Int32)), .val (.double (mnF j.val)), .second, .val (.ref ob), .val (.double (WF j.val 0)), .second, .val (.double (WF j.val 1)), .second, .val (.double (WF j.val 2)), .second, .val (.double (WF j.val 3)), .second, .val (.double (WF j.val 4)), .second, .val (.double (WF j.val 5)), .second, .val (.double (WF j.val 6)), .second, .val (.double (WF j.val 7)), .second, .val (.int (Int32.ofNat (j.val / 2)))] [(.int (1 : Int32))])) _
      refine XS.ifNo X79.here hx rfl (hb hby at_314) rfl (XT.i0_eq_f (by decide)) ?_
      show Steps p.tables e below (T79.setTop (mkF m 317 #[.val (.int p1), .val (.int p2), .val (.int (0 : Int32)), .val (.double (mnF j.val)), .second, .val (.ref ob), .val (.double (WF j.val 0)), .second, .val (.double (WF j.val 1)), .second, .val (.double (WF j.val 2)), .second, .val (.double (WF j.val 3)), .second, .val (.double (WF j.val 4)), .second, .val (.double (WF j.val 5)), .second, .val (.double (WF j.val 6)), .second, .val (.double (WF j.val 7)), .second, .val (.int (Int32.ofNat (j.val / 2)))] [])) _
      refine XS.bipush X79.here hx rfl (hb hby at_317) ?_
      show Steps p.tables e below (T79.setTop (mkF m 319 #[.val (.int p1), .val (.int p2), .val (.int (0 : Int32)), .val (.double (mnF j.val)), .second, .val (.ref ob), .val (.double (WF j.val 0)), .second, .val (.double (WF j.val 1)), .second, .val (.double (WF j.val 2)), .second, .val (.double (WF j.val 3)), .second, .val (.double (WF j.val 4)), .second, .val (.double (WF j.val 5)), .second, .val (.double (WF j.val 6)), .second, .val (.double (WF j.val 7)), .second, .val (.int (Int32.ofNat (j.val / 2)))] [(.int (7 : Int32))])) _
      refine XS.dload X79.here hx rfl (hb hby at_319) rfl ?_
      show Steps p.tables e below (T79.setTop (mkF m 321 #[.val (.int p1), .val (.int p2), .val (.int (0 : Int32)), .val (.double (mnF j.val)), .second, .val (.ref ob), .val (.double (WF j.val 0)), .second, .val (.double (WF j.val 1)), .second, .val (.double (WF j.val 2)), .second, .val (.double (WF j.val 3)), .second, .val (.double (WF j.val 4)), .second, .val (.double (WF j.val 5)), .second, .val (.double (WF j.val 6)), .second, .val (.double (WF j.val 7)), .second, .val (.int (Int32.ofNat (j.val / 2)))] [(.double (WF j.val 7)), (.int (7 : Int32))])) _
      refine XS.dload X79.here hx rfl (hb hby at_321) rfl ?_
      show Steps p.tables e below (T79.setTop (mkF m 323 #[.val (.int p1), .val (.int p2), .val (.int (0 : Int32)), .val (.double (mnF j.val)), .second, .val (.ref ob), .val (.double (WF j.val 0)), .second, .val (.double (WF j.val 1)), .second, .val (.double (WF j.val 2)), .second, .val (.double (WF j.val 3)), .second, .val (.double (WF j.val 4)), .second, .val (.double (WF j.val 5)), .second, .val (.double (WF j.val 6)), .second, .val (.double (WF j.val 7)), .second, .val (.int (Int32.ofNat (j.val / 2)))] [(.double (WF j.val 6)), (.double (WF j.val 7)), (.int (7 : Int32))])) _
      refine XS.dconst0 X79.here hx rfl (hb hby at_323) rfl ?_
      show Steps p.tables e below (T79.setTop (mkF m 324 #[.val (.int p1), .val (.int p2), .val (.int (0 : Int32)), .val (.double (mnF j.val)), .second, .val (.ref ob), .val (.double (WF j.val 0)), .second, .val (.double (WF j.val 1)), .second, .val (.double (WF j.val 2)), .second, .val (.double (WF j.val 3)), .second, .val (.double (WF j.val 4)), .second, .val (.double (WF j.val 5)), .second, .val (.double (WF j.val 6)), .second, .val (.double (WF j.val 7)), .second, .val (.int (Int32.ofNat (j.val / 2)))] [(.double FP.dconst0), (.double (WF j.val 6)), (.double (WF j.val 7)), (.int (7 : Int32))])) _
      refine XS.dloadN X79.here hx rfl (hb hby at_324) rfl ?_
      show Steps p.tables e below (T79.setTop (mkF m 325 #[.val (.int p1), .val (.int p2), .val (.int (0 : Int32)), .val (.double (mnF j.val)), .second, .val (.ref ob), .val (.double (WF j.val 0)), .second, .val (.double (WF j.val 1)), .second, .val (.double (WF j.val 2)), .second, .val (.double (WF j.val 3)), .second, .val (.double (WF j.val 4)), .second, .val (.double (WF j.val 5)), .second, .val (.double (WF j.val 6)), .second, .val (.double (WF j.val 7)), .second, .val (.int (Int32.ofNat (j.val / 2)))] [(.double (mnF j.val)), (.double FP.dconst0), (.double (WF j.val 6)), (.double (WF j.val 7)), (.int (7 : Int32))])) _
      refine XS.iload X79.here hx rfl (hb hby at_325) rfl ?_
      show Steps p.tables e below (T79.setTop (mkF m 327 #[.val (.int p1), .val (.int p2), .val (.int (0 : Int32)), .val (.double (mnF j.val)), .second, .val (.ref ob), .val (.double (WF j.val 0)), .second, .val (.double (WF j.val 1)), .second, .val (.double (WF j.val 2)), .second, .val (.double (WF j.val 3)), .second, .val (.double (WF j.val 4)), .second, .val (.double (WF j.val 5)), .second, .val (.double (WF j.val 6)), .second, .val (.double (WF j.val 7)), .second, .val (.int (Int32.ofNat (j.val / 2)))] [(.int (Int32.ofNat (j.val / 2))), (.double (mnF j.val)), (.double FP.dconst0), (.double (WF j.val 6)), (.double (WF j.val 7)), (.int (7 : Int32))])) _
      exact k)
    obtain ⟨_, _, ⟨T82, L82, k82', n82⟩, -, X82, ⟨Lc82, hQ82, l82, y82, z82⟩, st82⟩ := Jvm.LawKit.callS X79 hx (y := (⟨"com/example/topple/topple/markov/PoissonWeightsNextPinLaw", "ok", "(IDDDDI)Z"⟩ : MethodName)) hown (mvT hZ (hw _ (List.mem_of_getElem? (i := 34) rfl))) (mvT hZ (hw _ (List.mem_of_getElem? (i := 35) rfl))) (mvT hZ (hw _ (List.mem_of_getElem? (i := 36) rfl))) (mvT hZ (hw _ (List.mem_of_getElem? (i := 37) rfl))) (by decide) (backOf (W := 0) (rm_ok l Z a0 hw [] (7 : Int32) (WF j.val 7) (WF j.val 6) FP.dconst0 (mnF j.val) (Int32.ofNat (j.val / 2)) T52.heap n0 (Nat.le_trans (Nat.le_trans (Nat.le_trans (Nat.le_trans (Nat.le_trans (Nat.le_trans (Nat.le_trans (Nat.le_trans (Nat.le_trans (Nat.le_trans Z0 E4.1) K13.1) K17.1) K22.1) K27.1) K32.1) K37.1) K42.1) K47.1) K52.1) (oke_7 j) (fun q1 q2 => by
          obtain ⟨x1, x2, x3⟩ := okl_7 j q1 q2
          exact ⟨nn_of x1, nn_of x2, x3⟩) (fun q1 q2 => by
          obtain ⟨x1, x2, x3⟩ := okg_7 j q1 q2
          exact ⟨nn_of x1, nn_of x2, x3⟩)) hZ (hw _ (List.mem_of_getElem? (i := 37) rfl)) (hw _ (List.mem_of_getElem? (i := 36) rfl)) (by decide) (by decide)) (g := (mkF m 327 #[.val (.int p1), .val (.int p2), .val (.int (0 : Int32)), .val (.double (mnF j.val)), .second, .val (.ref ob), .val (.double (WF j.val 0)), .second, .val (.double (WF j.val 1)), .second, .val (.double (WF j.val 2)), .second, .val (.double (WF j.val 3)), .second, .val (.double (WF j.val 4)), .second, .val (.double (WF j.val 5)), .second, .val (.double (WF j.val 6)), .second, .val (.double (WF j.val 7)), .second, .val (.int (Int32.ofNat (j.val / 2)))] [(.int (Int32.ofNat (j.val / 2))), (.double (mnF j.val)), (.double FP.dconst0), (.double (WF j.val 6)), (.double (WF j.val 7)), (.int (7 : Int32))])) rfl (by rw [hml]; rfl) (argsL := [(.int (7 : Int32)), (.double (WF j.val 7)), (.double (WF j.val 6)), (.double FP.dconst0), (.double (mnF j.val)), (.int (Int32.ofNat (j.val / 2)))]) (rest := []) (lenOf pd__IDDDDI_Z rfl) rfl (by show 2 * 0 + _ ≤ _; exact Nat.le_of_eq rfl) (hb hby at_327) (fun _ _ => ⟨rfl, e79, (by decide : 2 + 0 ≤ _), (by decide : 2006 + 0 ≤ _)⟩)
    dsimp only [Pt.U, Pt.locs, Pt.cells, Pt.slots] at X82 l82 y82 z82 st82 hQ82
    subst l82 y82 z82
    obtain ⟨rfl, N82, e82⟩ := hQ82
    have M82 := Fr.app M79 N82
    have c83 : ∀ t, Steps p.tables e below (T82.setTop (mkF m 330 #[.val (.int p1), .val (.int p2), .val (.int (0 : Int32)), .val (.double (mnF j.val)), .second, .val (.ref ob), .val (.double (WF j.val 0)), .second, .val (.double (WF j.val 1)), .second, .val (.double (WF j.val 2)), .second, .val (.double (WF j.val 3)), .second, .val (.double (WF j.val 4)), .second, .val (.double (WF j.val 5)), .second, .val (.double (WF j.val 6)), .second, .val (.double (WF j.val 7)), .second, .val (.int (Int32.ofNat (j.val / 2)))] [(.int (1 : Int32))])) t → Steps p.tables e below (s₁.setTop (entryFrame m #[(.int p1), (.int p2)] maxLocals)) t := fun t k => c81 t (st82 _ k)
    have c84 : ∀ t, Steps p.tables e below (T82.setTop (mkF m 338 #[.val (.int p1), .val (.int p2), .val (.int (0 : Int32)), .val (.double (mnF j.val)), .second, .val (.ref ob), .val (.double (WF j.val 0)), .second, .val (.double (WF j.val 1)), .second, .val (.double (WF j.val 2)), .second, .val (.double (WF j.val 3)), .second, .val (.double (WF j.val 4)), .second, .val (.double (WF j.val 5)), .second, .val (.double (WF j.val 6)), .second, .val (.double (WF j.val 7)), .second, .val (.int (Int32.ofNat (j.val / 2)))] [(.int (1 : Int32))])) t → Steps p.tables e below (s₁.setTop (entryFrame m #[(.int p1), (.int p2)] maxLocals)) t := fun t k => c83 t (by
      show Steps p.tables e below (T82.setTop (mkF m 330 #[.val (.int p1), .val (.int p2), .val (.int (0 : Int32)), .val (.double (mnF j.val)), .second, .val (.ref ob), .val (.double (WF j.val 0)), .second, .val (.double (WF j.val 1)), .second, .val (.double (WF j.val 2)), .second, .val (.double (WF j.val 3)), .second, .val (.double (WF j.val 4)), .second, .val (.double (WF j.val 5)), .second, .val (.double (WF j.val 6)), .second, .val (.double (WF j.val 7)), .second, .val (.int (Int32.ofNat (j.val / 2)))] [(.int (1 : Int32))])) _
      refine XS.ifNo X82.here hx rfl (hb hby at_330) rfl (XT.i0_eq_f (by decide)) ?_
      show Steps p.tables e below (T82.setTop (mkF m 333 #[.val (.int p1), .val (.int p2), .val (.int (0 : Int32)), .val (.double (mnF j.val)), .second, .val (.ref ob), .val (.double (WF j.val 0)), .second, .val (.double (WF j.val 1)), .second, .val (.double (WF j.val 2)), .second, .val (.double (WF j.val 3)), .second, .val (.double (WF j.val 4)), .second, .val (.double (WF j.val 5)), .second, .val (.double (WF j.val 6)), .second, .val (.double (WF j.val 7)), .second, .val (.int (Int32.ofNat (j.val / 2)))] [])) _
      refine XS.iconst X82.here hx rfl (hb hby at_333) ?_
      show Steps p.tables e below (T82.setTop (mkF m 334 #[.val (.int p1), .val (.int p2), .val (.int (0 : Int32)), .val (.double (mnF j.val)), .second, .val (.ref ob), .val (.double (WF j.val 0)), .second, .val (.double (WF j.val 1)), .second, .val (.double (WF j.val 2)), .second, .val (.double (WF j.val 3)), .second, .val (.double (WF j.val 4)), .second, .val (.double (WF j.val 5)), .second, .val (.double (WF j.val 6)), .second, .val (.double (WF j.val 7)), .second, .val (.int (Int32.ofNat (j.val / 2)))] [(.int (1 : Int32))])) _
      refine XS.goto X82.here hx rfl (pc0 := 334) (pc' := 338) rfl (hb hby at_334) (by decide) (by decide) ?_
      show Steps p.tables e below (T82.setTop (mkF m 338 #[.val (.int p1), .val (.int p2), .val (.int (0 : Int32)), .val (.double (mnF j.val)), .second, .val (.ref ob), .val (.double (WF j.val 0)), .second, .val (.double (WF j.val 1)), .second, .val (.double (WF j.val 2)), .second, .val (.double (WF j.val 3)), .second, .val (.double (WF j.val 4)), .second, .val (.double (WF j.val 5)), .second, .val (.double (WF j.val 6)), .second, .val (.double (WF j.val 7)), .second, .val (.int (Int32.ofNat (j.val / 2)))] [(.int (1 : Int32))])) _
      exact k)
    obtain ⟨fs, hr, hrun, hended, hW, hsame⟩ := X82.leave (v := (some (.int (1 : Int32)))) (fun h => by rw [Bd.returns] at h; cases h)
    refine ⟨_, _, pre0 _ (c84 _ (retN X82 hx (t := .boolean) Bd.returns (by simp) (hb hby at_338) hr)), hrun, hended, _, _, rfl, ?_, ⟨_, rfl⟩, hW, hsame.mono (by decide) (by decide)⟩
    show Q_0 Z p1 p2 h0 n0 _ T82.heap _
    rw [e82]
    exact ⟨rfl, M82⟩
  · skip
    obtain ⟨j0, hj0, et⟩ := t_k p1 (XT.ushr p1 (10 : Int32))
    obtain ⟨j, rfl⟩ : ∃ j : Fin 2048, j0 = j.val := ⟨⟨j0, hj0⟩, rfl⟩
    have hj1 := j.isLt
    have c85 : ∀ t, Steps p.tables e below (s₁.setTop (mkF m 34 #[.val (.int p1), .val (.int p2), .val (.int (1 : Int32)), .unset, .unset, .unset, .unset, .unset, .unset, .unset, .unset, .unset, .unset, .unset, .unset, .unset, .unset, .unset, .unset, .unset, .unset, .unset, .unset] [(.int (Int32.ofNat (2000 + j.val)))])) t → Steps p.tables e below (s₁.setTop (entryFrame m #[(.int p1), (.int p2)] maxLocals)) t := fun t k => c1 t (by
      rw [← et] at k
      show Steps p.tables e below (s₁.setTop (mkF m 3 #[.val (.int p1), .val (.int p2), .unset, .unset, .unset, .unset, .unset, .unset, .unset, .unset, .unset, .unset, .unset, .unset, .unset, .unset, .unset, .unset, .unset, .unset, .unset, .unset, .unset] [(.int (p2 &&& (1 : Int32)))])) _
      refine XS.ifNo X0.here hx rfl (hb hby at_3) rfl (XT.i0_eq_f qa) ?_
      show Steps p.tables e below (s₁.setTop (mkF m 6 #[.val (.int p1), .val (.int p2), .unset, .unset, .unset, .unset, .unset, .unset, .unset, .unset, .unset, .unset, .unset, .unset, .unset, .unset, .unset, .unset, .unset, .unset, .unset, .unset, .unset] [])) _
      refine XS.iconst X0.here hx rfl (hb hby at_6) ?_
      show Steps p.tables e below (s₁.setTop (mkF m 7 #[.val (.int p1), .val (.int p2), .unset, .unset, .unset, .unset, .unset, .unset, .unset, .unset, .unset, .unset, .unset, .unset, .unset, .unset, .unset, .unset, .unset, .unset, .unset, .unset, .unset] [(.int (1 : Int32))])) _
      refine XS.goto X0.here hx rfl (pc0 := 7) (pc' := 11) rfl (hb hby at_7) (by decide) (by decide) ?_
      show Steps p.tables e below (s₁.setTop (mkF m 11 #[.val (.int p1), .val (.int p2), .unset, .unset, .unset, .unset, .unset, .unset, .unset, .unset, .unset, .unset, .unset, .unset, .unset, .unset, .unset, .unset, .unset, .unset, .unset, .unset, .unset] [(.int (1 : Int32))])) _
      refine XS.istoreN X0.here hx rfl (hb hby at_11) rfl (l' := #[.val (.int p1), .val (.int p2), .val (.int (1 : Int32)), .unset, .unset, .unset, .unset, .unset, .unset, .unset, .unset, .unset, .unset, .unset, .unset, .unset, .unset, .unset, .unset, .unset, .unset, .unset, .unset]) rfl ?_
      show Steps p.tables e below (s₁.setTop (mkF m 12 #[.val (.int p1), .val (.int p2), .val (.int (1 : Int32)), .unset, .unset, .unset, .unset, .unset, .unset, .unset, .unset, .unset, .unset, .unset, .unset, .unset, .unset, .unset, .unset, .unset, .unset, .unset, .unset] [])) _
      refine XS.iloadN X0.here hx rfl (hb hby at_12) rfl ?_
      show Steps p.tables e below (s₁.setTop (mkF m 13 #[.val (.int p1), .val (.int p2), .val (.int (1 : Int32)), .unset, .unset, .unset, .unset, .unset, .unset, .unset, .unset, .unset, .unset, .unset, .unset, .unset, .unset, .unset, .unset, .unset, .unset, .unset, .unset] [(.int (1 : Int32))])) _
      refine XS.ifNo X0.here hx rfl (hb hby at_13) rfl (XT.i0_eq_f (by decide)) ?_
      show Steps p.tables e below (s₁.setTop (mkF m 16 #[.val (.int p1), .val (.int p2), .val (.int (1 : Int32)), .unset, .unset, .unset, .unset, .unset, .unset, .unset, .unset, .unset, .unset, .unset, .unset, .unset, .unset, .unset, .unset, .unset, .unset, .unset, .unset] [])) _
      refine XS.sipush X0.here hx rfl (hb hby at_16) ?_
      show Steps p.tables e below (s₁.setTop (mkF m 19 #[.val (.int p1), .val (.int p2), .val (.int (1 : Int32)), .unset, .unset, .unset, .unset, .unset, .unset, .unset, .unset, .unset, .unset, .unset, .unset, .unset, .unset, .unset, .unset, .unset, .unset, .unset, .unset] [(.int (2000 : Int32))])) _
      refine XS.iloadN X0.here hx rfl (hb hby at_19) rfl ?_
      show Steps p.tables e below (s₁.setTop (mkF m 20 #[.val (.int p1), .val (.int p2), .val (.int (1 : Int32)), .unset, .unset, .unset, .unset, .unset, .unset, .unset, .unset, .unset, .unset, .unset, .unset, .unset, .unset, .unset, .unset, .unset, .unset, .unset, .unset] [(.int p1), (.int (2000 : Int32))])) _
      refine XS.sipush X0.here hx rfl (hb hby at_20) ?_
      show Steps p.tables e below (s₁.setTop (mkF m 23 #[.val (.int p1), .val (.int p2), .val (.int (1 : Int32)), .unset, .unset, .unset, .unset, .unset, .unset, .unset, .unset, .unset, .unset, .unset, .unset, .unset, .unset, .unset, .unset, .unset, .unset, .unset, .unset] [(.int (1023 : Int32)), (.int p1), (.int (2000 : Int32))])) _
      refine XS.iand X0.here hx rfl (hb hby at_23) rfl ?_
      show Steps p.tables e below (s₁.setTop (mkF m 24 #[.val (.int p1), .val (.int p2), .val (.int (1 : Int32)), .unset, .unset, .unset, .unset, .unset, .unset, .unset, .unset, .unset, .unset, .unset, .unset, .unset, .unset, .unset, .unset, .unset, .unset, .unset, .unset] [(.int (p1 &&& (1023 : Int32))), (.int (2000 : Int32))])) _
      refine XS.iconst X0.here hx rfl (hb hby at_24) ?_
      show Steps p.tables e below (s₁.setTop (mkF m 25 #[.val (.int p1), .val (.int p2), .val (.int (1 : Int32)), .unset, .unset, .unset, .unset, .unset, .unset, .unset, .unset, .unset, .unset, .unset, .unset, .unset, .unset, .unset, .unset, .unset, .unset, .unset, .unset] [(.int (1 : Int32)), (.int (p1 &&& (1023 : Int32))), (.int (2000 : Int32))])) _
      refine XT.ishl X0.here hx rfl (hb hby at_25) rfl ?_
      show Steps p.tables e below (s₁.setTop (mkF m 26 #[.val (.int p1), .val (.int p2), .val (.int (1 : Int32)), .unset, .unset, .unset, .unset, .unset, .unset, .unset, .unset, .unset, .unset, .unset, .unset, .unset, .unset, .unset, .unset, .unset, .unset, .unset, .unset] [(.int ((p1 &&& (1023 : Int32)) <<< ((1 : Int32) &&& 31))), (.int (2000 : Int32))])) _
      refine XS.iadd X0.here hx rfl (hb hby at_26) rfl ?_
      show Steps p.tables e below (s₁.setTop (mkF m 27 #[.val (.int p1), .val (.int p2), .val (.int (1 : Int32)), .unset, .unset, .unset, .unset, .unset, .unset, .unset, .unset, .unset, .unset, .unset, .unset, .unset, .unset, .unset, .unset, .unset, .unset, .unset, .unset] [(.int ((2000 : Int32) + ((p1 &&& (1023 : Int32)) <<< ((1 : Int32) &&& 31))))])) _
      refine XS.iloadN X0.here hx rfl (hb hby at_27) rfl ?_
      show Steps p.tables e below (s₁.setTop (mkF m 28 #[.val (.int p1), .val (.int p2), .val (.int (1 : Int32)), .unset, .unset, .unset, .unset, .unset, .unset, .unset, .unset, .unset, .unset, .unset, .unset, .unset, .unset, .unset, .unset, .unset, .unset, .unset, .unset] [(.int p1), (.int ((2000 : Int32) + ((p1 &&& (1023 : Int32)) <<< ((1 : Int32) &&& 31))))])) _
      refine XS.bipush X0.here hx rfl (hb hby at_28) ?_
      show Steps p.tables e below (s₁.setTop (mkF m 30 #[.val (.int p1), .val (.int p2), .val (.int (1 : Int32)), .unset, .unset, .unset, .unset, .unset, .unset, .unset, .unset, .unset, .unset, .unset, .unset, .unset, .unset, .unset, .unset, .unset, .unset, .unset, .unset] [(.int (10 : Int32)), (.int p1), (.int ((2000 : Int32) + ((p1 &&& (1023 : Int32)) <<< ((1 : Int32) &&& 31))))])) _
      refine XT.iushr X0.here hx rfl (hb hby at_30) rfl ?_
      show Steps p.tables e below (s₁.setTop (mkF m 31 #[.val (.int p1), .val (.int p2), .val (.int (1 : Int32)), .unset, .unset, .unset, .unset, .unset, .unset, .unset, .unset, .unset, .unset, .unset, .unset, .unset, .unset, .unset, .unset, .unset, .unset, .unset, .unset] [(.int (XT.ushr p1 (10 : Int32))), (.int ((2000 : Int32) + ((p1 &&& (1023 : Int32)) <<< ((1 : Int32) &&& 31))))])) _
      refine XS.iconst X0.here hx rfl (hb hby at_31) ?_
      show Steps p.tables e below (s₁.setTop (mkF m 32 #[.val (.int p1), .val (.int p2), .val (.int (1 : Int32)), .unset, .unset, .unset, .unset, .unset, .unset, .unset, .unset, .unset, .unset, .unset, .unset, .unset, .unset, .unset, .unset, .unset, .unset, .unset, .unset] [(.int (1 : Int32)), (.int (XT.ushr p1 (10 : Int32))), (.int ((2000 : Int32) + ((p1 &&& (1023 : Int32)) <<< ((1 : Int32) &&& 31))))])) _
      refine XS.iand X0.here hx rfl (hb hby at_32) rfl ?_
      show Steps p.tables e below (s₁.setTop (mkF m 33 #[.val (.int p1), .val (.int p2), .val (.int (1 : Int32)), .unset, .unset, .unset, .unset, .unset, .unset, .unset, .unset, .unset, .unset, .unset, .unset, .unset, .unset, .unset, .unset, .unset, .unset, .unset, .unset] [(.int ((XT.ushr p1 (10 : Int32)) &&& (1 : Int32))), (.int ((2000 : Int32) + ((p1 &&& (1023 : Int32)) <<< ((1 : Int32) &&& 31))))])) _
      refine XS.iadd X0.here hx rfl (hb hby at_33) rfl ?_
      show Steps p.tables e below (s₁.setTop (mkF m 34 #[.val (.int p1), .val (.int p2), .val (.int (1 : Int32)), .unset, .unset, .unset, .unset, .unset, .unset, .unset, .unset, .unset, .unset, .unset, .unset, .unset, .unset, .unset, .unset, .unset, .unset, .unset, .unset] [(.int (((2000 : Int32) + ((p1 &&& (1023 : Int32)) <<< ((1 : Int32) &&& 31))) + ((XT.ushr p1 (10 : Int32)) &&& (1 : Int32))))])) _
      exact k)
    obtain ⟨d34, hd34⟩ : ∃ v : UInt64, FP.i2d (Int32.ofNat (2000 + j.val)) = v := ⟨_, rfl⟩
    have u38 : FP.ddiv d34 (4611686018427387904 : UInt64) = mnF (2000 + j.val) := by rw [← hd34]; rfl
    have c86 : ∀ t, Steps p.tables e below (s₁.setTop (mkF m 53 #[.val (.int p1), .val (.int p2), .val (.int (1 : Int32)), .val (.double (mnF (2000 + j.val))), .second, .unset, .unset, .unset, .unset, .unset, .unset, .unset, .unset, .unset, .unset, .unset, .unset, .unset, .unset, .unset, .unset, .unset, .unset] [])) t → Steps p.tables e below (s₁.setTop (entryFrame m #[(.int p1), (.int p2)] maxLocals)) t := fun t k => c85 t (by
      show Steps p.tables e below (s₁.setTop (mkF m 34 #[.val (.int p1), .val (.int p2), .val (.int (1 : Int32)), .unset, .unset, .unset, .unset, .unset, .unset, .unset, .unset, .unset, .unset, .unset, .unset, .unset, .unset, .unset, .unset, .unset, .unset, .unset, .unset] [(.int (Int32.ofNat (2000 + j.val)))])) _
      refine XS.i2dS X0.here hx rfl (hb hby at_34) rfl hd34 ?_
      show Steps p.tables e below (s₁.setTop (mkF m 35 #[.val (.int p1), .val (.int p2), .val (.int (1 : Int32)), .unset, .unset, .unset, .unset, .unset, .unset, .unset, .unset, .unset, .unset, .unset, .unset, .unset, .unset, .unset, .unset, .unset, .unset, .unset, .unset] [(.double d34)])) _
      refine Jvm.Stand.ldc2DoubleC X0 hx hown (mvT hZ (hw _ (List.mem_of_getElem? (i := 0) rfl))) (g := (mkF m 35 #[.val (.int p1), .val (.int p2), .val (.int (1 : Int32)), .unset, .unset, .unset, .unset, .unset, .unset, .unset, .unset, .unset, .unset, .unset, .unset, .unset, .unset, .unset, .unset, .unset, .unset, .unset, .unset] [(.double d34)])) rfl (hb hby at_35) _ ?_
      show Steps p.tables e below (s₁.setTop (mkF m 38 #[.val (.int p1), .val (.int p2), .val (.int (1 : Int32)), .unset, .unset, .unset, .unset, .unset, .unset, .unset, .unset, .unset, .unset, .unset, .unset, .unset, .unset, .unset, .unset, .unset, .unset, .unset, .unset] [(.double (4611686018427387904 : UInt64)), (.double d34)])) _
      refine XS.ddivS X0.here hx rfl (hb hby at_38) rfl (u38 ▸ (mn_ds (by omega)).noNaN) u38 ?_
      show Steps p.tables e below (s₁.setTop (mkF m 39 #[.val (.int p1), .val (.int p2), .val (.int (1 : Int32)), .unset, .unset, .unset, .unset, .unset, .unset, .unset, .unset, .unset, .unset, .unset, .unset, .unset, .unset, .unset, .unset, .unset, .unset, .unset, .unset] [(.double (mnF (2000 + j.val)))])) _
      refine XS.dstoreN X0.here hx rfl (hb hby at_39) rfl (l' := #[.val (.int p1), .val (.int p2), .val (.int (1 : Int32)), .val (.double (mnF (2000 + j.val))), .second, .unset, .unset, .unset, .unset, .unset, .unset, .unset, .unset, .unset, .unset, .unset, .unset, .unset, .unset, .unset, .unset, .unset, .unset]) rfl ?_
      show Steps p.tables e below (s₁.setTop (mkF m 40 #[.val (.int p1), .val (.int p2), .val (.int (1 : Int32)), .val (.double (mnF (2000 + j.val))), .second, .unset, .unset, .unset, .unset, .unset, .unset, .unset, .unset, .unset, .unset, .unset, .unset, .unset, .unset, .unset, .unset, .unset, .unset] [])) _
      refine XS.goto X0.here hx rfl (pc0 := 40) (pc' := 53) rfl (hb hby at_40) (by decide) (by decide) ?_
      show Steps p.tables e below (s₁.setTop (mkF m 53 #[.val (.int p1), .val (.int p2), .val (.int (1 : Int32)), .val (.double (mnF (2000 + j.val))), .second, .unset, .unset, .unset, .unset, .unset, .unset, .unset, .unset, .unset, .unset, .unset, .unset, .unset, .unset, .unset, .unset, .unset, .unset] [])) _
      exact k)
    obtain ⟨T87, h87, X87, e87, E87, A87, D87, -, st87⟩ := newO X0 hx hZ hown (hw _ (List.mem_of_getElem? (i := 1) rfl)) (hw _ (List.mem_of_getElem? (i := 2) rfl)) (hw _ (List.mem_of_getElem? (i := 3) rfl)) e0 (g := (mkF m 53 #[.val (.int p1), .val (.int p2), .val (.int (1 : Int32)), .val (.double (mnF (2000 + j.val))), .second, .unset, .unset, .unset, .unset, .unset, .unset, .unset, .unset, .unset, .unset, .unset, .unset, .unset, .unset, .unset, .unset, .unset, .unset] [])) rfl (hb hby at_53) (by decide) (by decide)
    obtain ⟨ob, g87⟩ : ∃ z, z = h0.size := ⟨_, rfl⟩
    rw [← g87] at A87 D87 st87
    have F88 : Fld Z h87 ob "com/example/topple/topple/markov/PoissonWeights" "count" "I" (.int (0 : Int32)) := (D87 (Or.inl (hw _ (List.mem_of_getElem? (i := 11) rfl))) (ty := .int) (by decide))
    have F89 : Fld Z h87 ob "com/example/topple/topple/markov/PoissonWeights" "mean" "D" (.double (0 : UInt64)) := (D87 (Or.inr (hw _ (List.mem_of_getElem? (i := 13) rfl))) (ty := .double) (by decide))
    have F90 : Fld Z h87 ob "com/example/topple/topple/markov/PoissonWeights" "mode" "I" (.int (0 : Int32)) := (D87 (Or.inr (hw _ (List.mem_of_getElem? (i := 15) rfl))) (ty := .int) (by decide))
    have F91 : Fld Z h87 ob "com/example/topple/topple/markov/PoissonWeights" "fewest" "I" (.int (0 : Int32)) := (D87 (Or.inr (hw _ (List.mem_of_getElem? (i := 18) rfl))) (ty := .int) (by decide))
    have F92 : Fld Z h87 ob "com/example/topple/topple/markov/PoissonWeights" "toMode" "[D" .null := (D87 (Or.inr (hw _ (List.mem_of_getElem? (i := 21) rfl))) (ty := (.array .double)) (by decide))
    have F93 : Fld Z h87 ob "com/example/topple/topple/markov/PoissonWeights" "weight" "D" (.double (0 : UInt64)) := (D87 (Or.inl (hw _ (List.mem_of_getElem? (i := 28) rfl))) (ty := .double) (by decide))
    have c94 : ∀ t, Steps p.tables e below (T87.setTop (mkF m 56 #[.val (.int p1), .val (.int p2), .val (.int (1 : Int32)), .val (.double (mnF (2000 + j.val))), .second, .unset, .unset, .unset, .unset, .unset, .unset, .unset, .unset, .unset, .unset, .unset, .unset, .unset, .unset, .unset, .unset, .unset, .unset] [(.ref ob)])) t → Steps p.tables e below (s₁.setTop (entryFrame m #[(.int p1), (.int p2)] maxLocals)) t := fun t k => c86 t (st87 _ k)
    obtain ⟨ks, hs1, hs2, hs3⟩ := stop_k (t := 2000 + j.val) (by omega) (by omega)
    obtain ⟨F, hF⟩ : ∃ F : Nat, F = (2000 + j.val) / 2 - ks := ⟨_, rfl⟩
    have hMF : (2000 + j.val) / 2 - F = ks := by omega
    have rk := fun i hi => noNaN_of (notNan (ratio_k (t := 2000 + j.val) (i := i) (by omega) (by omega) hi).1)
    have pk := fun k => noNaN_of (notNan (pr_ok (t := 2000 + j.val) (by omega) (by omega) k).1)
    have c95 : ∀ t, Steps p.tables e below (T87.setTop (mkF m 58 #[.val (.int p1), .val (.int p2), .val (.int (1 : Int32)), .val (.double (mnF (2000 + j.val))), .second, .unset, .unset, .unset, .unset, .unset, .unset, .unset, .unset, .unset, .unset, .unset, .unset, .unset, .unset, .unset, .unset, .unset, .unset] [(.double (mnF (2000 + j.val))), (.ref ob), (.ref ob)])) t → Steps p.tables e below (s₁.setTop (entryFrame m #[(.int p1), (.int p2)] maxLocals)) t := fun t k => c94 t (by
      show Steps p.tables e below (T87.setTop (mkF m 56 #[.val (.int p1), .val (.int p2), .val (.int (1 : Int32)), .val (.double (mnF (2000 + j.val))), .second, .unset, .unset, .unset, .unset, .unset, .unset, .unset, .unset, .unset, .unset, .unset, .unset, .unset, .unset, .unset, .unset, .unset, .unset] [(.ref ob)])) _
      refine XS.dup X87.here hx rfl (hb hby at_56) rfl rfl ?_
      show Steps p.tables e below (T87.setTop (mkF m 57 #[.val (.int p1), .val (.int p2), .val (.int (1 : Int32)), .val (.double (mnF (2000 + j.val))), .second, .unset, .unset, .unset, .unset, .unset, .unset, .unset, .unset, .unset, .unset, .unset, .unset, .unset, .unset, .unset, .unset, .unset, .unset] [(.ref ob), (.ref ob)])) _
      refine XS.dloadN X87.here hx rfl (hb hby at_57) rfl ?_
      show Steps p.tables e below (T87.setTop (mkF m 58 #[.val (.int p1), .val (.int p2), .val (.int (1 : Int32)), .val (.double (mnF (2000 + j.val))), .second, .unset, .unset, .unset, .unset, .unset, .unset, .unset, .unset, .unset, .unset, .unset, .unset, .unset, .unset, .unset, .unset, .unset, .unset] [(.double (mnF (2000 + j.val))), (.ref ob), (.ref ob)])) _
      exact k)
    obtain ⟨_, _, ⟨T96, L96, k96', n96⟩, -, X96, ⟨Lc96, hQ96, l96, y96, z96⟩, st96⟩ := X87.specialBack hx (y := (⟨"com/example/topple/topple/markov/PoissonWeights", "<init>", "(D)V"⟩ : MethodName)) rfl hown (mvT hZ (hw _ (List.mem_of_getElem? (i := 4) rfl))) (mvT hZ (hw _ (List.mem_of_getElem? (i := 5) rfl))) (mvT hZ (hw _ (List.mem_of_getElem? (i := 6) rfl))) (by decide) (backOf (W := 1) (rm_ct l Z a0 hw [] ob (mnF (2000 + j.val)) ((2000 + j.val) / 2) F (prF (2000 + j.val)) (tmF (2000 + j.val)) h87 n0 (Nat.le_trans Z0 E87.1) A87 F88 F89 F90 F91 F92 F93 (Nat.le_trans Z0 (Nat.le_of_eq g87.symm)) (by omega) (by omega) (by omega) (mnL_md j) rfl (fun k hk => ⟨rk _ (by omega), rfl, pk _, fun q => hs3 k (by omega) ((cmp_neg rfl (notNan (pr_ok (by omega) (by omega) _).1) (notNan fin_eps)).mp q)⟩) (Or.inr ⟨by omega, rk _ (by omega), rfl, pk _, (cmp_neg rfl (notNan (pr_ok (by omega) (by omega) _).1) (notNan fin_eps)).mpr (by rw [hMF]; exact hs2)⟩) rfl (fun k hk => ⟨noNaN_of (notNan (tm_ok (by omega) (by omega) k).2), noNaN_of (notNan (tm_ok (by omega) (by omega) (k + 1)).1.1), rfl⟩)) hZ (hw _ (List.mem_of_getElem? (i := 6) rfl)) (hw _ (List.mem_of_getElem? (i := 3) rfl)) (by decide) (by decide)) (g := (mkF m 58 #[.val (.int p1), .val (.int p2), .val (.int (1 : Int32)), .val (.double (mnF (2000 + j.val))), .second, .unset, .unset, .unset, .unset, .unset, .unset, .unset, .unset, .unset, .unset, .unset, .unset, .unset, .unset, .unset, .unset, .unset, .unset] [(.double (mnF (2000 + j.val))), (.ref ob), (.ref ob)])) rfl (by rw [hml]; rfl) (Steps.refl _) (a := ob) (argsL := [(.double (mnF (2000 + j.val)))]) (rest := [(.ref ob)]) (lenOf pd__D_V rfl) rfl (by show 2 * 0 + _ ≤ _; exact Nat.le_of_eq rfl) (hb hby at_58) (fun _ _ => ⟨rfl, e87, (by decide : 1 + 1 ≤ _), (by decide : 6 + 2000 ≤ _)⟩)
    dsimp only [Pt.U, Pt.locs, Pt.cells, Pt.slots] at X96 l96 y96 z96 st96 hQ96
    subst l96 y96 z96
    obtain ⟨ta, rfl, N96, K96, ne96, G96_0, G96_1, G96_2, G96_3, G96_4, G96_5, G96_6, G96_7⟩ := hQ96
    have M96 := Fr.app N0 N96
    have F97 : Exa Z T96.heap ob "com/example/topple/topple/markov/PoissonWeights" := (A87.keep K96)
    have c98 : ∀ t, Steps p.tables e below (T96.setTop (mkF m 61 #[.val (.int p1), .val (.int p2), .val (.int (1 : Int32)), .val (.double (mnF (2000 + j.val))), .second, .unset, .unset, .unset, .unset, .unset, .unset, .unset, .unset, .unset, .unset, .unset, .unset, .unset, .unset, .unset, .unset, .unset, .unset] [(.ref ob)])) t → Steps p.tables e below (s₁.setTop (entryFrame m #[(.int p1), (.int p2)] maxLocals)) t := fun t k => c95 t (st96.trans k)
    have c99 : ∀ t, Steps p.tables e below (T96.setTop (mkF m 65 #[.val (.int p1), .val (.int p2), .val (.int (1 : Int32)), .val (.double (mnF (2000 + j.val))), .second, .val (.ref ob), .unset, .unset, .unset, .unset, .unset, .unset, .unset, .unset, .unset, .unset, .unset, .unset, .unset, .unset, .unset, .unset, .unset] [(.ref ob)])) t → Steps p.tables e below (s₁.setTop (entryFrame m #[(.int p1), (.int p2)] maxLocals)) t := fun t k => c98 t (by
      show Steps p.tables e below (T96.setTop (mkF m 61 #[.val (.int p1), .val (.int p2), .val (.int (1 : Int32)), .val (.double (mnF (2000 + j.val))), .second, .unset, .unset, .unset, .unset, .unset, .unset, .unset, .unset, .unset, .unset, .unset, .unset, .unset, .unset, .unset, .unset, .unset, .unset] [(.ref ob)])) _
      refine XS.astore X96.here hx rfl (hb hby at_61) rfl rfl (l' := #[.val (.int p1), .val (.int p2), .val (.int (1 : Int32)), .val (.double (mnF (2000 + j.val))), .second, .val (.ref ob), .unset, .unset, .unset, .unset, .unset, .unset, .unset, .unset, .unset, .unset, .unset, .unset, .unset, .unset, .unset, .unset, .unset]) rfl ?_
      show Steps p.tables e below (T96.setTop (mkF m 63 #[.val (.int p1), .val (.int p2), .val (.int (1 : Int32)), .val (.double (mnF (2000 + j.val))), .second, .val (.ref ob), .unset, .unset, .unset, .unset, .unset, .unset, .unset, .unset, .unset, .unset, .unset, .unset, .unset, .unset, .unset, .unset, .unset] [])) _
      refine XS.aload X96.here hx rfl (hb hby at_63) rfl rfl ?_
      show Steps p.tables e below (T96.setTop (mkF m 65 #[.val (.int p1), .val (.int p2), .val (.int (1 : Int32)), .val (.double (mnF (2000 + j.val))), .second, .val (.ref ob), .unset, .unset, .unset, .unset, .unset, .unset, .unset, .unset, .unset, .unset, .unset, .unset, .unset, .unset, .unset, .unset, .unset] [(.ref ob)])) _
      exact k)
    obtain ⟨cq100, kq100, q100a, q100b, q100c⟩ := isOf hZ rfl G96_0
    obtain ⟨_, _, ⟨T100, L100, k100', n100⟩, -, X100, ⟨Lc100, hQ100, l100, y100, z100⟩, st100⟩ := X96.virtualBack hx (y := (⟨"com/example/topple/topple/markov/PoissonWeights", "next", "()D"⟩ : MethodName)) (z := (⟨"com/example/topple/topple/markov/PoissonWeights", "next", "()D"⟩ : MethodName)) hown (mvT hZ (hw _ (List.mem_of_getElem? (i := 22) rfl))) (mvT hZ (hw _ (List.mem_of_getElem? (i := 23) rfl))) (notFace_of_selects (args := #[]) (mvT hZ (hw _ (List.mem_of_getElem? (i := 25) rfl)))) (mvT hZ (hw _ (List.mem_of_getElem? (i := 25) rfl))) (mvT hZ (hw _ (List.mem_of_getElem? (i := 24) rfl))) (by decide) (backOf (W := 0) (rm_nk l Z a0 hw [] ob ta (mnF (2000 + j.val)) (-1 : Int32) (0 : Int32) (Int32.ofNat ((2000 + j.val) / 2)) (Int32.ofNat F) (0 : UInt64) T96.heap n0 (Nat.le_trans (Nat.le_trans Z0 E87.1) K96.1) G96_0 G96_1 G96_2 G96_3 G96_4 G96_5 G96_6 (Nat.le_trans Z0 (Nat.le_of_eq g87.symm)) (by decide) (sk_k (n := 0) (by decide) (by omega) (by omega))) hZ (hw _ (List.mem_of_getElem? (i := 26) rfl)) (hw _ (List.mem_of_getElem? (i := 3) rfl)) (by decide) (by decide)) q100a q100c (g := (mkF m 65 #[.val (.int p1), .val (.int p2), .val (.int (1 : Int32)), .val (.double (mnF (2000 + j.val))), .second, .val (.ref ob), .unset, .unset, .unset, .unset, .unset, .unset, .unset, .unset, .unset, .unset, .unset, .unset, .unset, .unset, .unset, .unset, .unset] [(.ref ob)])) rfl (by rw [hml]; rfl) (Steps.refl _) (argsL := []) (rest := []) (lenOf pd___D rfl) rfl (by show 2 * 0 + _ ≤ _; exact Nat.le_of_eq rfl) (hb hby at_65) (fun _ _ => ⟨rfl, rfl, (by decide : 2 + 0 ≤ _), (by decide : 2006 + 0 ≤ _)⟩)
    dsimp only [Pt.U, Pt.locs, Pt.cells, Pt.slots] at X100 l100 y100 z100 st100 hQ100
    subst l100 y100 z100
    obtain ⟨rfl, N100, K100, G100_0, G100_1, G100_2, G100_3, G100_4, G100_5, G100_6⟩ := hQ100
    have M100 := Fr.app M96 N100
    have F101 : Exa Z T100.heap ob "com/example/topple/topple/markov/PoissonWeights" := (G96_0.keep K100)
    have c102 : ∀ t, Steps p.tables e below (T100.setTop (mkF m 68 #[.val (.int p1), .val (.int p2), .val (.int (1 : Int32)), .val (.double (mnF (2000 + j.val))), .second, .val (.ref ob), .unset, .unset, .unset, .unset, .unset, .unset, .unset, .unset, .unset, .unset, .unset, .unset, .unset, .unset, .unset, .unset, .unset] [(.double (0 : UInt64))])) t → Steps p.tables e below (s₁.setTop (entryFrame m #[(.int p1), (.int p2)] maxLocals)) t := fun t k => c99 t (st100.trans k)
    have c103 : ∀ t, Steps p.tables e below (T100.setTop (mkF m 72 #[.val (.int p1), .val (.int p2), .val (.int (1 : Int32)), .val (.double (mnF (2000 + j.val))), .second, .val (.ref ob), .val (.double (0 : UInt64)), .second, .unset, .unset, .unset, .unset, .unset, .unset, .unset, .unset, .unset, .unset, .unset, .unset, .unset, .unset, .unset] [(.ref ob)])) t → Steps p.tables e below (s₁.setTop (entryFrame m #[(.int p1), (.int p2)] maxLocals)) t := fun t k => c102 t (by
      show Steps p.tables e below (T100.setTop (mkF m 68 #[.val (.int p1), .val (.int p2), .val (.int (1 : Int32)), .val (.double (mnF (2000 + j.val))), .second, .val (.ref ob), .unset, .unset, .unset, .unset, .unset, .unset, .unset, .unset, .unset, .unset, .unset, .unset, .unset, .unset, .unset, .unset, .unset] [(.double (0 : UInt64))])) _
      refine XS.dstore X100.here hx rfl (hb hby at_68) rfl (l' := #[.val (.int p1), .val (.int p2), .val (.int (1 : Int32)), .val (.double (mnF (2000 + j.val))), .second, .val (.ref ob), .val (.double (0 : UInt64)), .second, .unset, .unset, .unset, .unset, .unset, .unset, .unset, .unset, .unset, .unset, .unset, .unset, .unset, .unset, .unset]) rfl ?_
      show Steps p.tables e below (T100.setTop (mkF m 70 #[.val (.int p1), .val (.int p2), .val (.int (1 : Int32)), .val (.double (mnF (2000 + j.val))), .second, .val (.ref ob), .val (.double (0 : UInt64)), .second, .unset, .unset, .unset, .unset, .unset, .unset, .unset, .unset, .unset, .unset, .unset, .unset, .unset, .unset, .unset] [])) _
      refine XS.aload X100.here hx rfl (hb hby at_70) rfl rfl ?_
      show Steps p.tables e below (T100.setTop (mkF m 72 #[.val (.int p1), .val (.int p2), .val (.int (1 : Int32)), .val (.double (mnF (2000 + j.val))), .second, .val (.ref ob), .val (.double (0 : UInt64)), .second, .unset, .unset, .unset, .unset, .unset, .unset, .unset, .unset, .unset, .unset, .unset, .unset, .unset, .unset, .unset] [(.ref ob)])) _
      exact k)
    obtain ⟨cq104, kq104, q104a, q104b, q104c⟩ := isOf hZ rfl G100_0
    obtain ⟨_, _, ⟨T104, L104, k104', n104⟩, -, X104, ⟨Lc104, hQ104, l104, y104, z104⟩, st104⟩ := X100.virtualBack hx (y := (⟨"com/example/topple/topple/markov/PoissonWeights", "next", "()D"⟩ : MethodName)) (z := (⟨"com/example/topple/topple/markov/PoissonWeights", "next", "()D"⟩ : MethodName)) hown (mvT hZ (hw _ (List.mem_of_getElem? (i := 22) rfl))) (mvT hZ (hw _ (List.mem_of_getElem? (i := 23) rfl))) (notFace_of_selects (args := #[]) (mvT hZ (hw _ (List.mem_of_getElem? (i := 25) rfl)))) (mvT hZ (hw _ (List.mem_of_getElem? (i := 25) rfl))) (mvT hZ (hw _ (List.mem_of_getElem? (i := 24) rfl))) (by decide) (backOf (W := 0) (rm_nk l Z a0 hw [] ob ta (mnF (2000 + j.val)) (0 : Int32) (1 : Int32) (Int32.ofNat ((2000 + j.val) / 2)) (Int32.ofNat F) (0 : UInt64) T100.heap n0 (Nat.le_trans (Nat.le_trans (Nat.le_trans Z0 E87.1) K96.1) K100.1) G100_0 G100_1 G100_2 G100_3 G100_4 G100_5 G100_6 (Nat.le_trans Z0 (Nat.le_of_eq g87.symm)) (by decide) (sk_k (n := 1) (by decide) (by omega) (by omega))) hZ (hw _ (List.mem_of_getElem? (i := 26) rfl)) (hw _ (List.mem_of_getElem? (i := 3) rfl)) (by decide) (by decide)) q104a q104c (g := (mkF m 72 #[.val (.int p1), .val (.int p2), .val (.int (1 : Int32)), .val (.double (mnF (2000 + j.val))), .second, .val (.ref ob), .val (.double (0 : UInt64)), .second, .unset, .unset, .unset, .unset, .unset, .unset, .unset, .unset, .unset, .unset, .unset, .unset, .unset, .unset, .unset] [(.ref ob)])) rfl (by rw [hml]; rfl) (Steps.refl _) (argsL := []) (rest := []) (lenOf pd___D rfl) rfl (by show 2 * 0 + _ ≤ _; exact Nat.le_of_eq rfl) (hb hby at_72) (fun _ _ => ⟨rfl, rfl, (by decide : 2 + 0 ≤ _), (by decide : 2006 + 0 ≤ _)⟩)
    dsimp only [Pt.U, Pt.locs, Pt.cells, Pt.slots] at X104 l104 y104 z104 st104 hQ104
    subst l104 y104 z104
    obtain ⟨rfl, N104, K104, G104_0, G104_1, G104_2, G104_3, G104_4, G104_5, G104_6⟩ := hQ104
    have M104 := Fr.app M100 N104
    have F105 : Exa Z T104.heap ob "com/example/topple/topple/markov/PoissonWeights" := (G100_0.keep K104)
    have c106 : ∀ t, Steps p.tables e below (T104.setTop (mkF m 75 #[.val (.int p1), .val (.int p2), .val (.int (1 : Int32)), .val (.double (mnF (2000 + j.val))), .second, .val (.ref ob), .val (.double (0 : UInt64)), .second, .unset, .unset, .unset, .unset, .unset, .unset, .unset, .unset, .unset, .unset, .unset, .unset, .unset, .unset, .unset] [(.double (0 : UInt64))])) t → Steps p.tables e below (s₁.setTop (entryFrame m #[(.int p1), (.int p2)] maxLocals)) t := fun t k => c103 t (st104.trans k)
    have c107 : ∀ t, Steps p.tables e below (T104.setTop (mkF m 79 #[.val (.int p1), .val (.int p2), .val (.int (1 : Int32)), .val (.double (mnF (2000 + j.val))), .second, .val (.ref ob), .val (.double (0 : UInt64)), .second, .val (.double (0 : UInt64)), .second, .unset, .unset, .unset, .unset, .unset, .unset, .unset, .unset, .unset, .unset, .unset, .unset, .unset] [(.ref ob)])) t → Steps p.tables e below (s₁.setTop (entryFrame m #[(.int p1), (.int p2)] maxLocals)) t := fun t k => c106 t (by
      show Steps p.tables e below (T104.setTop (mkF m 75 #[.val (.int p1), .val (.int p2), .val (.int (1 : Int32)), .val (.double (mnF (2000 + j.val))), .second, .val (.ref ob), .val (.double (0 : UInt64)), .second, .unset, .unset, .unset, .unset, .unset, .unset, .unset, .unset, .unset, .unset, .unset, .unset, .unset, .unset, .unset] [(.double (0 : UInt64))])) _
      refine XS.dstore X104.here hx rfl (hb hby at_75) rfl (l' := #[.val (.int p1), .val (.int p2), .val (.int (1 : Int32)), .val (.double (mnF (2000 + j.val))), .second, .val (.ref ob), .val (.double (0 : UInt64)), .second, .val (.double (0 : UInt64)), .second, .unset, .unset, .unset, .unset, .unset, .unset, .unset, .unset, .unset, .unset, .unset, .unset, .unset]) rfl ?_
      show Steps p.tables e below (T104.setTop (mkF m 77 #[.val (.int p1), .val (.int p2), .val (.int (1 : Int32)), .val (.double (mnF (2000 + j.val))), .second, .val (.ref ob), .val (.double (0 : UInt64)), .second, .val (.double (0 : UInt64)), .second, .unset, .unset, .unset, .unset, .unset, .unset, .unset, .unset, .unset, .unset, .unset, .unset, .unset] [])) _
      refine XS.aload X104.here hx rfl (hb hby at_77) rfl rfl ?_
      show Steps p.tables e below (T104.setTop (mkF m 79 #[.val (.int p1), .val (.int p2), .val (.int (1 : Int32)), .val (.double (mnF (2000 + j.val))), .second, .val (.ref ob), .val (.double (0 : UInt64)), .second, .val (.double (0 : UInt64)), .second, .unset, .unset, .unset, .unset, .unset, .unset, .unset, .unset, .unset, .unset, .unset, .unset, .unset] [(.ref ob)])) _
      exact k)
    obtain ⟨cq108, kq108, q108a, q108b, q108c⟩ := isOf hZ rfl G104_0
    obtain ⟨_, _, ⟨T108, L108, k108', n108⟩, -, X108, ⟨Lc108, hQ108, l108, y108, z108⟩, st108⟩ := X104.virtualBack hx (y := (⟨"com/example/topple/topple/markov/PoissonWeights", "next", "()D"⟩ : MethodName)) (z := (⟨"com/example/topple/topple/markov/PoissonWeights", "next", "()D"⟩ : MethodName)) hown (mvT hZ (hw _ (List.mem_of_getElem? (i := 22) rfl))) (mvT hZ (hw _ (List.mem_of_getElem? (i := 23) rfl))) (notFace_of_selects (args := #[]) (mvT hZ (hw _ (List.mem_of_getElem? (i := 25) rfl)))) (mvT hZ (hw _ (List.mem_of_getElem? (i := 25) rfl))) (mvT hZ (hw _ (List.mem_of_getElem? (i := 24) rfl))) (by decide) (backOf (W := 0) (rm_nk l Z a0 hw [] ob ta (mnF (2000 + j.val)) (1 : Int32) (2 : Int32) (Int32.ofNat ((2000 + j.val) / 2)) (Int32.ofNat F) (0 : UInt64) T104.heap n0 (Nat.le_trans (Nat.le_trans (Nat.le_trans (Nat.le_trans Z0 E87.1) K96.1) K100.1) K104.1) G104_0 G104_1 G104_2 G104_3 G104_4 G104_5 G104_6 (Nat.le_trans Z0 (Nat.le_of_eq g87.symm)) (by decide) (sk_k (n := 2) (by decide) (by omega) (by omega))) hZ (hw _ (List.mem_of_getElem? (i := 26) rfl)) (hw _ (List.mem_of_getElem? (i := 3) rfl)) (by decide) (by decide)) q108a q108c (g := (mkF m 79 #[.val (.int p1), .val (.int p2), .val (.int (1 : Int32)), .val (.double (mnF (2000 + j.val))), .second, .val (.ref ob), .val (.double (0 : UInt64)), .second, .val (.double (0 : UInt64)), .second, .unset, .unset, .unset, .unset, .unset, .unset, .unset, .unset, .unset, .unset, .unset, .unset, .unset] [(.ref ob)])) rfl (by rw [hml]; rfl) (Steps.refl _) (argsL := []) (rest := []) (lenOf pd___D rfl) rfl (by show 2 * 0 + _ ≤ _; exact Nat.le_of_eq rfl) (hb hby at_79) (fun _ _ => ⟨rfl, rfl, (by decide : 2 + 0 ≤ _), (by decide : 2006 + 0 ≤ _)⟩)
    dsimp only [Pt.U, Pt.locs, Pt.cells, Pt.slots] at X108 l108 y108 z108 st108 hQ108
    subst l108 y108 z108
    obtain ⟨rfl, N108, K108, G108_0, G108_1, G108_2, G108_3, G108_4, G108_5, G108_6⟩ := hQ108
    have M108 := Fr.app M104 N108
    have F109 : Exa Z T108.heap ob "com/example/topple/topple/markov/PoissonWeights" := (G104_0.keep K108)
    have c110 : ∀ t, Steps p.tables e below (T108.setTop (mkF m 82 #[.val (.int p1), .val (.int p2), .val (.int (1 : Int32)), .val (.double (mnF (2000 + j.val))), .second, .val (.ref ob), .val (.double (0 : UInt64)), .second, .val (.double (0 : UInt64)), .second, .unset, .unset, .unset, .unset, .unset, .unset, .unset, .unset, .unset, .unset, .unset, .unset, .unset] [(.double (0 : UInt64))])) t → Steps p.tables e below (s₁.setTop (entryFrame m #[(.int p1), (.int p2)] maxLocals)) t := fun t k => c107 t (st108.trans k)
    have c111 : ∀ t, Steps p.tables e below (T108.setTop (mkF m 86 #[.val (.int p1), .val (.int p2), .val (.int (1 : Int32)), .val (.double (mnF (2000 + j.val))), .second, .val (.ref ob), .val (.double (0 : UInt64)), .second, .val (.double (0 : UInt64)), .second, .val (.double (0 : UInt64)), .second, .unset, .unset, .unset, .unset, .unset, .unset, .unset, .unset, .unset, .unset, .unset] [(.ref ob)])) t → Steps p.tables e below (s₁.setTop (entryFrame m #[(.int p1), (.int p2)] maxLocals)) t := fun t k => c110 t (by
      show Steps p.tables e below (T108.setTop (mkF m 82 #[.val (.int p1), .val (.int p2), .val (.int (1 : Int32)), .val (.double (mnF (2000 + j.val))), .second, .val (.ref ob), .val (.double (0 : UInt64)), .second, .val (.double (0 : UInt64)), .second, .unset, .unset, .unset, .unset, .unset, .unset, .unset, .unset, .unset, .unset, .unset, .unset, .unset] [(.double (0 : UInt64))])) _
      refine XS.dstore X108.here hx rfl (hb hby at_82) rfl (l' := #[.val (.int p1), .val (.int p2), .val (.int (1 : Int32)), .val (.double (mnF (2000 + j.val))), .second, .val (.ref ob), .val (.double (0 : UInt64)), .second, .val (.double (0 : UInt64)), .second, .val (.double (0 : UInt64)), .second, .unset, .unset, .unset, .unset, .unset, .unset, .unset, .unset, .unset, .unset, .unset]) rfl ?_
      show Steps p.tables e below (T108.setTop (mkF m 84 #[.val (.int p1), .val (.int p2), .val (.int (1 : Int32)), .val (.double (mnF (2000 + j.val))), .second, .val (.ref ob), .val (.double (0 : UInt64)), .second, .val (.double (0 : UInt64)), .second, .val (.double (0 : UInt64)), .second, .unset, .unset, .unset, .unset, .unset, .unset, .unset, .unset, .unset, .unset, .unset] [])) _
      refine XS.aload X108.here hx rfl (hb hby at_84) rfl rfl ?_
      show Steps p.tables e below (T108.setTop (mkF m 86 #[.val (.int p1), .val (.int p2), .val (.int (1 : Int32)), .val (.double (mnF (2000 + j.val))), .second, .val (.ref ob), .val (.double (0 : UInt64)), .second, .val (.double (0 : UInt64)), .second, .val (.double (0 : UInt64)), .second, .unset, .unset, .unset, .unset, .unset, .unset, .unset, .unset, .unset, .unset, .unset] [(.ref ob)])) _
      exact k)
    obtain ⟨cq112, kq112, q112a, q112b, q112c⟩ := isOf hZ rfl G108_0
    obtain ⟨_, _, ⟨T112, L112, k112', n112⟩, -, X112, ⟨Lc112, hQ112, l112, y112, z112⟩, st112⟩ := X108.virtualBack hx (y := (⟨"com/example/topple/topple/markov/PoissonWeights", "next", "()D"⟩ : MethodName)) (z := (⟨"com/example/topple/topple/markov/PoissonWeights", "next", "()D"⟩ : MethodName)) hown (mvT hZ (hw _ (List.mem_of_getElem? (i := 22) rfl))) (mvT hZ (hw _ (List.mem_of_getElem? (i := 23) rfl))) (notFace_of_selects (args := #[]) (mvT hZ (hw _ (List.mem_of_getElem? (i := 25) rfl)))) (mvT hZ (hw _ (List.mem_of_getElem? (i := 25) rfl))) (mvT hZ (hw _ (List.mem_of_getElem? (i := 24) rfl))) (by decide) (backOf (W := 0) (rm_nk l Z a0 hw [] ob ta (mnF (2000 + j.val)) (2 : Int32) (3 : Int32) (Int32.ofNat ((2000 + j.val) / 2)) (Int32.ofNat F) (0 : UInt64) T108.heap n0 (Nat.le_trans (Nat.le_trans (Nat.le_trans (Nat.le_trans (Nat.le_trans Z0 E87.1) K96.1) K100.1) K104.1) K108.1) G108_0 G108_1 G108_2 G108_3 G108_4 G108_5 G108_6 (Nat.le_trans Z0 (Nat.le_of_eq g87.symm)) (by decide) (sk_k (n := 3) (by decide) (by omega) (by omega))) hZ (hw _ (List.mem_of_getElem? (i := 26) rfl)) (hw _ (List.mem_of_getElem? (i := 3) rfl)) (by decide) (by decide)) q112a q112c (g := (mkF m 86 #[.val (.int p1), .val (.int p2), .val (.int (1 : Int32)), .val (.double (mnF (2000 + j.val))), .second, .val (.ref ob), .val (.double (0 : UInt64)), .second, .val (.double (0 : UInt64)), .second, .val (.double (0 : UInt64)), .second, .unset, .unset, .unset, .unset, .unset, .unset, .unset, .unset, .unset, .unset, .unset] [(.ref ob)])) rfl (by rw [hml]; rfl) (Steps.refl _) (argsL := []) (rest := []) (lenOf pd___D rfl) rfl (by show 2 * 0 + _ ≤ _; exact Nat.le_of_eq rfl) (hb hby at_86) (fun _ _ => ⟨rfl, rfl, (by decide : 2 + 0 ≤ _), (by decide : 2006 + 0 ≤ _)⟩)
    dsimp only [Pt.U, Pt.locs, Pt.cells, Pt.slots] at X112 l112 y112 z112 st112 hQ112
    subst l112 y112 z112
    obtain ⟨rfl, N112, K112, G112_0, G112_1, G112_2, G112_3, G112_4, G112_5, G112_6⟩ := hQ112
    have M112 := Fr.app M108 N112
    have F113 : Exa Z T112.heap ob "com/example/topple/topple/markov/PoissonWeights" := (G108_0.keep K112)
    have c114 : ∀ t, Steps p.tables e below (T112.setTop (mkF m 89 #[.val (.int p1), .val (.int p2), .val (.int (1 : Int32)), .val (.double (mnF (2000 + j.val))), .second, .val (.ref ob), .val (.double (0 : UInt64)), .second, .val (.double (0 : UInt64)), .second, .val (.double (0 : UInt64)), .second, .unset, .unset, .unset, .unset, .unset, .unset, .unset, .unset, .unset, .unset, .unset] [(.double (0 : UInt64))])) t → Steps p.tables e below (s₁.setTop (entryFrame m #[(.int p1), (.int p2)] maxLocals)) t := fun t k => c111 t (st112.trans k)
    have c115 : ∀ t, Steps p.tables e below (T112.setTop (mkF m 93 #[.val (.int p1), .val (.int p2), .val (.int (1 : Int32)), .val (.double (mnF (2000 + j.val))), .second, .val (.ref ob), .val (.double (0 : UInt64)), .second, .val (.double (0 : UInt64)), .second, .val (.double (0 : UInt64)), .second, .val (.double (0 : UInt64)), .second, .unset, .unset, .unset, .unset, .unset, .unset, .unset, .unset, .unset] [(.ref ob)])) t → Steps p.tables e below (s₁.setTop (entryFrame m #[(.int p1), (.int p2)] maxLocals)) t := fun t k => c114 t (by
      show Steps p.tables e below (T112.setTop (mkF m 89 #[.val (.int p1), .val (.int p2), .val (.int (1 : Int32)), .val (.double (mnF (2000 + j.val))), .second, .val (.ref ob), .val (.double (0 : UInt64)), .second, .val (.double (0 : UInt64)), .second, .val (.double (0 : UInt64)), .second, .unset, .unset, .unset, .unset, .unset, .unset, .unset, .unset, .unset, .unset, .unset] [(.double (0 : UInt64))])) _
      refine XS.dstore X112.here hx rfl (hb hby at_89) rfl (l' := #[.val (.int p1), .val (.int p2), .val (.int (1 : Int32)), .val (.double (mnF (2000 + j.val))), .second, .val (.ref ob), .val (.double (0 : UInt64)), .second, .val (.double (0 : UInt64)), .second, .val (.double (0 : UInt64)), .second, .val (.double (0 : UInt64)), .second, .unset, .unset, .unset, .unset, .unset, .unset, .unset, .unset, .unset]) rfl ?_
      show Steps p.tables e below (T112.setTop (mkF m 91 #[.val (.int p1), .val (.int p2), .val (.int (1 : Int32)), .val (.double (mnF (2000 + j.val))), .second, .val (.ref ob), .val (.double (0 : UInt64)), .second, .val (.double (0 : UInt64)), .second, .val (.double (0 : UInt64)), .second, .val (.double (0 : UInt64)), .second, .unset, .unset, .unset, .unset, .unset, .unset, .unset, .unset, .unset] [])) _
      refine XS.aload X112.here hx rfl (hb hby at_91) rfl rfl ?_
      show Steps p.tables e below (T112.setTop (mkF m 93 #[.val (.int p1), .val (.int p2), .val (.int (1 : Int32)), .val (.double (mnF (2000 + j.val))), .second, .val (.ref ob), .val (.double (0 : UInt64)), .second, .val (.double (0 : UInt64)), .second, .val (.double (0 : UInt64)), .second, .val (.double (0 : UInt64)), .second, .unset, .unset, .unset, .unset, .unset, .unset, .unset, .unset, .unset] [(.ref ob)])) _
      exact k)
    obtain ⟨cq116, kq116, q116a, q116b, q116c⟩ := isOf hZ rfl G112_0
    obtain ⟨_, _, ⟨T116, L116, k116', n116⟩, -, X116, ⟨Lc116, hQ116, l116, y116, z116⟩, st116⟩ := X112.virtualBack hx (y := (⟨"com/example/topple/topple/markov/PoissonWeights", "next", "()D"⟩ : MethodName)) (z := (⟨"com/example/topple/topple/markov/PoissonWeights", "next", "()D"⟩ : MethodName)) hown (mvT hZ (hw _ (List.mem_of_getElem? (i := 22) rfl))) (mvT hZ (hw _ (List.mem_of_getElem? (i := 23) rfl))) (notFace_of_selects (args := #[]) (mvT hZ (hw _ (List.mem_of_getElem? (i := 25) rfl)))) (mvT hZ (hw _ (List.mem_of_getElem? (i := 25) rfl))) (mvT hZ (hw _ (List.mem_of_getElem? (i := 24) rfl))) (by decide) (backOf (W := 0) (rm_nk l Z a0 hw [] ob ta (mnF (2000 + j.val)) (3 : Int32) (4 : Int32) (Int32.ofNat ((2000 + j.val) / 2)) (Int32.ofNat F) (0 : UInt64) T112.heap n0 (Nat.le_trans (Nat.le_trans (Nat.le_trans (Nat.le_trans (Nat.le_trans (Nat.le_trans Z0 E87.1) K96.1) K100.1) K104.1) K108.1) K112.1) G112_0 G112_1 G112_2 G112_3 G112_4 G112_5 G112_6 (Nat.le_trans Z0 (Nat.le_of_eq g87.symm)) (by decide) (sk_k (n := 4) (by decide) (by omega) (by omega))) hZ (hw _ (List.mem_of_getElem? (i := 26) rfl)) (hw _ (List.mem_of_getElem? (i := 3) rfl)) (by decide) (by decide)) q116a q116c (g := (mkF m 93 #[.val (.int p1), .val (.int p2), .val (.int (1 : Int32)), .val (.double (mnF (2000 + j.val))), .second, .val (.ref ob), .val (.double (0 : UInt64)), .second, .val (.double (0 : UInt64)), .second, .val (.double (0 : UInt64)), .second, .val (.double (0 : UInt64)), .second, .unset, .unset, .unset, .unset, .unset, .unset, .unset, .unset, .unset] [(.ref ob)])) rfl (by rw [hml]; rfl) (Steps.refl _) (argsL := []) (rest := []) (lenOf pd___D rfl) rfl (by show 2 * 0 + _ ≤ _; exact Nat.le_of_eq rfl) (hb hby at_93) (fun _ _ => ⟨rfl, rfl, (by decide : 2 + 0 ≤ _), (by decide : 2006 + 0 ≤ _)⟩)
    dsimp only [Pt.U, Pt.locs, Pt.cells, Pt.slots] at X116 l116 y116 z116 st116 hQ116
    subst l116 y116 z116
    obtain ⟨rfl, N116, K116, G116_0, G116_1, G116_2, G116_3, G116_4, G116_5, G116_6⟩ := hQ116
    have M116 := Fr.app M112 N116
    have F117 : Exa Z T116.heap ob "com/example/topple/topple/markov/PoissonWeights" := (G112_0.keep K116)
    have c118 : ∀ t, Steps p.tables e below (T116.setTop (mkF m 96 #[.val (.int p1), .val (.int p2), .val (.int (1 : Int32)), .val (.double (mnF (2000 + j.val))), .second, .val (.ref ob), .val (.double (0 : UInt64)), .second, .val (.double (0 : UInt64)), .second, .val (.double (0 : UInt64)), .second, .val (.double (0 : UInt64)), .second, .unset, .unset, .unset, .unset, .unset, .unset, .unset, .unset, .unset] [(.double (0 : UInt64))])) t → Steps p.tables e below (s₁.setTop (entryFrame m #[(.int p1), (.int p2)] maxLocals)) t := fun t k => c115 t (st116.trans k)
    have c119 : ∀ t, Steps p.tables e below (T116.setTop (mkF m 100 #[.val (.int p1), .val (.int p2), .val (.int (1 : Int32)), .val (.double (mnF (2000 + j.val))), .second, .val (.ref ob), .val (.double (0 : UInt64)), .second, .val (.double (0 : UInt64)), .second, .val (.double (0 : UInt64)), .second, .val (.double (0 : UInt64)), .second, .val (.double (0 : UInt64)), .second, .unset, .unset, .unset, .unset, .unset, .unset, .unset] [(.ref ob)])) t → Steps p.tables e below (s₁.setTop (entryFrame m #[(.int p1), (.int p2)] maxLocals)) t := fun t k => c118 t (by
      show Steps p.tables e below (T116.setTop (mkF m 96 #[.val (.int p1), .val (.int p2), .val (.int (1 : Int32)), .val (.double (mnF (2000 + j.val))), .second, .val (.ref ob), .val (.double (0 : UInt64)), .second, .val (.double (0 : UInt64)), .second, .val (.double (0 : UInt64)), .second, .val (.double (0 : UInt64)), .second, .unset, .unset, .unset, .unset, .unset, .unset, .unset, .unset, .unset] [(.double (0 : UInt64))])) _
      refine XS.dstore X116.here hx rfl (hb hby at_96) rfl (l' := #[.val (.int p1), .val (.int p2), .val (.int (1 : Int32)), .val (.double (mnF (2000 + j.val))), .second, .val (.ref ob), .val (.double (0 : UInt64)), .second, .val (.double (0 : UInt64)), .second, .val (.double (0 : UInt64)), .second, .val (.double (0 : UInt64)), .second, .val (.double (0 : UInt64)), .second, .unset, .unset, .unset, .unset, .unset, .unset, .unset]) rfl ?_
      show Steps p.tables e below (T116.setTop (mkF m 98 #[.val (.int p1), .val (.int p2), .val (.int (1 : Int32)), .val (.double (mnF (2000 + j.val))), .second, .val (.ref ob), .val (.double (0 : UInt64)), .second, .val (.double (0 : UInt64)), .second, .val (.double (0 : UInt64)), .second, .val (.double (0 : UInt64)), .second, .val (.double (0 : UInt64)), .second, .unset, .unset, .unset, .unset, .unset, .unset, .unset] [])) _
      refine XS.aload X116.here hx rfl (hb hby at_98) rfl rfl ?_
      show Steps p.tables e below (T116.setTop (mkF m 100 #[.val (.int p1), .val (.int p2), .val (.int (1 : Int32)), .val (.double (mnF (2000 + j.val))), .second, .val (.ref ob), .val (.double (0 : UInt64)), .second, .val (.double (0 : UInt64)), .second, .val (.double (0 : UInt64)), .second, .val (.double (0 : UInt64)), .second, .val (.double (0 : UInt64)), .second, .unset, .unset, .unset, .unset, .unset, .unset, .unset] [(.ref ob)])) _
      exact k)
    obtain ⟨cq120, kq120, q120a, q120b, q120c⟩ := isOf hZ rfl G116_0
    obtain ⟨_, _, ⟨T120, L120, k120', n120⟩, -, X120, ⟨Lc120, hQ120, l120, y120, z120⟩, st120⟩ := X116.virtualBack hx (y := (⟨"com/example/topple/topple/markov/PoissonWeights", "next", "()D"⟩ : MethodName)) (z := (⟨"com/example/topple/topple/markov/PoissonWeights", "next", "()D"⟩ : MethodName)) hown (mvT hZ (hw _ (List.mem_of_getElem? (i := 22) rfl))) (mvT hZ (hw _ (List.mem_of_getElem? (i := 23) rfl))) (notFace_of_selects (args := #[]) (mvT hZ (hw _ (List.mem_of_getElem? (i := 25) rfl)))) (mvT hZ (hw _ (List.mem_of_getElem? (i := 25) rfl))) (mvT hZ (hw _ (List.mem_of_getElem? (i := 24) rfl))) (by decide) (backOf (W := 0) (rm_nk l Z a0 hw [] ob ta (mnF (2000 + j.val)) (4 : Int32) (5 : Int32) (Int32.ofNat ((2000 + j.val) / 2)) (Int32.ofNat F) (0 : UInt64) T116.heap n0 (Nat.le_trans (Nat.le_trans (Nat.le_trans (Nat.le_trans (Nat.le_trans (Nat.le_trans (Nat.le_trans Z0 E87.1) K96.1) K100.1) K104.1) K108.1) K112.1) K116.1) G116_0 G116_1 G116_2 G116_3 G116_4 G116_5 G116_6 (Nat.le_trans Z0 (Nat.le_of_eq g87.symm)) (by decide) (sk_k (n := 5) (by decide) (by omega) (by omega))) hZ (hw _ (List.mem_of_getElem? (i := 26) rfl)) (hw _ (List.mem_of_getElem? (i := 3) rfl)) (by decide) (by decide)) q120a q120c (g := (mkF m 100 #[.val (.int p1), .val (.int p2), .val (.int (1 : Int32)), .val (.double (mnF (2000 + j.val))), .second, .val (.ref ob), .val (.double (0 : UInt64)), .second, .val (.double (0 : UInt64)), .second, .val (.double (0 : UInt64)), .second, .val (.double (0 : UInt64)), .second, .val (.double (0 : UInt64)), .second, .unset, .unset, .unset, .unset, .unset, .unset, .unset] [(.ref ob)])) rfl (by rw [hml]; rfl) (Steps.refl _) (argsL := []) (rest := []) (lenOf pd___D rfl) rfl (by show 2 * 0 + _ ≤ _; exact Nat.le_of_eq rfl) (hb hby at_100) (fun _ _ => ⟨rfl, rfl, (by decide : 2 + 0 ≤ _), (by decide : 2006 + 0 ≤ _)⟩)
    dsimp only [Pt.U, Pt.locs, Pt.cells, Pt.slots] at X120 l120 y120 z120 st120 hQ120
    subst l120 y120 z120
    obtain ⟨rfl, N120, K120, G120_0, G120_1, G120_2, G120_3, G120_4, G120_5, G120_6⟩ := hQ120
    have M120 := Fr.app M116 N120
    have F121 : Exa Z T120.heap ob "com/example/topple/topple/markov/PoissonWeights" := (G116_0.keep K120)
    have c122 : ∀ t, Steps p.tables e below (T120.setTop (mkF m 103 #[.val (.int p1), .val (.int p2), .val (.int (1 : Int32)), .val (.double (mnF (2000 + j.val))), .second, .val (.ref ob), .val (.double (0 : UInt64)), .second, .val (.double (0 : UInt64)), .second, .val (.double (0 : UInt64)), .second, .val (.double (0 : UInt64)), .second, .val (.double (0 : UInt64)), .second, .unset, .unset, .unset, .unset, .unset, .unset, .unset] [(.double (0 : UInt64))])) t → Steps p.tables e below (s₁.setTop (entryFrame m #[(.int p1), (.int p2)] maxLocals)) t := fun t k => c119 t (st120.trans k)
    have c123 : ∀ t, Steps p.tables e below (T120.setTop (mkF m 107 #[.val (.int p1), .val (.int p2), .val (.int (1 : Int32)), .val (.double (mnF (2000 + j.val))), .second, .val (.ref ob), .val (.double (0 : UInt64)), .second, .val (.double (0 : UInt64)), .second, .val (.double (0 : UInt64)), .second, .val (.double (0 : UInt64)), .second, .val (.double (0 : UInt64)), .second, .val (.double (0 : UInt64)), .second, .unset, .unset, .unset, .unset, .unset] [(.ref ob)])) t → Steps p.tables e below (s₁.setTop (entryFrame m #[(.int p1), (.int p2)] maxLocals)) t := fun t k => c122 t (by
      show Steps p.tables e below (T120.setTop (mkF m 103 #[.val (.int p1), .val (.int p2), .val (.int (1 : Int32)), .val (.double (mnF (2000 + j.val))), .second, .val (.ref ob), .val (.double (0 : UInt64)), .second, .val (.double (0 : UInt64)), .second, .val (.double (0 : UInt64)), .second, .val (.double (0 : UInt64)), .second, .val (.double (0 : UInt64)), .second, .unset, .unset, .unset, .unset, .unset, .unset, .unset] [(.double (0 : UInt64))])) _
      refine XS.dstore X120.here hx rfl (hb hby at_103) rfl (l' := #[.val (.int p1), .val (.int p2), .val (.int (1 : Int32)), .val (.double (mnF (2000 + j.val))), .second, .val (.ref ob), .val (.double (0 : UInt64)), .second, .val (.double (0 : UInt64)), .second, .val (.double (0 : UInt64)), .second, .val (.double (0 : UInt64)), .second, .val (.double (0 : UInt64)), .second, .val (.double (0 : UInt64)), .second, .unset, .unset, .unset, .unset, .unset]) rfl ?_
      show Steps p.tables e below (T120.setTop (mkF m 105 #[.val (.int p1), .val (.int p2), .val (.int (1 : Int32)), .val (.double (mnF (2000 + j.val))), .second, .val (.ref ob), .val (.double (0 : UInt64)), .second, .val (.double (0 : UInt64)), .second, .val (.double (0 : UInt64)), .second, .val (.double (0 : UInt64)), .second, .val (.double (0 : UInt64)), .second, .val (.double (0 : UInt64)), .second, .unset, .unset, .unset, .unset, .unset] [])) _
      refine XS.aload X120.here hx rfl (hb hby at_105) rfl rfl ?_
      show Steps p.tables e below (T120.setTop (mkF m 107 #[.val (.int p1), .val (.int p2), .val (.int (1 : Int32)), .val (.double (mnF (2000 + j.val))), .second, .val (.ref ob), .val (.double (0 : UInt64)), .second, .val (.double (0 : UInt64)), .second, .val (.double (0 : UInt64)), .second, .val (.double (0 : UInt64)), .second, .val (.double (0 : UInt64)), .second, .val (.double (0 : UInt64)), .second, .unset, .unset, .unset, .unset, .unset] [(.ref ob)])) _
      exact k)
    obtain ⟨cq124, kq124, q124a, q124b, q124c⟩ := isOf hZ rfl G120_0
    obtain ⟨_, _, ⟨T124, L124, k124', n124⟩, -, X124, ⟨Lc124, hQ124, l124, y124, z124⟩, st124⟩ := X120.virtualBack hx (y := (⟨"com/example/topple/topple/markov/PoissonWeights", "next", "()D"⟩ : MethodName)) (z := (⟨"com/example/topple/topple/markov/PoissonWeights", "next", "()D"⟩ : MethodName)) hown (mvT hZ (hw _ (List.mem_of_getElem? (i := 22) rfl))) (mvT hZ (hw _ (List.mem_of_getElem? (i := 23) rfl))) (notFace_of_selects (args := #[]) (mvT hZ (hw _ (List.mem_of_getElem? (i := 25) rfl)))) (mvT hZ (hw _ (List.mem_of_getElem? (i := 25) rfl))) (mvT hZ (hw _ (List.mem_of_getElem? (i := 24) rfl))) (by decide) (backOf (W := 0) (rm_nk l Z a0 hw [] ob ta (mnF (2000 + j.val)) (5 : Int32) (6 : Int32) (Int32.ofNat ((2000 + j.val) / 2)) (Int32.ofNat F) (0 : UInt64) T120.heap n0 (Nat.le_trans (Nat.le_trans (Nat.le_trans (Nat.le_trans (Nat.le_trans (Nat.le_trans (Nat.le_trans (Nat.le_trans Z0 E87.1) K96.1) K100.1) K104.1) K108.1) K112.1) K116.1) K120.1) G120_0 G120_1 G120_2 G120_3 G120_4 G120_5 G120_6 (Nat.le_trans Z0 (Nat.le_of_eq g87.symm)) (by decide) (sk_k (n := 6) (by decide) (by omega) (by omega))) hZ (hw _ (List.mem_of_getElem? (i := 26) rfl)) (hw _ (List.mem_of_getElem? (i := 3) rfl)) (by decide) (by decide)) q124a q124c (g := (mkF m 107 #[.val (.int p1), .val (.int p2), .val (.int (1 : Int32)), .val (.double (mnF (2000 + j.val))), .second, .val (.ref ob), .val (.double (0 : UInt64)), .second, .val (.double (0 : UInt64)), .second, .val (.double (0 : UInt64)), .second, .val (.double (0 : UInt64)), .second, .val (.double (0 : UInt64)), .second, .val (.double (0 : UInt64)), .second, .unset, .unset, .unset, .unset, .unset] [(.ref ob)])) rfl (by rw [hml]; rfl) (Steps.refl _) (argsL := []) (rest := []) (lenOf pd___D rfl) rfl (by show 2 * 0 + _ ≤ _; exact Nat.le_of_eq rfl) (hb hby at_107) (fun _ _ => ⟨rfl, rfl, (by decide : 2 + 0 ≤ _), (by decide : 2006 + 0 ≤ _)⟩)
    dsimp only [Pt.U, Pt.locs, Pt.cells, Pt.slots] at X124 l124 y124 z124 st124 hQ124
    subst l124 y124 z124
    obtain ⟨rfl, N124, K124, G124_0, G124_1, G124_2, G124_3, G124_4, G124_5, G124_6⟩ := hQ124
    have M124 := Fr.app M120 N124
    have F125 : Exa Z T124.heap ob "com/example/topple/topple/markov/PoissonWeights" := (G120_0.keep K124)
    have c126 : ∀ t, Steps p.tables e below (T124.setTop (mkF m 110 #[.val (.int p1), .val (.int p2), .val (.int (1 : Int32)), .val (.double (mnF (2000 + j.val))), .second, .val (.ref ob), .val (.double (0 : UInt64)), .second, .val (.double (0 : UInt64)), .second, .val (.double (0 : UInt64)), .second, .val (.double (0 : UInt64)), .second, .val (.double (0 : UInt64)), .second, .val (.double (0 : UInt64)), .second, .unset, .unset, .unset, .unset, .unset] [(.double (0 : UInt64))])) t → Steps p.tables e below (s₁.setTop (entryFrame m #[(.int p1), (.int p2)] maxLocals)) t := fun t k => c123 t (st124.trans k)
    have c127 : ∀ t, Steps p.tables e below (T124.setTop (mkF m 114 #[.val (.int p1), .val (.int p2), .val (.int (1 : Int32)), .val (.double (mnF (2000 + j.val))), .second, .val (.ref ob), .val (.double (0 : UInt64)), .second, .val (.double (0 : UInt64)), .second, .val (.double (0 : UInt64)), .second, .val (.double (0 : UInt64)), .second, .val (.double (0 : UInt64)), .second, .val (.double (0 : UInt64)), .second, .val (.double (0 : UInt64)), .second, .unset, .unset, .unset] [(.ref ob)])) t → Steps p.tables e below (s₁.setTop (entryFrame m #[(.int p1), (.int p2)] maxLocals)) t := fun t k => c126 t (by
      show Steps p.tables e below (T124.setTop (mkF m 110 #[.val (.int p1), .val (.int p2), .val (.int (1 : Int32)), .val (.double (mnF (2000 + j.val))), .second, .val (.ref ob), .val (.double (0 : UInt64)), .second, .val (.double (0 : UInt64)), .second, .val (.double (0 : UInt64)), .second, .val (.double (0 : UInt64)), .second, .val (.double (0 : UInt64)), .second, .val (.double (0 : UInt64)), .second, .unset, .unset, .unset, .unset, .unset] [(.double (0 : UInt64))])) _
      refine XS.dstore X124.here hx rfl (hb hby at_110) rfl (l' := #[.val (.int p1), .val (.int p2), .val (.int (1 : Int32)), .val (.double (mnF (2000 + j.val))), .second, .val (.ref ob), .val (.double (0 : UInt64)), .second, .val (.double (0 : UInt64)), .second, .val (.double (0 : UInt64)), .second, .val (.double (0 : UInt64)), .second, .val (.double (0 : UInt64)), .second, .val (.double (0 : UInt64)), .second, .val (.double (0 : UInt64)), .second, .unset, .unset, .unset]) rfl ?_
      show Steps p.tables e below (T124.setTop (mkF m 112 #[.val (.int p1), .val (.int p2), .val (.int (1 : Int32)), .val (.double (mnF (2000 + j.val))), .second, .val (.ref ob), .val (.double (0 : UInt64)), .second, .val (.double (0 : UInt64)), .second, .val (.double (0 : UInt64)), .second, .val (.double (0 : UInt64)), .second, .val (.double (0 : UInt64)), .second, .val (.double (0 : UInt64)), .second, .val (.double (0 : UInt64)), .second, .unset, .unset, .unset] [])) _
      refine XS.aload X124.here hx rfl (hb hby at_112) rfl rfl ?_
      show Steps p.tables e below (T124.setTop (mkF m 114 #[.val (.int p1), .val (.int p2), .val (.int (1 : Int32)), .val (.double (mnF (2000 + j.val))), .second, .val (.ref ob), .val (.double (0 : UInt64)), .second, .val (.double (0 : UInt64)), .second, .val (.double (0 : UInt64)), .second, .val (.double (0 : UInt64)), .second, .val (.double (0 : UInt64)), .second, .val (.double (0 : UInt64)), .second, .val (.double (0 : UInt64)), .second, .unset, .unset, .unset] [(.ref ob)])) _
      exact k)
    obtain ⟨cq128, kq128, q128a, q128b, q128c⟩ := isOf hZ rfl G124_0
    obtain ⟨_, _, ⟨T128, L128, k128', n128⟩, -, X128, ⟨Lc128, hQ128, l128, y128, z128⟩, st128⟩ := X124.virtualBack hx (y := (⟨"com/example/topple/topple/markov/PoissonWeights", "next", "()D"⟩ : MethodName)) (z := (⟨"com/example/topple/topple/markov/PoissonWeights", "next", "()D"⟩ : MethodName)) hown (mvT hZ (hw _ (List.mem_of_getElem? (i := 22) rfl))) (mvT hZ (hw _ (List.mem_of_getElem? (i := 23) rfl))) (notFace_of_selects (args := #[]) (mvT hZ (hw _ (List.mem_of_getElem? (i := 25) rfl)))) (mvT hZ (hw _ (List.mem_of_getElem? (i := 25) rfl))) (mvT hZ (hw _ (List.mem_of_getElem? (i := 24) rfl))) (by decide) (backOf (W := 0) (rm_nk l Z a0 hw [] ob ta (mnF (2000 + j.val)) (6 : Int32) (7 : Int32) (Int32.ofNat ((2000 + j.val) / 2)) (Int32.ofNat F) (0 : UInt64) T124.heap n0 (Nat.le_trans (Nat.le_trans (Nat.le_trans (Nat.le_trans (Nat.le_trans (Nat.le_trans (Nat.le_trans (Nat.le_trans (Nat.le_trans Z0 E87.1) K96.1) K100.1) K104.1) K108.1) K112.1) K116.1) K120.1) K124.1) G124_0 G124_1 G124_2 G124_3 G124_4 G124_5 G124_6 (Nat.le_trans Z0 (Nat.le_of_eq g87.symm)) (by decide) (sk_k (n := 7) (by decide) (by omega) (by omega))) hZ (hw _ (List.mem_of_getElem? (i := 26) rfl)) (hw _ (List.mem_of_getElem? (i := 3) rfl)) (by decide) (by decide)) q128a q128c (g := (mkF m 114 #[.val (.int p1), .val (.int p2), .val (.int (1 : Int32)), .val (.double (mnF (2000 + j.val))), .second, .val (.ref ob), .val (.double (0 : UInt64)), .second, .val (.double (0 : UInt64)), .second, .val (.double (0 : UInt64)), .second, .val (.double (0 : UInt64)), .second, .val (.double (0 : UInt64)), .second, .val (.double (0 : UInt64)), .second, .val (.double (0 : UInt64)), .second, .unset, .unset, .unset] [(.ref ob)])) rfl (by rw [hml]; rfl) (Steps.refl _) (argsL := []) (rest := []) (lenOf pd___D rfl) rfl (by show 2 * 0 + _ ≤ _; exact Nat.le_of_eq rfl) (hb hby at_114) (fun _ _ => ⟨rfl, rfl, (by decide : 2 + 0 ≤ _), (by decide : 2006 + 0 ≤ _)⟩)
    dsimp only [Pt.U, Pt.locs, Pt.cells, Pt.slots] at X128 l128 y128 z128 st128 hQ128
    subst l128 y128 z128
    obtain ⟨rfl, N128, K128, G128_0, G128_1, G128_2, G128_3, G128_4, G128_5, G128_6⟩ := hQ128
    have M128 := Fr.app M124 N128
    have F129 : Exa Z T128.heap ob "com/example/topple/topple/markov/PoissonWeights" := (G124_0.keep K128)
    have c130 : ∀ t, Steps p.tables e below (T128.setTop (mkF m 117 #[.val (.int p1), .val (.int p2), .val (.int (1 : Int32)), .val (.double (mnF (2000 + j.val))), .second, .val (.ref ob), .val (.double (0 : UInt64)), .second, .val (.double (0 : UInt64)), .second, .val (.double (0 : UInt64)), .second, .val (.double (0 : UInt64)), .second, .val (.double (0 : UInt64)), .second, .val (.double (0 : UInt64)), .second, .val (.double (0 : UInt64)), .second, .unset, .unset, .unset] [(.double (0 : UInt64))])) t → Steps p.tables e below (s₁.setTop (entryFrame m #[(.int p1), (.int p2)] maxLocals)) t := fun t k => c127 t (st128.trans k)
    have c131 : ∀ t, Steps p.tables e below (T128.setTop (mkF m 121 #[.val (.int p1), .val (.int p2), .val (.int (1 : Int32)), .val (.double (mnF (2000 + j.val))), .second, .val (.ref ob), .val (.double (0 : UInt64)), .second, .val (.double (0 : UInt64)), .second, .val (.double (0 : UInt64)), .second, .val (.double (0 : UInt64)), .second, .val (.double (0 : UInt64)), .second, .val (.double (0 : UInt64)), .second, .val (.double (0 : UInt64)), .second, .val (.double (0 : UInt64)), .second, .unset] [(.ref ob)])) t → Steps p.tables e below (s₁.setTop (entryFrame m #[(.int p1), (.int p2)] maxLocals)) t := fun t k => c130 t (by
      show Steps p.tables e below (T128.setTop (mkF m 117 #[.val (.int p1), .val (.int p2), .val (.int (1 : Int32)), .val (.double (mnF (2000 + j.val))), .second, .val (.ref ob), .val (.double (0 : UInt64)), .second, .val (.double (0 : UInt64)), .second, .val (.double (0 : UInt64)), .second, .val (.double (0 : UInt64)), .second, .val (.double (0 : UInt64)), .second, .val (.double (0 : UInt64)), .second, .val (.double (0 : UInt64)), .second, .unset, .unset, .unset] [(.double (0 : UInt64))])) _
      refine XS.dstore X128.here hx rfl (hb hby at_117) rfl (l' := #[.val (.int p1), .val (.int p2), .val (.int (1 : Int32)), .val (.double (mnF (2000 + j.val))), .second, .val (.ref ob), .val (.double (0 : UInt64)), .second, .val (.double (0 : UInt64)), .second, .val (.double (0 : UInt64)), .second, .val (.double (0 : UInt64)), .second, .val (.double (0 : UInt64)), .second, .val (.double (0 : UInt64)), .second, .val (.double (0 : UInt64)), .second, .val (.double (0 : UInt64)), .second, .unset]) rfl ?_
      show Steps p.tables e below (T128.setTop (mkF m 119 #[.val (.int p1), .val (.int p2), .val (.int (1 : Int32)), .val (.double (mnF (2000 + j.val))), .second, .val (.ref ob), .val (.double (0 : UInt64)), .second, .val (.double (0 : UInt64)), .second, .val (.double (0 : UInt64)), .second, .val (.double (0 : UInt64)), .second, .val (.double (0 : UInt64)), .second, .val (.double (0 : UInt64)), .second, .val (.double (0 : UInt64)), .second, .val (.double (0 : UInt64)), .second, .unset] [])) _
      refine XS.aload X128.here hx rfl (hb hby at_119) rfl rfl ?_
      show Steps p.tables e below (T128.setTop (mkF m 121 #[.val (.int p1), .val (.int p2), .val (.int (1 : Int32)), .val (.double (mnF (2000 + j.val))), .second, .val (.ref ob), .val (.double (0 : UInt64)), .second, .val (.double (0 : UInt64)), .second, .val (.double (0 : UInt64)), .second, .val (.double (0 : UInt64)), .second, .val (.double (0 : UInt64)), .second, .val (.double (0 : UInt64)), .second, .val (.double (0 : UInt64)), .second, .val (.double (0 : UInt64)), .second, .unset] [(.ref ob)])) _
      exact k)
    obtain ⟨cq132, kq132, q132a, q132b, q132c⟩ := isOf hZ rfl G128_0
    obtain ⟨_, _, ⟨T132, L132, k132', n132⟩, -, X132, ⟨Lc132, hQ132, l132, y132, z132⟩, st132⟩ := X128.virtualBack hx (y := (⟨"com/example/topple/topple/markov/PoissonWeights", "count", "()I"⟩ : MethodName)) (z := (⟨"com/example/topple/topple/markov/PoissonWeights", "count", "()I"⟩ : MethodName)) hown (mvT hZ (hw _ (List.mem_of_getElem? (i := 29) rfl))) (mvT hZ (hw _ (List.mem_of_getElem? (i := 30) rfl))) (notFace_of_selects (args := #[]) (mvT hZ (hw _ (List.mem_of_getElem? (i := 32) rfl)))) (mvT hZ (hw _ (List.mem_of_getElem? (i := 32) rfl))) (mvT hZ (hw _ (List.mem_of_getElem? (i := 31) rfl))) (by decide) (backOf (W := 0) (rm_cn l Z a0 hw [] ob (7 : Int32) T128.heap n0 (Nat.le_trans (Nat.le_trans (Nat.le_trans (Nat.le_trans (Nat.le_trans (Nat.le_trans (Nat.le_trans (Nat.le_trans (Nat.le_trans (Nat.le_trans Z0 E87.1) K96.1) K100.1) K104.1) K108.1) K112.1) K116.1) K120.1) K124.1) K128.1) G128_1) hZ (hw _ (List.mem_of_getElem? (i := 33) rfl)) (hw _ (List.mem_of_getElem? (i := 3) rfl)) (by decide) (by decide)) q132a q132c (g := (mkF m 121 #[.val (.int p1), .val (.int p2), .val (.int (1 : Int32)), .val (.double (mnF (2000 + j.val))), .second, .val (.ref ob), .val (.double (0 : UInt64)), .second, .val (.double (0 : UInt64)), .second, .val (.double (0 : UInt64)), .second, .val (.double (0 : UInt64)), .second, .val (.double (0 : UInt64)), .second, .val (.double (0 : UInt64)), .second, .val (.double (0 : UInt64)), .second, .val (.double (0 : UInt64)), .second, .unset] [(.ref ob)])) rfl (by rw [hml]; rfl) (Steps.refl _) (argsL := []) (rest := []) (lenOf pd___I rfl) rfl (by show 2 * 0 + _ ≤ _; exact Nat.le_of_eq rfl) (hb hby at_121) (fun _ _ => ⟨rfl, rfl, (by decide : 2 + 0 ≤ _), (by decide : 2006 + 0 ≤ _)⟩)
    dsimp only [Pt.U, Pt.locs, Pt.cells, Pt.slots] at X132 l132 y132 z132 st132 hQ132
    subst l132 y132 z132
    obtain ⟨rfl, N132, e132⟩ := hQ132
    have M132 := Fr.app M128 N132
    have c133 : ∀ t, Steps p.tables e below (T132.setTop (mkF m 124 #[.val (.int p1), .val (.int p2), .val (.int (1 : Int32)), .val (.double (mnF (2000 + j.val))), .second, .val (.ref ob), .val (.double (0 : UInt64)), .second, .val (.double (0 : UInt64)), .second, .val (.double (0 : UInt64)), .second, .val (.double (0 : UInt64)), .second, .val (.double (0 : UInt64)), .second, .val (.double (0 : UInt64)), .second, .val (.double (0 : UInt64)), .second, .val (.double (0 : UInt64)), .second, .unset] [(.int (7 : Int32))])) t → Steps p.tables e below (s₁.setTop (entryFrame m #[(.int p1), (.int p2)] maxLocals)) t := fun t k => c131 t (st132.trans k)
    obtain ⟨k138, hk138⟩ : ∃ v : Int32, cmpValue (FP.dcmp (0 : UInt64) FP.dconst0) .l = v := ⟨_, rfl⟩
    have e138 : k138 = 0 := hk138.symm.trans z_c
    obtain ⟨k145, hk145⟩ : ∃ v : Int32, cmpValue (FP.dcmp (0 : UInt64) FP.dconst0) .l = v := ⟨_, rfl⟩
    have e145 : k145 = 0 := hk145.symm.trans z_c
    obtain ⟨k152, hk152⟩ : ∃ v : Int32, cmpValue (FP.dcmp (0 : UInt64) FP.dconst0) .l = v := ⟨_, rfl⟩
    have e152 : k152 = 0 := hk152.symm.trans z_c
    obtain ⟨k159, hk159⟩ : ∃ v : Int32, cmpValue (FP.dcmp (0 : UInt64) FP.dconst0) .l = v := ⟨_, rfl⟩
    have e159 : k159 = 0 := hk159.symm.trans z_c
    obtain ⟨k166, hk166⟩ : ∃ v : Int32, cmpValue (FP.dcmp (0 : UInt64) FP.dconst0) .l = v := ⟨_, rfl⟩
    have e166 : k166 = 0 := hk166.symm.trans z_c
    obtain ⟨k173, hk173⟩ : ∃ v : Int32, cmpValue (FP.dcmp (0 : UInt64) FP.dconst0) .l = v := ⟨_, rfl⟩
    have e173 : k173 = 0 := hk173.symm.trans z_c
    obtain ⟨k180, hk180⟩ : ∃ v : Int32, cmpValue (FP.dcmp (0 : UInt64) FP.dconst0) .l = v := ⟨_, rfl⟩
    have e180 : k180 = 0 := hk180.symm.trans z_c
    obtain ⟨k187, hk187⟩ : ∃ v : Int32, cmpValue (FP.dcmp (0 : UInt64) FP.dconst0) .l = v := ⟨_, rfl⟩
    have e187 : k187 = 0 := hk187.symm.trans z_c
    have c134 : ∀ t, Steps p.tables e below (T132.setTop (mkF m 196 #[.val (.int p1), .val (.int p2), .val (.int (1 : Int32)), .val (.double (mnF (2000 + j.val))), .second, .val (.ref ob), .val (.double (0 : UInt64)), .second, .val (.double (0 : UInt64)), .second, .val (.double (0 : UInt64)), .second, .val (.double (0 : UInt64)), .second, .val (.double (0 : UInt64)), .second, .val (.double (0 : UInt64)), .second, .val (.double (0 : UInt64)), .second, .val (.double (0 : UInt64)), .second, .unset] [(.int (1 : Int32))])) t → Steps p.tables e below (s₁.setTop (entryFrame m #[(.int p1), (.int p2)] maxLocals)) t := fun t k => c133 t (by
      show Steps p.tables e below (T132.setTop (mkF m 124 #[.val (.int p1), .val (.int p2), .val (.int (1 : Int32)), .val (.double (mnF (2000 + j.val))), .second, .val (.ref ob), .val (.double (0 : UInt64)), .second, .val (.double (0 : UInt64)), .second, .val (.double (0 : UInt64)), .second, .val (.double (0 : UInt64)), .second, .val (.double (0 : UInt64)), .second, .val (.double (0 : UInt64)), .second, .val (.double (0 : UInt64)), .second, .val (.double (0 : UInt64)), .second, .unset] [(.int (7 : Int32))])) _
      refine XS.bipush X132.here hx rfl (hb hby at_124) ?_
      show Steps p.tables e below (T132.setTop (mkF m 126 #[.val (.int p1), .val (.int p2), .val (.int (1 : Int32)), .val (.double (mnF (2000 + j.val))), .second, .val (.ref ob), .val (.double (0 : UInt64)), .second, .val (.double (0 : UInt64)), .second, .val (.double (0 : UInt64)), .second, .val (.double (0 : UInt64)), .second, .val (.double (0 : UInt64)), .second, .val (.double (0 : UInt64)), .second, .val (.double (0 : UInt64)), .second, .val (.double (0 : UInt64)), .second, .unset] [(.int (7 : Int32)), (.int (7 : Int32))])) _
      refine XS.icmpYes X132.here hx rfl (pc0 := 126) (pc' := 131) rfl (hb hby at_126) rfl (XT.ii_eq_t (by decide)) (by decide) (by decide) ?_
      show Steps p.tables e below (T132.setTop (mkF m 131 #[.val (.int p1), .val (.int p2), .val (.int (1 : Int32)), .val (.double (mnF (2000 + j.val))), .second, .val (.ref ob), .val (.double (0 : UInt64)), .second, .val (.double (0 : UInt64)), .second, .val (.double (0 : UInt64)), .second, .val (.double (0 : UInt64)), .second, .val (.double (0 : UInt64)), .second, .val (.double (0 : UInt64)), .second, .val (.double (0 : UInt64)), .second, .val (.double (0 : UInt64)), .second, .unset] [])) _
      refine XS.iloadN X132.here hx rfl (hb hby at_131) rfl ?_
      show Steps p.tables e below (T132.setTop (mkF m 132 #[.val (.int p1), .val (.int p2), .val (.int (1 : Int32)), .val (.double (mnF (2000 + j.val))), .second, .val (.ref ob), .val (.double (0 : UInt64)), .second, .val (.double (0 : UInt64)), .second, .val (.double (0 : UInt64)), .second, .val (.double (0 : UInt64)), .second, .val (.double (0 : UInt64)), .second, .val (.double (0 : UInt64)), .second, .val (.double (0 : UInt64)), .second, .val (.double (0 : UInt64)), .second, .unset] [(.int (1 : Int32))])) _
      refine XS.ifNo X132.here hx rfl (hb hby at_132) rfl (XT.i0_eq_f (by decide)) ?_
      show Steps p.tables e below (T132.setTop (mkF m 135 #[.val (.int p1), .val (.int p2), .val (.int (1 : Int32)), .val (.double (mnF (2000 + j.val))), .second, .val (.ref ob), .val (.double (0 : UInt64)), .second, .val (.double (0 : UInt64)), .second, .val (.double (0 : UInt64)), .second, .val (.double (0 : UInt64)), .second, .val (.double (0 : UInt64)), .second, .val (.double (0 : UInt64)), .second, .val (.double (0 : UInt64)), .second, .val (.double (0 : UInt64)), .second, .unset] [])) _
      refine XS.dload X132.here hx rfl (hb hby at_135) rfl ?_
      show Steps p.tables e below (T132.setTop (mkF m 137 #[.val (.int p1), .val (.int p2), .val (.int (1 : Int32)), .val (.double (mnF (2000 + j.val))), .second, .val (.ref ob), .val (.double (0 : UInt64)), .second, .val (.double (0 : UInt64)), .second, .val (.double (0 : UInt64)), .second, .val (.double (0 : UInt64)), .second, .val (.double (0 : UInt64)), .second, .val (.double (0 : UInt64)), .second, .val (.double (0 : UInt64)), .second, .val (.double (0 : UInt64)), .second, .unset] [(.double (0 : UInt64))])) _
      refine XS.dconst0 X132.here hx rfl (hb hby at_137) rfl ?_
      show Steps p.tables e below (T132.setTop (mkF m 138 #[.val (.int p1), .val (.int p2), .val (.int (1 : Int32)), .val (.double (mnF (2000 + j.val))), .second, .val (.ref ob), .val (.double (0 : UInt64)), .second, .val (.double (0 : UInt64)), .second, .val (.double (0 : UInt64)), .second, .val (.double (0 : UInt64)), .second, .val (.double (0 : UInt64)), .second, .val (.double (0 : UInt64)), .second, .val (.double (0 : UInt64)), .second, .val (.double (0 : UInt64)), .second, .unset] [(.double FP.dconst0), (.double (0 : UInt64))])) _
      refine XS.dcmpS X132.here hx rfl (hb hby at_138) rfl hk138 ?_
      show Steps p.tables e below (T132.setTop (mkF m 139 #[.val (.int p1), .val (.int p2), .val (.int (1 : Int32)), .val (.double (mnF (2000 + j.val))), .second, .val (.ref ob), .val (.double (0 : UInt64)), .second, .val (.double (0 : UInt64)), .second, .val (.double (0 : UInt64)), .second, .val (.double (0 : UInt64)), .second, .val (.double (0 : UInt64)), .second, .val (.double (0 : UInt64)), .second, .val (.double (0 : UInt64)), .second, .val (.double (0 : UInt64)), .second, .unset] [(.int k138)])) _
      refine XS.ifNo X132.here hx rfl (hb hby at_139) rfl (XT.i0_ne_f e138) ?_
      show Steps p.tables e below (T132.setTop (mkF m 142 #[.val (.int p1), .val (.int p2), .val (.int (1 : Int32)), .val (.double (mnF (2000 + j.val))), .second, .val (.ref ob), .val (.double (0 : UInt64)), .second, .val (.double (0 : UInt64)), .second, .val (.double (0 : UInt64)), .second, .val (.double (0 : UInt64)), .second, .val (.double (0 : UInt64)), .second, .val (.double (0 : UInt64)), .second, .val (.double (0 : UInt64)), .second, .val (.double (0 : UInt64)), .second, .unset] [])) _
      refine XS.dload X132.here hx rfl (hb hby at_142) rfl ?_
      show Steps p.tables e below (T132.setTop (mkF m 144 #[.val (.int p1), .val (.int p2), .val (.int (1 : Int32)), .val (.double (mnF (2000 + j.val))), .second, .val (.ref ob), .val (.double (0 : UInt64)), .second, .val (.double (0 : UInt64)), .second, .val (.double (0 : UInt64)), .second, .val (.double (0 : UInt64)), .second, .val (.double (0 : UInt64)), .second, .val (.double (0 : UInt64)), .second, .val (.double (0 : UInt64)), .second, .val (.double (0 : UInt64)), .second, .unset] [(.double (0 : UInt64))])) _
      refine XS.dconst0 X132.here hx rfl (hb hby at_144) rfl ?_
      show Steps p.tables e below (T132.setTop (mkF m 145 #[.val (.int p1), .val (.int p2), .val (.int (1 : Int32)), .val (.double (mnF (2000 + j.val))), .second, .val (.ref ob), .val (.double (0 : UInt64)), .second, .val (.double (0 : UInt64)), .second, .val (.double (0 : UInt64)), .second, .val (.double (0 : UInt64)), .second, .val (.double (0 : UInt64)), .second, .val (.double (0 : UInt64)), .second, .val (.double (0 : UInt64)), .second, .val (.double (0 : UInt64)), .second, .unset] [(.double FP.dconst0), (.double (0 : UInt64))])) _
      refine XS.dcmpS X132.here hx rfl (hb hby at_145) rfl hk145 ?_
      show Steps p.tables e below (T132.setTop (mkF m 146 #[.val (.int p1), .val (.int p2), .val (.int (1 : Int32)), .val (.double (mnF (2000 + j.val))), .second, .val (.ref ob), .val (.double (0 : UInt64)), .second, .val (.double (0 : UInt64)), .second, .val (.double (0 : UInt64)), .second, .val (.double (0 : UInt64)), .second, .val (.double (0 : UInt64)), .second, .val (.double (0 : UInt64)), .second, .val (.double (0 : UInt64)), .second, .val (.double (0 : UInt64)), .second, .unset] [(.int k145)])) _
      refine XS.ifNo X132.here hx rfl (hb hby at_146) rfl (XT.i0_ne_f e145) ?_
      show Steps p.tables e below (T132.setTop (mkF m 149 #[.val (.int p1), .val (.int p2), .val (.int (1 : Int32)), .val (.double (mnF (2000 + j.val))), .second, .val (.ref ob), .val (.double (0 : UInt64)), .second, .val (.double (0 : UInt64)), .second, .val (.double (0 : UInt64)), .second, .val (.double (0 : UInt64)), .second, .val (.double (0 : UInt64)), .second, .val (.double (0 : UInt64)), .second, .val (.double (0 : UInt64)), .second, .val (.double (0 : UInt64)), .second, .unset] [])) _
      refine XS.dload X132.here hx rfl (hb hby at_149) rfl ?_
      show Steps p.tables e below (T132.setTop (mkF m 151 #[.val (.int p1), .val (.int p2), .val (.int (1 : Int32)), .val (.double (mnF (2000 + j.val))), .second, .val (.ref ob), .val (.double (0 : UInt64)), .second, .val (.double (0 : UInt64)), .second, .val (.double (0 : UInt64)), .second, .val (.double (0 : UInt64)), .second, .val (.double (0 : UInt64)), .second, .val (.double (0 : UInt64)), .second, .val (.double (0 : UInt64)), .second, .val (.double (0 : UInt64)), .second, .unset] [(.double (0 : UInt64))])) _
      refine XS.dconst0 X132.here hx rfl (hb hby at_151) rfl ?_
      show Steps p.tables e below (T132.setTop (mkF m 152 #[.val (.int p1), .val (.int p2), .val (.int (1 : Int32)), .val (.double (mnF (2000 + j.val))), .second, .val (.ref ob), .val (.double (0 : UInt64)), .second, .val (.double (0 : UInt64)), .second, .val (.double (0 : UInt64)), .second, .val (.double (0 : UInt64)), .second, .val (.double (0 : UInt64)), .second, .val (.double (0 : UInt64)), .second, .val (.double (0 : UInt64)), .second, .val (.double (0 : UInt64)), .second, .unset] [(.double FP.dconst0), (.double (0 : UInt64))])) _
      refine XS.dcmpS X132.here hx rfl (hb hby at_152) rfl hk152 ?_
      show Steps p.tables e below (T132.setTop (mkF m 153 #[.val (.int p1), .val (.int p2), .val (.int (1 : Int32)), .val (.double (mnF (2000 + j.val))), .second, .val (.ref ob), .val (.double (0 : UInt64)), .second, .val (.double (0 : UInt64)), .second, .val (.double (0 : UInt64)), .second, .val (.double (0 : UInt64)), .second, .val (.double (0 : UInt64)), .second, .val (.double (0 : UInt64)), .second, .val (.double (0 : UInt64)), .second, .val (.double (0 : UInt64)), .second, .unset] [(.int k152)])) _
      refine XS.ifNo X132.here hx rfl (hb hby at_153) rfl (XT.i0_ne_f e152) ?_
      show Steps p.tables e below (T132.setTop (mkF m 156 #[.val (.int p1), .val (.int p2), .val (.int (1 : Int32)), .val (.double (mnF (2000 + j.val))), .second, .val (.ref ob), .val (.double (0 : UInt64)), .second, .val (.double (0 : UInt64)), .second, .val (.double (0 : UInt64)), .second, .val (.double (0 : UInt64)), .second, .val (.double (0 : UInt64)), .second, .val (.double (0 : UInt64)), .second, .val (.double (0 : UInt64)), .second, .val (.double (0 : UInt64)), .second, .unset] [])) _
      refine XS.dload X132.here hx rfl (hb hby at_156) rfl ?_
      show Steps p.tables e below (T132.setTop (mkF m 158 #[.val (.int p1), .val (.int p2), .val (.int (1 : Int32)), .val (.double (mnF (2000 + j.val))), .second, .val (.ref ob), .val (.double (0 : UInt64)), .second, .val (.double (0 : UInt64)), .second, .val (.double (0 : UInt64)), .second, .val (.double (0 : UInt64)), .second, .val (.double (0 : UInt64)), .second, .val (.double (0 : UInt64)), .second, .val (.double (0 : UInt64)), .second, .val (.double (0 : UInt64)), .second, .unset] [(.double (0 : UInt64))])) _
      refine XS.dconst0 X132.here hx rfl (hb hby at_158) rfl ?_
      show Steps p.tables e below (T132.setTop (mkF m 159 #[.val (.int p1), .val (.int p2), .val (.int (1 : Int32)), .val (.double (mnF (2000 + j.val))), .second, .val (.ref ob), .val (.double (0 : UInt64)), .second, .val (.double (0 : UInt64)), .second, .val (.double (0 : UInt64)), .second, .val (.double (0 : UInt64)), .second, .val (.double (0 : UInt64)), .second, .val (.double (0 : UInt64)), .second, .val (.double (0 : UInt64)), .second, .val (.double (0 : UInt64)), .second, .unset] [(.double FP.dconst0), (.double (0 : UInt64))])) _
      refine XS.dcmpS X132.here hx rfl (hb hby at_159) rfl hk159 ?_
      show Steps p.tables e below (T132.setTop (mkF m 160 #[.val (.int p1), .val (.int p2), .val (.int (1 : Int32)), .val (.double (mnF (2000 + j.val))), .second, .val (.ref ob), .val (.double (0 : UInt64)), .second, .val (.double (0 : UInt64)), .second, .val (.double (0 : UInt64)), .second, .val (.double (0 : UInt64)), .second, .val (.double (0 : UInt64)), .second, .val (.double (0 : UInt64)), .second, .val (.double (0 : UInt64)), .second, .val (.double (0 : UInt64)), .second, .unset] [(.int k159)])) _
      refine XS.ifNo X132.here hx rfl (hb hby at_160) rfl (XT.i0_ne_f e159) ?_
      show Steps p.tables e below (T132.setTop (mkF m 163 #[.val (.int p1), .val (.int p2), .val (.int (1 : Int32)), .val (.double (mnF (2000 + j.val))), .second, .val (.ref ob), .val (.double (0 : UInt64)), .second, .val (.double (0 : UInt64)), .second, .val (.double (0 : UInt64)), .second, .val (.double (0 : UInt64)), .second, .val (.double (0 : UInt64)), .second, .val (.double (0 : UInt64)), .second, .val (.double (0 : UInt64)), .second, .val (.double (0 : UInt64)), .second, .unset] [])) _
      refine XS.dload X132.here hx rfl (hb hby at_163) rfl ?_
      show Steps p.tables e below (T132.setTop (mkF m 165 #[.val (.int p1), .val (.int p2), .val (.int (1 : Int32)), .val (.double (mnF (2000 + j.val))), .second, .val (.ref ob), .val (.double (0 : UInt64)), .second, .val (.double (0 : UInt64)), .second, .val (.double (0 : UInt64)), .second, .val (.double (0 : UInt64)), .second, .val (.double (0 : UInt64)), .second, .val (.double (0 : UInt64)), .second, .val (.double (0 : UInt64)), .second, .val (.double (0 : UInt64)), .second, .unset] [(.double (0 : UInt64))])) _
      refine XS.dconst0 X132.here hx rfl (hb hby at_165) rfl ?_
      show Steps p.tables e below (T132.setTop (mkF m 166 #[.val (.int p1), .val (.int p2), .val (.int (1 : Int32)), .val (.double (mnF (2000 + j.val))), .second, .val (.ref ob), .val (.double (0 : UInt64)), .second, .val (.double (0 : UInt64)), .second, .val (.double (0 : UInt64)), .second, .val (.double (0 : UInt64)), .second, .val (.double (0 : UInt64)), .second, .val (.double (0 : UInt64)), .second, .val (.double (0 : UInt64)), .second, .val (.double (0 : UInt64)), .second, .unset] [(.double FP.dconst0), (.double (0 : UInt64))])) _
      refine XS.dcmpS X132.here hx rfl (hb hby at_166) rfl hk166 ?_
      show Steps p.tables e below (T132.setTop (mkF m 167 #[.val (.int p1), .val (.int p2), .val (.int (1 : Int32)), .val (.double (mnF (2000 + j.val))), .second, .val (.ref ob), .val (.double (0 : UInt64)), .second, .val (.double (0 : UInt64)), .second, .val (.double (0 : UInt64)), .second, .val (.double (0 : UInt64)), .second, .val (.double (0 : UInt64)), .second, .val (.double (0 : UInt64)), .second, .val (.double (0 : UInt64)), .second, .val (.double (0 : UInt64)), .second, .unset] [(.int k166)])) _
      refine XS.ifNo X132.here hx rfl (hb hby at_167) rfl (XT.i0_ne_f e166) ?_
      show Steps p.tables e below (T132.setTop (mkF m 170 #[.val (.int p1), .val (.int p2), .val (.int (1 : Int32)), .val (.double (mnF (2000 + j.val))), .second, .val (.ref ob), .val (.double (0 : UInt64)), .second, .val (.double (0 : UInt64)), .second, .val (.double (0 : UInt64)), .second, .val (.double (0 : UInt64)), .second, .val (.double (0 : UInt64)), .second, .val (.double (0 : UInt64)), .second, .val (.double (0 : UInt64)), .second, .val (.double (0 : UInt64)), .second, .unset] [])) _
      refine XS.dload X132.here hx rfl (hb hby at_170) rfl ?_
      show Steps p.tables e below (T132.setTop (mkF m 172 #[.val (.int p1), .val (.int p2), .val (.int (1 : Int32)), .val (.double (mnF (2000 + j.val))), .second, .val (.ref ob), .val (.double (0 : UInt64)), .second, .val (.double (0 : UInt64)), .second, .val (.double (0 : UInt64)), .second, .val (.double (0 : UInt64)), .second, .val (.double (0 : UInt64)), .second, .val (.double (0 : UInt64)), .second, .val (.double (0 : UInt64)), .second, .val (.double (0 : UInt64)), .second, .unset] [(.double (0 : UInt64))])) _
      refine XS.dconst0 X132.here hx rfl (hb hby at_172) rfl ?_
      show Steps p.tables e below (T132.setTop (mkF m 173 #[.val (.int p1), .val (.int p2), .val (.int (1 : Int32)), .val (.double (mnF (2000 + j.val))), .second, .val (.ref ob), .val (.double (0 : UInt64)), .second, .val (.double (0 : UInt64)), .second, .val (.double (0 : UInt64)), .second, .val (.double (0 : UInt64)), .second, .val (.double (0 : UInt64)), .second, .val (.double (0 : UInt64)), .second, .val (.double (0 : UInt64)), .second, .val (.double (0 : UInt64)), .second, .unset] [(.double FP.dconst0), (.double (0 : UInt64))])) _
      refine XS.dcmpS X132.here hx rfl (hb hby at_173) rfl hk173 ?_
      show Steps p.tables e below (T132.setTop (mkF m 174 #[.val (.int p1), .val (.int p2), .val (.int (1 : Int32)), .val (.double (mnF (2000 + j.val))), .second, .val (.ref ob), .val (.double (0 : UInt64)), .second, .val (.double (0 : UInt64)), .second, .val (.double (0 : UInt64)), .second, .val (.double (0 : UInt64)), .second, .val (.double (0 : UInt64)), .second, .val (.double (0 : UInt64)), .second, .val (.double (0 : UInt64)), .second, .val (.double (0 : UInt64)), .second, .unset] [(.int k173)])) _
      refine XS.ifNo X132.here hx rfl (hb hby at_174) rfl (XT.i0_ne_f e173) ?_
      show Steps p.tables e below (T132.setTop (mkF m 177 #[.val (.int p1), .val (.int p2), .val (.int (1 : Int32)), .val (.double (mnF (2000 + j.val))), .second, .val (.ref ob), .val (.double (0 : UInt64)), .second, .val (.double (0 : UInt64)), .second, .val (.double (0 : UInt64)), .second, .val (.double (0 : UInt64)), .second, .val (.double (0 : UInt64)), .second, .val (.double (0 : UInt64)), .second, .val (.double (0 : UInt64)), .second, .val (.double (0 : UInt64)), .second, .unset] [])) _
      refine XS.dload X132.here hx rfl (hb hby at_177) rfl ?_
      show Steps p.tables e below (T132.setTop (mkF m 179 #[.val (.int p1), .val (.int p2), .val (.int (1 : Int32)), .val (.double (mnF (2000 + j.val))), .second, .val (.ref ob), .val (.double (0 : UInt64)), .second, .val (.double (0 : UInt64)), .second, .val (.double (0 : UInt64)), .second, .val (.double (0 : UInt64)), .second, .val (.double (0 : UInt64)), .second, .val (.double (0 : UInt64)), .second, .val (.double (0 : UInt64)), .second, .val (.double (0 : UInt64)), .second, .unset] [(.double (0 : UInt64))])) _
      refine XS.dconst0 X132.here hx rfl (hb hby at_179) rfl ?_
      show Steps p.tables e below (T132.setTop (mkF m 180 #[.val (.int p1), .val (.int p2), .val (.int (1 : Int32)), .val (.double (mnF (2000 + j.val))), .second, .val (.ref ob), .val (.double (0 : UInt64)), .second, .val (.double (0 : UInt64)), .second, .val (.double (0 : UInt64)), .second, .val (.double (0 : UInt64)), .second, .val (.double (0 : UInt64)), .second, .val (.double (0 : UInt64)), .second, .val (.double (0 : UInt64)), .second, .val (.double (0 : UInt64)), .second, .unset] [(.double FP.dconst0), (.double (0 : UInt64))])) _
      refine XS.dcmpS X132.here hx rfl (hb hby at_180) rfl hk180 ?_
      show Steps p.tables e below (T132.setTop (mkF m 181 #[.val (.int p1), .val (.int p2), .val (.int (1 : Int32)), .val (.double (mnF (2000 + j.val))), .second, .val (.ref ob), .val (.double (0 : UInt64)), .second, .val (.double (0 : UInt64)), .second, .val (.double (0 : UInt64)), .second, .val (.double (0 : UInt64)), .second, .val (.double (0 : UInt64)), .second, .val (.double (0 : UInt64)), .second, .val (.double (0 : UInt64)), .second, .val (.double (0 : UInt64)), .second, .unset] [(.int k180)])) _
      refine XS.ifNo X132.here hx rfl (hb hby at_181) rfl (XT.i0_ne_f e180) ?_
      show Steps p.tables e below (T132.setTop (mkF m 184 #[.val (.int p1), .val (.int p2), .val (.int (1 : Int32)), .val (.double (mnF (2000 + j.val))), .second, .val (.ref ob), .val (.double (0 : UInt64)), .second, .val (.double (0 : UInt64)), .second, .val (.double (0 : UInt64)), .second, .val (.double (0 : UInt64)), .second, .val (.double (0 : UInt64)), .second, .val (.double (0 : UInt64)), .second, .val (.double (0 : UInt64)), .second, .val (.double (0 : UInt64)), .second, .unset] [])) _
      refine XS.dload X132.here hx rfl (hb hby at_184) rfl ?_
      show Steps p.tables e below (T132.setTop (mkF m 186 #[.val (.int p1), .val (.int p2), .val (.int (1 : Int32)), .val (.double (mnF (2000 + j.val))), .second, .val (.ref ob), .val (.double (0 : UInt64)), .second, .val (.double (0 : UInt64)), .second, .val (.double (0 : UInt64)), .second, .val (.double (0 : UInt64)), .second, .val (.double (0 : UInt64)), .second, .val (.double (0 : UInt64)), .second, .val (.double (0 : UInt64)), .second, .val (.double (0 : UInt64)), .second, .unset] [(.double (0 : UInt64))])) _
      refine XS.dconst0 X132.here hx rfl (hb hby at_186) rfl ?_
      show Steps p.tables e below (T132.setTop (mkF m 187 #[.val (.int p1), .val (.int p2), .val (.int (1 : Int32)), .val (.double (mnF (2000 + j.val))), .second, .val (.ref ob), .val (.double (0 : UInt64)), .second, .val (.double (0 : UInt64)), .second, .val (.double (0 : UInt64)), .second, .val (.double (0 : UInt64)), .second, .val (.double (0 : UInt64)), .second, .val (.double (0 : UInt64)), .second, .val (.double (0 : UInt64)), .second, .val (.double (0 : UInt64)), .second, .unset] [(.double FP.dconst0), (.double (0 : UInt64))])) _
      refine XS.dcmpS X132.here hx rfl (hb hby at_187) rfl hk187 ?_
      show Steps p.tables e below (T132.setTop (mkF m 188 #[.val (.int p1), .val (.int p2), .val (.int (1 : Int32)), .val (.double (mnF (2000 + j.val))), .second, .val (.ref ob), .val (.double (0 : UInt64)), .second, .val (.double (0 : UInt64)), .second, .val (.double (0 : UInt64)), .second, .val (.double (0 : UInt64)), .second, .val (.double (0 : UInt64)), .second, .val (.double (0 : UInt64)), .second, .val (.double (0 : UInt64)), .second, .val (.double (0 : UInt64)), .second, .unset] [(.int k187)])) _
      refine XS.ifNo X132.here hx rfl (hb hby at_188) rfl (XT.i0_ne_f e187) ?_
      show Steps p.tables e below (T132.setTop (mkF m 191 #[.val (.int p1), .val (.int p2), .val (.int (1 : Int32)), .val (.double (mnF (2000 + j.val))), .second, .val (.ref ob), .val (.double (0 : UInt64)), .second, .val (.double (0 : UInt64)), .second, .val (.double (0 : UInt64)), .second, .val (.double (0 : UInt64)), .second, .val (.double (0 : UInt64)), .second, .val (.double (0 : UInt64)), .second, .val (.double (0 : UInt64)), .second, .val (.double (0 : UInt64)), .second, .unset] [])) _
      refine XS.iconst X132.here hx rfl (hb hby at_191) ?_
      show Steps p.tables e below (T132.setTop (mkF m 192 #[.val (.int p1), .val (.int p2), .val (.int (1 : Int32)), .val (.double (mnF (2000 + j.val))), .second, .val (.ref ob), .val (.double (0 : UInt64)), .second, .val (.double (0 : UInt64)), .second, .val (.double (0 : UInt64)), .second, .val (.double (0 : UInt64)), .second, .val (.double (0 : UInt64)), .second, .val (.double (0 : UInt64)), .second, .val (.double (0 : UInt64)), .second, .val (.double (0 : UInt64)), .second, .unset] [(.int (1 : Int32))])) _
      refine XS.goto X132.here hx rfl (pc0 := 192) (pc' := 196) rfl (hb hby at_192) (by decide) (by decide) ?_
      show Steps p.tables e below (T132.setTop (mkF m 196 #[.val (.int p1), .val (.int p2), .val (.int (1 : Int32)), .val (.double (mnF (2000 + j.val))), .second, .val (.ref ob), .val (.double (0 : UInt64)), .second, .val (.double (0 : UInt64)), .second, .val (.double (0 : UInt64)), .second, .val (.double (0 : UInt64)), .second, .val (.double (0 : UInt64)), .second, .val (.double (0 : UInt64)), .second, .val (.double (0 : UInt64)), .second, .val (.double (0 : UInt64)), .second, .unset] [(.int (1 : Int32))])) _
      exact k)
    obtain ⟨fs, hr, hrun, hended, hW, hsame⟩ := X132.leave (v := (some (.int (1 : Int32)))) (fun h => by rw [Bd.returns] at h; cases h)
    refine ⟨_, _, pre0 _ (c134 _ (retN X132 hx (t := .boolean) Bd.returns (by simp) (hb hby at_196) hr)), hrun, hended, _, _, rfl, ?_, ⟨_, rfl⟩, hW, hsame.mono (by decide) (by decide)⟩
    show Q_0 Z p1 p2 h0 n0 _ T132.heap _
    rw [e132]
    exact ⟨rfl, M132⟩
set_option maxRecDepth 65536 in
set_option maxHeartbeats 40000000 in
theorem comes_1 {Post : Tables → Env → Array Value → State → Outcome → State → Prop} (hpost : ∀ tb e args s v u, (limb_1_1.after args s (.returned v) u = true ∧ limb_1_2.after args s (.returned v) u = true ∧ True) → FrameEnd s (.returned v) u (Jvm.fieldLocs frame_1_writes args s ++ Jvm.arrayLocs frame_1_arrays args s ++ Jvm.staticLocs frame_1_statics s) 16 2944 → Post tb e args s (.returned v) u) :
    ArmFor flags0 classFile x code maxLocals ret World_1 tables_1 room_1 Calls_1 rest_1 Pre_1 Post := by
  intro l hfl _ _ p e ha hc hk s m args below hf hA hF happ hP
  obtain ⟨hcalls, hrest, hpre⟩ := hP
  obtain ⟨-, -, -, hnamed, -, -, -, hat⟩ := (Spec.applies_iff hf).mp happ
  obtain ⟨hg, hn⟩ := and_e (Cond.before_iff.mp (show (Jvm.Cond.and given_1 narrow_1).before args s = true from hpre))
  obtain ⟨g0, r0⟩ := and_e hg
  obtain ⟨g1, r1⟩ := and_e r0
  obtain ⟨w0, w1, rfl⟩ : ∃ w0 w1 : Value, args = #[w0, w1] := by
    have hs : args.size = 2 := by simpa [Cond.value, given_1] using g0
    obtain ⟨L⟩ := args
    match L, hs with
    | [w0, w1], _ => exact ⟨w0, w1, rfl⟩
  have hw := fun d (hd : d ∈ tables_1) => atoms_spec (ws := Jvm.Cond.code x code maxLocals ret :: tables_1) hat d (List.mem_cons_of_mem _ hd)
  obtain ⟨i0, e0⟩ := is_v g1
  obtain rfl : w0 = (.int i0) := Option.some.inj e0
  obtain ⟨i1, e1⟩ := is_v r1
  obtain rfl : w1 = (.int i1) := Option.some.inj e1
  obtain ⟨n, o, h1, h2, h3, _, L, rfl, ⟨rfl, N⟩, hq⟩ := rm_0 l s _ hw tables_1 i0 i1 s.heap s.heap.size (Nat.le_refl _)  p e ha hc hk s m _ below hf ((Spec.applies_iff_loose hf).mp happ).1 ⟨rfl, State.Warmed39.refl s, rfl⟩ trivial
  refine ⟨n, _, h1, h2, h3, hpost _ _ _ _ _ _ ⟨Cond.after_iff.mpr rfl, Cond.after_iff.mpr (eq_i res_at (Term.int_eval (1)) rfl), trivial⟩ ⟨hq.1, hq.2.1, (hq.2.2.sift fun y hy => Or.inr (N y hy)).mono (by decide) (by decide)⟩⟩
theorem main_1_1 : Claimed_1_1 := comes_1 fun _ _ _ _ _ _ h hF => ⟨h.1, hF⟩
theorem main_1_2 : Claimed_1_2 := comes_1 fun _ _ _ _ _ _ h hF => ⟨h.2.1, hF⟩
end Jvm.Pilot.@@N@@
namespace Jvm.Pilot.@@N@@
open Jvm Jvm.ClassFile Sem Op Lib Jvm.Free Jvm.Stand Jvm.Pilot.@@N@@.Jvm.D
/-! MADE BY PROGRAM (witnessworld.py) out of the Statement's table words and the real class files: 11 classes; the members and pool entries that the words name. The judged class is class 1, her method 1. -/
namespace start1
open Jvm.ClassFile
def u (s : String) : CpInfo := .utf8 (stringToUtf16 s)
/-- a pool by its gaps: so many unusable entries, then the entry; so many at the end -/
def gap : Nat → List CpInfo → List CpInfo
  | 0, r => r
  | n + 1, r => .unusable :: gap n r
def poolList (es : List (Nat × CpInfo)) (last : Nat) : List CpInfo := es.foldr (fun e r => gap e.1 (e.2 :: r)) (gap last [])
def pool (es : List (Nat × CpInfo)) (last : Nat) : Array CpInfo := ⟨poolList es last⟩
def fileOf (pool : Array CpInfo) (this : Nat) (attrs : Array Attribute := #[]) (ms : Array MethodInfo := #[]) (fl : Nat := 33) (sup : Nat := 0) (ifs : Array Nat := #[]) (fds : Array FieldInfo := #[]) : ClassFile where
  minorVersion := 0
  majorVersion := 65
  constantPool := pool
  accessFlags := fl
  thisClass := this
  superClass := sup
  interfaces := ifs
  fields := fds
  methods := ms
  attributes := attrs
def plain (name : String) (sup : Option ClassId) : Class where
  name := name
  kind := .ordinary
  loader := none
  accessFlags := 33
  super := sup
  interfaces := #[]
  cf := none
  fields := #[]
  methods := #[]
  instanceTypes := #[]
  staticTypes := #[]
  resolved := #[]
  callSites := []
  init := .initialized
  statics := none
  mirror := none

def pool0 : Array CpInfo := pool [(5, u "<init>"), (0, u "()V"), (1, .class_ 10), (1, u "java/lang/Object")] 113

def k0c0 : Code := { maxStack := 0, maxLocals := 1, code := object_method_1_code, exceptionTable := #[], attributes := #[] }
def k0m0 : Method := { name := "<init>", desc := "()V", sig := { parameters := [], returnType := none }, accessFlags := 1, code := some k0c0 }
/-- java/lang/Object -/
def k0 : Class := { plain "java/lang/Object" none with
  accessFlags := 33
  interfaces := #[]
  cf := some (fileOf pool0 8 #[] #[{ accessFlags := 1, nameIndex := 5, descriptorIndex := 6, attributes := #[] }] 33 0 #[] #[])
  fields := #[]
  methods := #[k0m0]
  instanceTypes := #[]
  staticTypes := #[]
  resolved := Array.replicate 124 none
  statics := none }

def pool1 : Array CpInfo := pool [(2, .class_ 4), (1, u "java/lang/Object"), (0, u "<init>"), (0, u "()V"), (0, .double 4611686018427387904), (1, .class_ 10), (0, u "com/example/topple/topple/markov/PoissonWeights"), (0, .methodref 9 12), (0, .nameAndType 5 13), (0, u "(D)V"), (0, .methodref 9 15), (0, .nameAndType 16 17), (0, u "next"), (0, u "()D"), (0, .methodref 9 19), (0, .nameAndType 20 21), (0, u "count"), (0, u "()I"), (0, .methodref 23 24), (0, .class_ 25), (0, .nameAndType 26 27), (0, u "com/example/topple/topple/markov/PoissonWeightsNextPinLaw"), (0, u "ok"), (0, u "(IDDDDI)Z"), (2, u "law"), (0, u "(II)Z")] 3

def k1m0 : Method := { name := "<init>", desc := "()V", sig := { parameters := [], returnType := none }, accessFlags := 1, code := none }
def k1c1 : Code := { maxStack := 10, maxLocals := 23, code := code, exceptionTable := #[], attributes := #[] }
def k1m1 : Method := { name := "law", desc := "(II)Z", sig := { parameters := [.int, .int], returnType := some .boolean }, accessFlags := 9, code := some k1c1 }
def k1c2 : Code := { maxStack := 6, maxLocals := 10, code := method_3_code, exceptionTable := #[], attributes := #[] }
def k1m2 : Method := { name := "ok", desc := "(IDDDDI)Z", sig := { parameters := [.int, .double, .double, .double, .double, .int], returnType := some .boolean }, accessFlags := 10, code := some k1c2 }
/-- com/example/topple/topple/markov/PoissonWeightsNextPinLaw -/
def k1 : Class := { plain "com/example/topple/topple/markov/PoissonWeightsNextPinLaw" (some 0) with
  accessFlags := 49
  interfaces := #[]
  cf := some (fileOf pool1 23 #[] #[{ accessFlags := 1, nameIndex := 5, descriptorIndex := 6, attributes := #[] }, { accessFlags := 9, nameIndex := 30, descriptorIndex := 31, attributes := #[] }, { accessFlags := 10, nameIndex := 26, descriptorIndex := 27, attributes := #[] }] 49 2 #[] #[])
  fields := #[]
  methods := #[k1m0, k1m1, k1m2]
  instanceTypes := #[]
  staticTypes := #[]
  resolved := Array.replicate 35 none
  statics := none }

def pool2 : Array CpInfo := pool [(1, .methodref 2 3), (0, .class_ 4), (0, .nameAndType 5 6), (0, u "java/lang/Object"), (0, u "<init>"), (0, u "()V"), (0, .fieldref 8 9), (0, .class_ 10), (0, .nameAndType 11 12), (0, u "com/example/topple/topple/markov/PoissonWeights"), (0, u "count"), (0, u "I"), (0, .fieldref 8 14), (0, .nameAndType 15 16), (0, u "mean"), (0, u "D"), (0, .fieldref 8 18), (0, .nameAndType 19 12), (0, u "mode"), (0, .double 118622047889322841), (1, .fieldref 8 23), (0, .nameAndType 24 12), (0, u "fewest"), (0, .fieldref 8 26), (0, .nameAndType 27 28), (0, u "toMode"), (0, u "[D"), (0, .fieldref 8 30), (0, .nameAndType 31 16), (0, u "weight"), (4, u "NEGLIGIBLE"), (1, u "(D)V"), (3, u "next"), (0, u "()D"), (0, u "()I")] 3

def k2c0 : Code := { maxStack := 6, maxLocals := 6, code := prog_39_method_1_code, exceptionTable := #[], attributes := #[] }
def k2m0 : Method := { name := "<init>", desc := "(D)V", sig := { parameters := [.double], returnType := none }, accessFlags := 0, code := some k2c0 }
def k2c1 : Code := { maxStack := 5, maxLocals := 1, code := prog_39_method_2_code, exceptionTable := #[], attributes := #[] }
def k2m1 : Method := { name := "next", desc := "()D", sig := { parameters := [], returnType := some .double }, accessFlags := 0, code := some k2c1 }
def k2c2 : Code := { maxStack := 1, maxLocals := 1, code := prog_39_method_3_code, exceptionTable := #[], attributes := #[] }
def k2m2 : Method := { name := "count", desc := "()I", sig := { parameters := [], returnType := some .int }, accessFlags := 0, code := some k2c2 }
/-- com/example/topple/topple/markov/PoissonWeights -/
def k2 : Class := { plain "com/example/topple/topple/markov/PoissonWeights" (some 0) with
  accessFlags := 48
  interfaces := #[]
  cf := some (fileOf pool2 8 #[] #[{ accessFlags := 0, nameIndex := 5, descriptorIndex := 38, attributes := #[] }, { accessFlags := 0, nameIndex := 42, descriptorIndex := 43, attributes := #[] }, { accessFlags := 0, nameIndex := 11, descriptorIndex := 44, attributes := #[] }] 48 2 #[] #[{ accessFlags := 26, nameIndex := 36, descriptorIndex := 16, attributes := #[] }, { accessFlags := 18, nameIndex := 15, descriptorIndex := 16, attributes := #[] }, { accessFlags := 18, nameIndex := 19, descriptorIndex := 12, attributes := #[] }, { accessFlags := 18, nameIndex := 27, descriptorIndex := 28, attributes := #[] }, { accessFlags := 18, nameIndex := 24, descriptorIndex := 12, attributes := #[] }, { accessFlags := 2, nameIndex := 11, descriptorIndex := 12, attributes := #[] }, { accessFlags := 2, nameIndex := 31, descriptorIndex := 16, attributes := #[] }])
  fields := #[{ name := "NEGLIGIBLE", type := .double, accessFlags := 26, slot := 0, constantValue := 0 }, { name := "mean", type := .double, accessFlags := 18, slot := 0, constantValue := 0 }, { name := "mode", type := .int, accessFlags := 18, slot := 1, constantValue := 0 }, { name := "toMode", type := (.array .double), accessFlags := 18, slot := 2, constantValue := 0 }, { name := "fewest", type := .int, accessFlags := 18, slot := 3, constantValue := 0 }, { name := "count", type := .int, accessFlags := 2, slot := 4, constantValue := 0 }, { name := "weight", type := .double, accessFlags := 2, slot := 5, constantValue := 0 }]
  methods := #[k2m0, k2m1, k2m2]
  instanceTypes := #[.double, .int, (.array .double), .int, .int, .double]
  staticTypes := #[.double]
  resolved := Array.replicate 48 none
  statics := none }

def pool3 : Array CpInfo := pool [(1, u "java/lang/Cloneable"), (0, .class_ 1), (0, u "java/lang/Object"), (0, .class_ 3)] 3

/-- java/lang/Cloneable -/
def k3 : Class := { plain "java/lang/Cloneable" (some 0) with
  accessFlags := 1537
  interfaces := #[]
  cf := some (fileOf pool3 2 #[] #[] 1537 4 #[] #[])
  fields := #[]
  methods := #[]
  instanceTypes := #[]
  staticTypes := #[]
  resolved := Array.replicate 8 none
  statics := none }

def pool4 : Array CpInfo := pool [(1, u "java/io/Serializable"), (0, .class_ 1), (0, u "java/lang/Object"), (0, .class_ 3)] 3

/-- java/io/Serializable -/
def k4 : Class := { plain "java/io/Serializable" (some 0) with
  accessFlags := 1537
  interfaces := #[]
  cf := some (fileOf pool4 2 #[] #[] 1537 4 #[] #[])
  fields := #[]
  methods := #[]
  instanceTypes := #[]
  staticTypes := #[]
  resolved := Array.replicate 8 none
  statics := none }

/-- the primitive byte -/
def k5 : Class := { plain "byte" none with kind := .primitive 'B', accessFlags := 0x411 }
/-- [B -/
def k6 : Class := { plain "[B" (some 0) with kind := .array 5 .byte, interfaces := #[3, 4], accessFlags := 1041 }

/-- the primitive double -/
def k7 : Class := { plain "double" none with kind := .primitive 'D', accessFlags := 0x411 }
/-- [D -/
def k8 : Class := { plain "[D" (some 0) with kind := .array 7 .double, interfaces := #[3, 4], accessFlags := 1041 }

/-- the primitive int -/
def k9 : Class := { plain "int" none with kind := .primitive 'I', accessFlags := 0x411 }
/-- [I -/
def k10 : Class := { plain "[I" (some 0) with kind := .array 9 .int, interfaces := #[3, 4], accessFlags := 1041 }

def heap : Heap := #[]
def classes : Array Class := #[k0, k1, k2, k3, k4, k5, k6, k7, k8, k9, k10]
def interned : List (Array UInt16 × Addr) := []
def slotsUsed : Nat := 0
def theMethod : MethodId := ⟨1, 1⟩
def args0 : Array Value := #[.int 1, .int 2]
def aboutOver (below : List Frame) : State where
  vm := { classes := classes, interned := interned.toArray }
  heap := heap
  slotsUsed := slotsUsed
  threads := #[{ frames := .invoking theMethod args0 :: below }]
def below0 : List Frame := [.native { method := ⟨0, 0⟩, args := #[] }]
def about1 : State := aboutOver below0
def p0 : Program := .bare "" "" ""
def e0 : Env := launch0.env 0 0 0
theorem w_frames : about1.frames = Frame.invoking theMethod args0 :: below0 := rfl
set_option maxRecDepth 65536 in
theorem w_args : argsFit about1.vm theMethod args0 = true := by decide +kernel
set_option maxRecDepth 65536 in
theorem w_heap : heapFits about1 = true := by decide +kernel
set_option maxRecDepth 65536 in
theorem w_runnable : about1.curStatus? = some .runnable := by decide +kernel
set_option maxRecDepth 65536 in
theorem w_alone : about1.alone = true := by decide +kernel
set_option maxRecDepth 65536 in
theorem w_named : about1.methodNamed? x = some theMethod := by decide +kernel
set_option maxRecDepth 65536 in
theorem w_hears : about1.hears theMethod below0 = true := by decide +kernel
set_option maxRecDepth 65536 in
theorem w_ripe : about1.ripe theMethod args0 below0 = true := by decide +kernel
theorem w_running : about1.status = .running := rfl
set_option maxRecDepth 65536 in
theorem w_room : about1.hasRoom e0.platform room_1 = true :=
  launch0.hasRoom_least _ room_1 (by decide +kernel) (by decide +kernel) (by decide +kernel) (by decide +kernel) (by decide +kernel) (by decide +kernel)
theorem allAtoms_all (ts : List Jvm.Cond) (a : Array Jvm.Value) (st : Jvm.State) : (allAtoms ts).before a st = ts.all (fun c => c.before a st) := by
  induction ts with
  | nil => rfl
  | cons c t ih =>
    show (Jvm.Cond.and c (allAtoms t)).before a st = _
    rw [Jvm.Cond.before_and, ih, List.all_cons]
def words1 : List Jvm.Cond := Jvm.Cond.code x code maxLocals ret :: tables_1
/-- a 'code' word, met by the world's own term for the bytes: nothing is compared byte by byte -/
theorem code_word {y : MethodName} {bytes : ByteArray} {mx : Nat} {rt : Option FieldType} {a : Array Value} {s : State} {m : MethodId} {meth : Method} {c : Code} (h1 : s.methodNamed? y = some m) (h2 : s.vm.method? m = some meth) (h3 : meth.code = some c) (h4 : c.code = bytes)
    (h5 : (c.maxLocals == mx && c.exceptionTable.isEmpty && decide (c.maxStack ≤ mostOperands) && decide (meth.sig.returnType = rt) && !meth.locks && decide (parseMethodDescriptor y.desc = some meth.sig)) = true) : (Jvm.Cond.code y bytes mx rt).before a s = true := by
  simp only [Bool.and_eq_true, beq_iff_eq, Bool.not_eq_true', decide_eq_true_eq] at h5
  obtain ⟨⟨⟨⟨⟨g1, g2⟩, g3⟩, g4⟩, g5⟩, g6⟩ := h5
  simp [Cond.before, Cond.holds, Cond.value, h1, h2, h3, h4, g1, g2, g3, g4, g5, g6]
def isCode : Jvm.Cond → Bool
  | .code _ _ _ _ => true
  | _ => false
theorem all_split {L : List Jvm.Cond} {P : Jvm.Cond → Bool} (h1 : L.all (fun c => isCode c || P c) = true) (h2 : ∀ c ∈ L.filter isCode, P c = true) : L.all P = true := by
  refine List.all_eq_true.mpr fun c hc => ?_
  have h := List.all_eq_true.mp h1 c hc
  rcases Bool.eq_false_or_eq_true (isCode c) with hi | hi
  · exact h2 c (List.mem_filter.mpr ⟨hc, hi⟩)
  · simpa [hi] using h
set_option maxRecDepth 65536 in
theorem w_c0 : (Jvm.Cond.code x code maxLocals ret).before args0 about1 = true := code_word (m := ⟨1, 1⟩) (meth := k1m1) (c := k1c1) (by decide +kernel) rfl rfl rfl (by decide +kernel)
set_option maxRecDepth 65536 in
theorem w_c1 : (Jvm.Cond.code ({ cls := "com/example/topple/topple/markov/PoissonWeights", name := "<init>", desc := "(D)V" } : Jvm.MethodName) prog_39_method_1_code (6 : Nat) (Option.none : Option Jvm.ClassFile.FieldType)).before args0 about1 = true := code_word (m := ⟨2, 0⟩) (meth := k2m0) (c := k2c0) (by decide +kernel) rfl rfl rfl (by decide +kernel)
set_option maxRecDepth 65536 in
theorem w_c2 : (Jvm.Cond.code ({ cls := "java/lang/Object", name := "<init>", desc := "()V" } : Jvm.MethodName) object_method_1_code (1 : Nat) (Option.none : Option Jvm.ClassFile.FieldType)).before args0 about1 = true := code_word (m := ⟨0, 0⟩) (meth := k0m0) (c := k0c0) (by decide +kernel) rfl rfl rfl (by decide +kernel)
set_option maxRecDepth 65536 in
theorem w_c3 : (Jvm.Cond.code ({ cls := "com/example/topple/topple/markov/PoissonWeights", name := "next", desc := "()D" } : Jvm.MethodName) prog_39_method_2_code (1 : Nat) (Option.some Jvm.ClassFile.FieldType.double)).before args0 about1 = true := code_word (m := ⟨2, 1⟩) (meth := k2m1) (c := k2c1) (by decide +kernel) rfl rfl rfl (by decide +kernel)
set_option maxRecDepth 65536 in
theorem w_c4 : (Jvm.Cond.code ({ cls := "com/example/topple/topple/markov/PoissonWeights", name := "count", desc := "()I" } : Jvm.MethodName) prog_39_method_3_code (1 : Nat) (Option.some Jvm.ClassFile.FieldType.int)).before args0 about1 = true := code_word (m := ⟨2, 2⟩) (meth := k2m2) (c := k2c2) (by decide +kernel) rfl rfl rfl (by decide +kernel)
set_option maxRecDepth 65536 in
theorem w_c5 : (Jvm.Cond.code ({ cls := "com/example/topple/topple/markov/PoissonWeightsNextPinLaw", name := "ok", desc := "(IDDDDI)Z" } : Jvm.MethodName) method_3_code (10 : Nat) (Option.some Jvm.ClassFile.FieldType.boolean)).before args0 about1 = true := code_word (m := ⟨1, 2⟩) (meth := k1m2) (c := k1c2) (by decide +kernel) rfl rfl rfl (by decide +kernel)
def codes1 : List Jvm.Cond := [Jvm.Cond.code x code maxLocals ret, Jvm.Cond.code ({ cls := "com/example/topple/topple/markov/PoissonWeights", name := "<init>", desc := "(D)V" } : Jvm.MethodName) prog_39_method_1_code (6 : Nat) (Option.none : Option Jvm.ClassFile.FieldType), Jvm.Cond.code ({ cls := "java/lang/Object", name := "<init>", desc := "()V" } : Jvm.MethodName) object_method_1_code (1 : Nat) (Option.none : Option Jvm.ClassFile.FieldType), Jvm.Cond.code ({ cls := "com/example/topple/topple/markov/PoissonWeights", name := "next", desc := "()D" } : Jvm.MethodName) prog_39_method_2_code (1 : Nat) (Option.some Jvm.ClassFile.FieldType.double), Jvm.Cond.code ({ cls := "com/example/topple/topple/markov/PoissonWeights", name := "count", desc := "()I" } : Jvm.MethodName) prog_39_method_3_code (1 : Nat) (Option.some Jvm.ClassFile.FieldType.int), Jvm.Cond.code ({ cls := "com/example/topple/topple/markov/PoissonWeightsNextPinLaw", name := "ok", desc := "(IDDDDI)Z" } : Jvm.MethodName) method_3_code (10 : Nat) (Option.some Jvm.ClassFile.FieldType.boolean)]
set_option maxRecDepth 65536 in
theorem codes_eq : words1.filter isCode = codes1 := rfl
theorem w_codes : ∀ c ∈ words1.filter isCode, c.before args0 about1 = true := by
  rw [codes_eq]
  intro c hc
  simp only [codes1, List.mem_cons, List.not_mem_nil, or_false] at hc
  rcases hc with rfl | rfl | rfl | rfl | rfl | rfl
  · exact w_c0
  · exact w_c1
  · exact w_c2
  · exact w_c3
  · exact w_c4
  · exact w_c5
set_option maxRecDepth 65536 in
theorem w_t1 : (words1.take 24).all (fun c => isCode c || c.before args0 about1) = true := by decide +kernel
set_option maxRecDepth 65536 in
theorem w_t2 : (words1.drop 24).all (fun c => isCode c || c.before args0 about1) = true := by decide +kernel
theorem w_tables : (allAtoms (Jvm.Cond.code x code maxLocals ret :: tables_1)).before args0 about1 = true := by
  rw [allAtoms_all]
  show words1.all (fun c => c.before args0 about1) = true
  refine all_split ?_ w_codes
  rw [← List.take_append_drop 24 words1, List.all_append, w_t1, w_t2]
  rfl
set_option maxRecDepth 65536 in
theorem w_case : (Jvm.Cond.and given_1 narrow_1).before args0 about1 = true := by decide +kernel
theorem w_applies : (headSpec (Jvm.Cond.code x code maxLocals ret :: tables_1) room_1).applies x e0.platform about1 = true :=
  (Spec.applies_iff w_frames).mpr ⟨w_running, w_runnable, w_alone, w_named, w_hears, w_ripe, w_room, w_tables⟩
theorem atStart : AtStart classFile x code maxLocals ret World_1 tables_1 room_1 Calls_1 rest_1 Pre_1 launch0 p0 e0 about1 theMethod args0 below0 :=
  ⟨lists_1, trivial, launch0.admits_env _ _ _, launch0.least_env, fairChoices_fair.cas, fairChoices_fair.clock, w_frames, w_args, w_heap, w_applies, trivial, trivial, w_case⟩
end start1
theorem witness_1 : WitnessClaimed_1 := ⟨start1.p0, start1.e0, start1.about1, start1.theMethod, start1.args0, start1.below0, start1.atStart⟩
end Jvm.Pilot.@@N@@
