import JvmDerived
import JvmDerived.Pilot.@@N@@Statement
import JvmDerived.Pilot.@@N@@Code
set_option linter.unusedVariables false
set_option linter.unusedSimpArgs false
@@BLOCK:NumsL.lean.txt@@
namespace Jvm.RoadKit
open Sem ClassFile Op Lib Jvm.Stand Jvm.Free Jvm.LawKit
section New
variable {p : Program} {l : Launch} {e : Env} {R : Room} {s : State} {m : MethodId} {args : Array Value} {below : List Frame} {meth : Method} {c : Code} {T : State} {locs : List Loc} {cells slots : Nat}
theorem retI (X : Stand p l e R s m args below meth c T locs cells slots) (hx : p.tables.exec = Jvm.exec) {pc : Nat} {Ls : Array Slot} {z : Int32} {rest : List Value} (hret : meth.sig.returnType = some .int) (hd : decode c.code pc = .ok (.ireturn, 1)) {fs : List Frame}
    (hl : ∀ (f : JFrame) (acts : List Action), f.method = m → f.locked = none → f.entered = [] → (doReturn e (T.setTop f) acts (some (.int z))).1 = T.setFrames fs) : Steps p.tables e below (T.setTop (mkF m pc Ls (.int z :: rest))) (T.setFrames fs) := by
  have hm' : T.vm.method? m = some meth := X.method'
  have hn : narrow .int (.int z) = .int z := rfl
  show Steps p.tables e below (T.setTop { method := m, pc := pc, locals := Ls, stack := _ :: rest, locked := none }) _
  jvm_step X.here [X.here.top, hx, hd, hm', hret, hn]
  first | (intro acts; rw [hl _ acts rfl rfl rfl]) | rw [hl _ _ rfl rfl rfl]
  exact Steps.refl _
end New
end Jvm.RoadKit
namespace Jvm.OwnFP
open Jvm.FP
/-- a double's value in units of 2^-1074 -/
def zv (a : UInt64) : Int := Core.zval Core.b64 (Core.val64 a)
/-- how many units make one -/
def U : Int := (Core.one64 : Int)
theorem U_pos : 0 < U := by have := Core.one64_pos; unfold U; omega
theorem U_pow (k : Nat) (h : k ≤ 1074) : U = 2 ^ (1074 - k) * 2 ^ k := by
  have e : (2 : Int) ^ (1074 - k) * 2 ^ k = 2 ^ 1074 := by rw [← Int.pow_add]; congr 1; omega
  rw [e]; unfold U Core.one64; rw [Int.natCast_pow]; rfl
theorem pow_pos (k : Nat) : (0 : Int) < 2 ^ k := Int.pow_pos (by decide)
theorem notNan {a : UInt64} (h : Core.DFin a) : Core.val64 a ≠ .nan := by obtain ⟨s, c, q, h⟩ := h; rw [h]; exact Core.Datum.noConfusion
theorem fin_parts {a : UInt64} (h : Core.DFin a) : ∃ (s : Bool) (c i : Nat), Core.val64 a = .fin s c ((i : Int) - 1074) ∧ Core.fits Core.b64 (.fin s c ((i : Int) - 1074)) ∧ zv a = Core.signed s (c * 2 ^ i) := by
  obtain ⟨s, c, q, h⟩ := h
  have hf := Core.val64_fits a
  rw [h] at hf
  have hq : -1074 ≤ q := by have := hf.2.1; rw [Core.qmin_b64] at this; exact this
  obtain ⟨i, hi⟩ : ∃ i : Nat, q = (i : Int) - 1074 := ⟨(q + 1074).toNat, by omega⟩
  subst hi
  refine ⟨s, c, i, h, hf, ?_⟩
  unfold zv Core.zval; rw [h]
  show Core.signed s (c * 2 ^ ((i : Int) - 1074 - Core.b64.qmin).toNat) = _
  rw [Core.qmin_b64, show ((i : Int) - 1074 - -1074).toNat = i by omega]
/-- rounding a quotient is monotone: at most a number of the format -/
theorem ratio_le {s : Bool} {A B : Nat} {e e0 : Int} {V : Core.Datum} (hB : 0 < B) (hV : Core.fits Core.b64 V) (hn : V ≠ .nan) (h0 : e0 ≤ Core.b64.qmin) (h0e : e0 ≤ e)
    (h : Core.signed s (Core.inUnits A e e0) ≤ Core.zval Core.b64 V * ((2 ^ (Core.b64.qmin - e0).toNat * B : Nat) : Int)) :
    Core.zval Core.b64 (Core.roundRatio Core.b64 s A B e) ≤ Core.zval Core.b64 V := by
  have hle := Core.zmag_roundRatio_le Core.good_b64 (s := s) (A := A) hB hV hn h0 h0e
  have hge := Core.zmag_roundRatio_ge Core.good_b64 (s := s) (A := A) hB hV h0 h0e
  have hP : 0 < 2 ^ (Core.b64.qmin - e0).toNat * B := Nat.mul_pos (Nat.two_pow_pos _) hB
  rw [Nat.mul_assoc] at hle hge
  unfold Core.zval at h ⊢
  rw [Core.sgn_roundRatio]
  rw [← Core.signed_mul] at h
  have hz : Core.zmag Core.b64 V * (2 ^ (Core.b64.qmin - e0).toNat * B) = 0 → Core.zmag Core.b64 V = 0 := fun q => by
    rcases Nat.mul_eq_zero.mp q with q | q
    · exact q
    · omega
  generalize Core.zmag Core.b64 V * (2 ^ (Core.b64.qmin - e0).toNat * B) = vP at *
  generalize Core.sgn V = t at *
  generalize Core.zmag Core.b64 V = z at *
  generalize Core.zmag Core.b64 (Core.roundRatio Core.b64 s A B e) = r at *
  generalize Core.inUnits A e e0 = x at *
  cases s <;> cases t <;> simp only [Core.signed, if_true, Bool.false_eq_true, if_false] at h ⊢
  · have := hle (by omega); omega
  · have := hle (by omega); have := hz (by omega); omega
  · omega
  · have := hge (by omega); omega
theorem ratio_ge {s : Bool} {A B : Nat} {e e0 : Int} {V : Core.Datum} (hB : 0 < B) (hV : Core.fits Core.b64 V) (hn : V ≠ .nan) (h0 : e0 ≤ Core.b64.qmin) (h0e : e0 ≤ e)
    (h : Core.zval Core.b64 V * ((2 ^ (Core.b64.qmin - e0).toNat * B : Nat) : Int) ≤ Core.signed s (Core.inUnits A e e0)) :
    Core.zval Core.b64 V ≤ Core.zval Core.b64 (Core.roundRatio Core.b64 s A B e) := by
  have h1 := ratio_le (s := !s) (V := Core.negate V) hB (Core.negate_fits hV) (Core.negate_ne_nan hn) h0 h0e (by
    rw [Core.zval_negate, Int.neg_mul, Core.signed_not]; exact Int.neg_le_neg h)
  rw [Core.zval_negate, ← Core.negate_roundRatio, Core.zval_negate] at h1
  omega
theorem signed_pos_parts {t : Bool} {n : Nat} (h : 0 < Core.signed t n) : t = false ∧ 0 < n := by
  cases t <;> simp [Core.signed] at h ⊢ <;> omega
/-- the quotient as a rounded ratio -/
theorem ddiv_parts {a b : UInt64} (ha : Core.DFin a) (hb : Core.DFin b) (pb : 0 < zv b) :
    ∃ (s : Bool) (c d i j : Nat), zv a = Core.signed s (c * 2 ^ i) ∧ zv b = ((d * 2 ^ j : Nat) : Int) ∧ 0 < d ∧ Core.val64 (FP.ddiv a b) = Core.roundRatio Core.b64 s c d ((i : Int) - (j : Int)) := by
  obtain ⟨s, c, i, h1, f1, z1⟩ := fin_parts ha
  obtain ⟨t, d, j, h2, f2, z2⟩ := fin_parts hb
  rw [z2] at pb
  obtain ⟨rfl, hd⟩ := signed_pos_parts pb
  have hd' : 0 < d := Nat.pos_of_mul_pos_right hd
  refine ⟨s, c, d, i, j, z1, z2, hd', ?_⟩
  show Core.val64 (Core.ddiv a b) = _
  rw [Core.val64_ddiv, h1, h2]
  show (if d = 0 then _ else Core.roundRatio Core.b64 (s != false) c d ((i : Int) - 1074 - ((j : Int) - 1074))) = _
  rw [if_neg (by omega), show ((i : Int) - 1074 - ((j : Int) - 1074)) = (i : Int) - j by omega]
  cases s <;> rfl
theorem div_key {s : Bool} {c d i j : Nat} : Core.signed s (Core.inUnits c ((i : Int) - j) (-1074 - (j : Int))) = Core.signed s (c * 2 ^ i) * U ∧ ((2 ^ (Core.b64.qmin - (-1074 - (j : Int))).toNat * d : Nat) : Int) = ((d * 2 ^ j : Nat) : Int) := by
  constructor
  · unfold Core.inUnits
    rw [show ((i : Int) - j - (-1074 - (j : Int))).toNat = i + 1074 by omega, Nat.pow_add, ← Nat.mul_assoc, Core.signed_mul]
    rfl
  · rw [Core.qmin_b64, show (-1074 - (-1074 - (j : Int))).toNat = j by omega, Nat.mul_comm]
theorem ddiv_le {a b V : UInt64} (ha : Core.DFin a) (hb : Core.DFin b) (pb : 0 < zv b) (hV : Core.val64 V ≠ .nan) (h : zv a * U ≤ zv V * zv b) : zv (FP.ddiv a b) ≤ zv V := by
  obtain ⟨s, c, d, i, j, z1, z2, hd, hr⟩ := ddiv_parts ha hb pb
  have e : zv (FP.ddiv a b) = Core.zval Core.b64 (Core.roundRatio Core.b64 s c d ((i : Int) - (j : Int))) := by unfold zv; rw [hr]
  rw [e]
  refine ratio_le (e0 := -1074 - (j : Int)) hd (Core.val64_fits V) hV (by rw [Core.qmin_b64]; omega) (by omega) ?_
  rw [(div_key (d := d)).1, (div_key (s := s) (c := c) (i := i)).2, ← z1, ← z2]; exact h
theorem ddiv_ge {a b V : UInt64} (ha : Core.DFin a) (hb : Core.DFin b) (pb : 0 < zv b) (hV : Core.val64 V ≠ .nan) (h : zv V * zv b ≤ zv a * U) : zv V ≤ zv (FP.ddiv a b) := by
  obtain ⟨s, c, d, i, j, z1, z2, hd, hr⟩ := ddiv_parts ha hb pb
  have e : zv (FP.ddiv a b) = Core.zval Core.b64 (Core.roundRatio Core.b64 s c d ((i : Int) - (j : Int))) := by unfold zv; rw [hr]
  rw [e]
  refine ratio_ge (e0 := -1074 - (j : Int)) hd (Core.val64_fits V) hV (by rw [Core.qmin_b64]; omega) (by omega) ?_
  rw [(div_key (d := d)).1, (div_key (s := s) (c := c) (i := i)).2, ← z1, ← z2]; exact h
theorem ddiv_nn {a b : UInt64} (ha : Core.DFin a) (hb : Core.DFin b) (pb : 0 < zv b) : Core.val64 (FP.ddiv a b) ≠ .nan := by
  obtain ⟨s, c, d, i, j, z1, z2, hd, hr⟩ := ddiv_parts ha hb pb
  rw [hr]; exact Core.roundRatio_ne_nan _ _ _ _ _
/-- two quotients of one value -/
theorem ddiv_congr {a b a' b' : UInt64} (ha : Core.DFin a) (hb : Core.DFin b) (pb : 0 < zv b) (ha' : Core.DFin a') (hb' : Core.DFin b') (pb' : 0 < zv b') (hs : Core.sgn (Core.val64 a) = Core.sgn (Core.val64 a')) (h : zv a * zv b' = zv a' * zv b) : FP.ddiv a b = FP.ddiv a' b' := by
  obtain ⟨s, c, i, h1, f1, z1⟩ := fin_parts ha
  obtain ⟨s', c', i', h1', f1', z1'⟩ := fin_parts ha'
  obtain ⟨t, d, j, h2, f2, z2⟩ := fin_parts hb
  obtain ⟨t', d', j', h2', f2', z2'⟩ := fin_parts hb'
  rw [z2] at pb; rw [z2'] at pb'
  obtain ⟨rfl, hd⟩ := signed_pos_parts pb
  obtain ⟨rfl, hd'⟩ := signed_pos_parts pb'
  have hd1 : 0 < d := Nat.pos_of_mul_pos_right hd
  have hd1' : 0 < d' := Nat.pos_of_mul_pos_right hd'
  have es : s = s' := by rw [h1, h1'] at hs; exact hs
  subst es
  show Core.of64 (Core.quotient Core.b64 (Core.val64 a) (Core.val64 b)) = Core.of64 (Core.quotient Core.b64 (Core.val64 a') (Core.val64 b'))
  congr 1
  rw [h1, h2, h1', h2']
  show (if d = 0 then _ else Core.roundRatio Core.b64 (s != false) c d ((i : Int) - 1074 - ((j : Int) - 1074))) = (if d' = 0 then _ else Core.roundRatio Core.b64 (s != false) c' d' ((i' : Int) - 1074 - ((j' : Int) - 1074)))
  rw [if_neg (by omega), if_neg (by omega)]
  apply Core.roundRatio_congr hd1 hd1'
  have hn : (c * 2 ^ i) * (d' * 2 ^ j') = (c' * 2 ^ i') * (d * 2 ^ j) := by
    rw [z1, z1', z2, z2'] at h
    have : ∀ n : Nat, Core.signed false n = (n : Int) := fun _ => rfl
    rw [this, this, ← Core.signed_mul, ← Core.signed_mul] at h
    have := congrArg Int.natAbs h
    rwa [Core.natAbs_signed, Core.natAbs_signed] at this
  generalize hE : (i : Int) - 1074 - ((j : Int) - 1074) = E
  generalize hE' : (i' : Int) - 1074 - ((j' : Int) - 1074) = E'
  have k1 : c * d' * 2 ^ (i + j') = c' * d * 2 ^ (i' + j) := by
    rw [Nat.pow_add, Nat.pow_add]
    calc c * d' * (2 ^ i * 2 ^ j') = (c * 2 ^ i) * (d' * 2 ^ j') := by ac_rfl
      _ = (c' * 2 ^ i') * (d * 2 ^ j) := hn
      _ = c' * d * (2 ^ i' * 2 ^ j) := by ac_rfl
  by_cases hle : i' + j ≤ i + j'
  · have e1 : (E - E').toNat = i + j' - (i' + j) := by omega
    have e2 : (E' - E).toNat = 0 := by omega
    rw [e1, e2]
    have : 2 ^ (i + j') = 2 ^ (i + j' - (i' + j)) * 2 ^ (i' + j) := by rw [← Nat.pow_add]; congr 1; omega
    rw [this, ← Nat.mul_assoc] at k1
    simpa using Nat.eq_of_mul_eq_mul_right (Nat.two_pow_pos _) k1
  · have e1 : (E - E').toNat = 0 := by omega
    have e2 : (E' - E).toNat = i' + j - (i + j') := by omega
    rw [e1, e2]
    have : 2 ^ (i' + j) = 2 ^ (i' + j - (i + j')) * 2 ^ (i + j') := by rw [← Nat.pow_add]; congr 1; omega
    rw [this, ← Nat.mul_assoc] at k1
    simpa using Nat.eq_of_mul_eq_mul_right (Nat.two_pow_pos _) k1
theorem dmul_parts {a b : UInt64} (ha : Core.DFin a) (hb : Core.DFin b) :
    ∃ (s : Bool) (n : Nat) (e : Int), Core.val64 (FP.dmul a b) = Core.round Core.b64 (.fin s n e) ∧ -2148 ≤ e ∧ Core.signed s (Core.inUnits n e (-2148)) = zv a * zv b := by
  obtain ⟨s, c, i, h1, f1, z1⟩ := fin_parts ha
  obtain ⟨t, d, j, h2, f2, z2⟩ := fin_parts hb
  obtain ⟨p1, p2, p3⟩ := Core.product_units f1 f2
  refine ⟨s != t, c * d, (i : Int) - 1074 + ((j : Int) - 1074), ?_, by omega, ?_⟩
  · show Core.val64 (Core.dmul a b) = _
    rw [Core.val64_dmul, h1, h2, p1]
  · rw [z1, z2]
    unfold Core.inUnits
    rw [show ((i : Int) - 1074 + ((j : Int) - 1074) - (-2148)).toNat = i + j by omega, Nat.pow_add,
      show c * d * (2 ^ i * 2 ^ j) = (c * 2 ^ i) * (d * 2 ^ j) by ac_rfl, Core.signed_xor]
theorem mul_key : ((2 ^ (Core.b64.qmin - (-2148 : Int)).toNat : Nat) : Int) = U := by
  rw [Core.qmin_b64]; rfl
theorem dmul_le {a b V : UInt64} (ha : Core.DFin a) (hb : Core.DFin b) (hV : Core.val64 V ≠ .nan) (h : zv a * zv b ≤ zv V * U) : zv (FP.dmul a b) ≤ zv V := by
  obtain ⟨s, n, e, h1, h2, h3⟩ := dmul_parts ha hb
  have e1 : zv (FP.dmul a b) = Core.zval Core.b64 (Core.round Core.b64 (.fin s n e)) := by unfold zv; rw [h1]
  rw [e1]
  refine Core.zval_round_le Core.good_b64 (e0 := -2148) (Core.val64_fits V) hV (by rw [Core.qmin_b64]; decide) h2 ?_
  rw [h3, mul_key]; exact h
theorem dmul_ge {a b V : UInt64} (ha : Core.DFin a) (hb : Core.DFin b) (hV : Core.val64 V ≠ .nan) (h : zv V * U ≤ zv a * zv b) : zv V ≤ zv (FP.dmul a b) := by
  obtain ⟨s, n, e, h1, h2, h3⟩ := dmul_parts ha hb
  have e1 : zv (FP.dmul a b) = Core.zval Core.b64 (Core.round Core.b64 (.fin s n e)) := by unfold zv; rw [h1]
  rw [e1]
  refine Core.zval_round_ge Core.good_b64 (e0 := -2148) (Core.val64_fits V) hV (by rw [Core.qmin_b64]; decide) h2 ?_
  rw [h3, mul_key]; exact h
theorem dmul_nn {a b : UInt64} (ha : Core.DFin a) (hb : Core.DFin b) : Core.val64 (FP.dmul a b) ≠ .nan := by
  obtain ⟨s, n, e, h1, h2, h3⟩ := dmul_parts ha hb
  rw [h1]; exact Core.roundRatio_ne_nan _ _ _ _ _
theorem dadd_le {a b V : UInt64} (ha : Core.DFin a) (hb : Core.DFin b) (hV : Core.val64 V ≠ .nan) (h : zv a + zv b ≤ zv V) : zv (FP.dadd a b) ≤ zv V := by
  have := Core.sum_le Core.good_b64 ha hb (Core.val64_fits a) (Core.val64_fits b) (Core.val64_fits V) hV h
  unfold zv; show Core.zval Core.b64 (Core.val64 (Core.dadd a b)) ≤ _
  rw [Core.val64_dadd]; exact this
theorem dadd_ge {a b V : UInt64} (ha : Core.DFin a) (hb : Core.DFin b) (hV : Core.val64 V ≠ .nan) (h : zv V ≤ zv a + zv b) : zv V ≤ zv (FP.dadd a b) := by
  have := Core.sum_ge Core.good_b64 ha hb (Core.val64_fits a) (Core.val64_fits b) (Core.val64_fits V) hV h
  unfold zv; show _ ≤ Core.zval Core.b64 (Core.val64 (Core.dadd a b))
  rw [Core.val64_dadd]; exact this
theorem dadd_nn {a b : UInt64} (ha : Core.DFin a) (hb : Core.DFin b) : Core.val64 (FP.dadd a b) ≠ .nan := by
  have := Core.dadd_out (notNaN_of ha) hb
  exact (Core.notNaN_iff _).mp this
where notNaN_of {a : UInt64} (h : Core.DFin a) : Core.dIsNaN a = false := (Core.notNaN_iff a).mpr (notNan h)
theorem zv_dneg (a : UInt64) : zv (FP.dneg a) = - zv a := by
  unfold zv; rw [FP.val64_dneg, Core.zval_negate]
theorem fin_dneg {a : UInt64} (h : Core.DFin a) : Core.DFin (FP.dneg a) := by
  obtain ⟨s, c, q, h⟩ := h
  refine ⟨!s, c, q, ?_⟩
  rw [FP.val64_dneg, h]; rfl
theorem dsub_dadd {a b : UInt64} (hb : Core.DFin b) : FP.dsub a b = FP.dadd a (FP.dneg b) := by
  have h1 : FP.dneg b = Core.dneg b := FP.dneg_core ((Core.notNaN_iff b).mpr (notNan hb))
  rw [h1]; exact Core.dsub_eq a b
theorem dsub_le {a b V : UInt64} (ha : Core.DFin a) (hb : Core.DFin b) (hV : Core.val64 V ≠ .nan) (h : zv a - zv b ≤ zv V) : zv (FP.dsub a b) ≤ zv V := by
  rw [dsub_dadd hb]; exact dadd_le ha (fin_dneg hb) hV (by rw [zv_dneg]; omega)
theorem dsub_ge {a b V : UInt64} (ha : Core.DFin a) (hb : Core.DFin b) (hV : Core.val64 V ≠ .nan) (h : zv V ≤ zv a - zv b) : zv V ≤ zv (FP.dsub a b) := by
  rw [dsub_dadd hb]; exact dadd_ge ha (fin_dneg hb) hV (by rw [zv_dneg]; omega)
theorem dsub_nn {a b : UInt64} (ha : Core.DFin a) (hb : Core.DFin b) : Core.val64 (FP.dsub a b) ≠ .nan := by
  rw [dsub_dadd hb]; exact dadd_nn ha (fin_dneg hb)
/-- finite, if it lies between two finite ones -/
theorem fin_between {a V W : UInt64} (n : Core.val64 a ≠ .nan) (hV : Core.DFin V) (hW : Core.DFin W) (h1 : zv V ≤ zv a) (h2 : zv a ≤ zv W) : Core.DFin a := by
  have hv := hV.zval_lt; have hw := hW.zval_lt
  unfold zv Core.zval at h1 h2
  cases e : Core.val64 a with
  | nan => exact absurd e n
  | fin s c q => exact ⟨s, c, q, e⟩
  | inf s =>
    exfalso
    rw [e] at h1 h2
    have t : Core.zmag Core.b64 (.inf s) = Core.b64.tails * 2 ^ (Core.b64.exps - 2) := rfl
    rw [t] at h1 h2
    generalize Core.b64.tails * 2 ^ (Core.b64.exps - 2) = top at *
    generalize Core.zmag Core.b64 (Core.val64 V) = v at *
    generalize Core.zmag Core.b64 (Core.val64 W) = w at *
    generalize Core.sgn (Core.val64 V) = sv at *
    generalize Core.sgn (Core.val64 W) = sw at *
    cases s <;> cases sv <;> cases sw <;> simp [Core.signed, Core.sgn] at h1 h2 <;> omega
theorem signed_of (n : Int) : Core.signed (decide (n < 0)) n.natAbs = n := by
  unfold Core.signed
  by_cases q : n < 0
  · simp [q]; omega
  · simp [q]; omega
/-- n * 2^E units are a double -/
theorem repE (n : Int) (E : Nat) (hn : n.natAbs < 2 ^ 53) (hE : E ≤ 2045) : ∃ V, Core.DFin V ∧ zv V = n * 2 ^ E := by
  have hq : Core.b64.qmax = 971 := by decide
  obtain ⟨c', q', h1, h2⟩ := Core.round_exact Core.good_b64 (decide (n < 0)) (c := n.natAbs) (q := (E : Int) - 1074) hn (by rw [Core.qmin_b64]; omega) (by rw [hq]; omega)
  have h3 : Core.val64 (Core.of64 (Core.round Core.b64 (.fin (decide (n < 0)) n.natAbs ((E : Int) - 1074)))) = .fin (decide (n < 0)) c' q' := by
    rw [Core.val64_of64 (Core.round_fits Core.good_b64 _), h1]
  refine ⟨_, ⟨_, _, _, h3⟩, ?_⟩
  unfold zv Core.zval
  rw [h3]
  show Core.signed (decide (n < 0)) (Core.inUnits c' q' Core.b64.qmin) = _
  rw [h2]
  unfold Core.inUnits
  rw [Core.qmin_b64, show ((E : Int) - 1074 - -1074).toNat = E by omega, Core.signed_mul, signed_of, Int.natCast_pow]
  rfl
/-- n / 2^k is a double -/
theorem rep (n : Int) (k : Nat) (hn : n.natAbs ≤ 2 ^ 53) (hk : k ≤ 1000) : ∃ V, Core.DFin V ∧ zv V * 2 ^ k = n * U := by
  by_cases h : n.natAbs < 2 ^ 53
  · obtain ⟨V, fV, zV⟩ := repE n (1074 - k) h (by omega)
    exact ⟨V, fV, by rw [zV, U_pow k (by omega), Int.mul_assoc]⟩
  · by_cases hs : n < 0
    · obtain ⟨V, fV, zV⟩ := repE (-1) (53 + (1074 - k)) (by decide) (by omega)
      exact ⟨V, fV, by rw [zV, U_pow k (by omega), show n = -1 * 2 ^ 53 by omega, Int.pow_add]; ac_rfl⟩
    · obtain ⟨V, fV, zV⟩ := repE 1 (53 + (1074 - k)) (by decide) (by omega)
      exact ⟨V, fV, by rw [zV, U_pow k (by omega), show n = 1 * 2 ^ 53 by omega, Int.pow_add]; ac_rfl⟩
/-- and so are, with the infinities, the numbers up to 2^53 * 2^E -/
theorem repI (n : Int) (E : Nat) (hn : n.natAbs ≤ 2 ^ 53) (hE : E ≤ 2045) : ∃ V, Core.val64 V ≠ .nan ∧ zv V = n * 2 ^ E := by
  by_cases h : n.natAbs < 2 ^ 53
  · obtain ⟨V, fV, zV⟩ := repE n E h hE; exact ⟨V, notNan fV, zV⟩
  · by_cases hE2 : E + 53 ≤ 2045
    · by_cases hs : n < 0
      · obtain ⟨V, fV, zV⟩ := repE (-1) (53 + E) (by decide) (by omega)
        exact ⟨V, notNan fV, by rw [zV, show n = -1 * 2 ^ 53 by omega, Int.pow_add, Int.mul_assoc]⟩
      · obtain ⟨V, fV, zV⟩ := repE 1 (53 + E) (by decide) (by omega)
        exact ⟨V, notNan fV, by rw [zV, show n = 1 * 2 ^ 53 by omega, Int.pow_add, Int.mul_assoc]⟩
    · by_cases hE3 : E = 2045
      · subst hE3
        have v1 : Core.val64 9218868437227405312 = .inf false := by decide +kernel
        have v2 : Core.val64 18442240474082181120 = .inf true := by decide +kernel
        have z1 : Core.zmag Core.b64 (.inf false) = 2 ^ 53 * 2 ^ 2045 := by decide +kernel
        by_cases hs : n < 0
        · refine ⟨18442240474082181120, by rw [v2]; exact Core.Datum.noConfusion, ?_⟩
          unfold zv Core.zval; rw [v2]
          show Core.signed true (Core.zmag Core.b64 (.inf false)) = _
          rw [z1, Core.signed_mul, show n = -2 ^ 53 by omega, Int.natCast_pow]; rfl
        · refine ⟨9218868437227405312, by rw [v1]; exact Core.Datum.noConfusion, ?_⟩
          unfold zv Core.zval; rw [v1]
          show Core.signed false (Core.zmag Core.b64 (.inf false)) = _
          rw [z1, Core.signed_mul, show n = 2 ^ 53 by omega, Int.natCast_pow]; rfl
      · by_cases hs : n < 0
        · obtain ⟨V, fV, zV⟩ := repE (-2 ^ 52) (1 + E) (by decide) (by omega)
          exact ⟨V, notNan fV, by rw [zV, show n = -2 ^ 52 * 2 ^ 1 by omega, Int.pow_add, Int.mul_assoc]⟩
        · obtain ⟨V, fV, zV⟩ := repE (2 ^ 52) (1 + E) (by decide) (by omega)
          exact ⟨V, notNan fV, by rw [zV, show n = 2 ^ 52 * 2 ^ 1 by omega, Int.pow_add, Int.mul_assoc]⟩
theorem dmul_eq {a b V : UInt64} (ha : Core.DFin a) (hb : Core.DFin b) (hV : Core.val64 V ≠ .nan) (h : zv a * zv b = zv V * U) : zv (FP.dmul a b) = zv V := by
  have := dmul_le ha hb hV (Int.le_of_eq h); have := dmul_ge ha hb hV (Int.le_of_eq h.symm); omega
/-! ## values n / 2^k -/
/-- finite, and worth n / 2^k -/
def DS (n : Int) (k : Nat) (a : UInt64) : Prop := Core.DFin a ∧ zv a * 2 ^ k = n * U
def Le (a : UInt64) (n : Int) (k : Nat) : Prop := zv a * 2 ^ k ≤ n * U
def Ge (a : UInt64) (n : Int) (k : Nat) : Prop := n * U ≤ zv a * 2 ^ k
theorem DS.le {n : Int} {k : Nat} {a : UInt64} (h : DS n k a) : Le a n k := Int.le_of_eq h.2
theorem DS.ge {n : Int} {k : Nat} {a : UInt64} (h : DS n k a) : Ge a n k := Int.le_of_eq h.2.symm
theorem DS.int {i : Int} {a : UInt64} (h : Core.DInt i a) : DS i 0 a := by
  refine ⟨?_, ?_⟩
  · unfold Core.DInt at h
    cases e : Core.val64 a with
    | nan => rw [e] at h; exact h.elim
    | inf => rw [e] at h; exact h.elim
    | fin s c q => exact ⟨s, c, q, e⟩
  · show zv a * 2 ^ 0 = i * U
    rw [Int.pow_zero, Int.mul_one]; exact Core.DInt_zval h
theorem DS.i2d (x : Int32) : DS x.toInt 0 (FP.i2d x) := DS.int (Core.i2d_int x)
theorem DS.l2d {x : Int64} (h : x.toInt.natAbs ≤ 2 ^ 53) : DS x.toInt 0 (FP.l2d x) := DS.int (Core.l2d_int h)
theorem mul_cancel {a b c : Int} (hc : 0 < c) (h : a * c = b * c) : a = b := Int.eq_of_mul_eq_mul_right (by omega) h
theorem le_cancel {a b c : Int} (hc : 0 < c) (h : a * c ≤ b * c) : a ≤ b := Int.le_of_mul_le_mul_right h hc
theorem DS.up {n : Int} {k : Nat} {a : UInt64} (h : DS n k a) (j : Nat) : DS (n * 2 ^ j) (k + j) a := ⟨h.1, by
  rw [Int.pow_add, ← Int.mul_assoc, h.2]; grind⟩
theorem Le.up {n : Int} {k : Nat} {a : UInt64} (h : Le a n k) (j : Nat) : Le a (n * 2 ^ j) (k + j) := by
  unfold Le at *
  have := Int.mul_le_mul_of_nonneg_right h (Int.le_of_lt (pow_pos j))
  rw [Int.pow_add]; grind
theorem Ge.up {n : Int} {k : Nat} {a : UInt64} (h : Ge a n k) (j : Nat) : Ge a (n * 2 ^ j) (k + j) := by
  unfold Ge at *
  have := Int.mul_le_mul_of_nonneg_right h (Int.le_of_lt (pow_pos j))
  rw [Int.pow_add]; grind
/-- what lies between two bounds n / 2^k is finite -/
theorem fin_of {a : UInt64} {n m : Int} {k j : Nat} (nn : Core.val64 a ≠ .nan) (h1 : Ge a n k) (h2 : Le a m j) (bn : n.natAbs ≤ 2 ^ 53) (bm : m.natAbs ≤ 2 ^ 53) (hk : k ≤ 1000) (hj : j ≤ 1000) : Core.DFin a := by
  obtain ⟨V, fV, zV⟩ := rep n k bn hk
  obtain ⟨W, fW, zW⟩ := rep m j bm hj
  refine fin_between nn fV fW ?_ ?_
  · exact le_cancel (pow_pos k) (by unfold Ge at h1; omega)
  · exact le_cancel (pow_pos j) (by unfold Le at h2; omega)
theorem DS.of {a : UInt64} {n : Int} {k : Nat} (nn : Core.val64 a ≠ .nan) (h1 : Ge a n k) (h2 : Le a n k) (bn : n.natAbs ≤ 2 ^ 53) (hk : k ≤ 1000) : DS n k a :=
  ⟨fin_of nn h1 h2 bn bn hk hk, by unfold Ge at h1; unfold Le at h2; omega⟩
/-! the operations against bounds -/
theorem add_Le {a b : UInt64} {n m q : Int} {k : Nat} (fa : Core.DFin a) (fb : Core.DFin b) (ha : Le a n k) (hb : Le b m k) (h : n + m ≤ q) (bq : q.natAbs ≤ 2 ^ 53) (hk : k ≤ 1000) : Le (FP.dadd a b) q k := by
  obtain ⟨V, fV, zV⟩ := rep q k bq hk
  have h1 : zv (FP.dadd a b) ≤ zv V := dadd_le fa fb (notNan fV) (le_cancel (pow_pos k) (by
    unfold Le at ha hb
    rw [Int.add_mul, zV]
    have := Int.mul_le_mul_of_nonneg_right h (Int.le_of_lt U_pos)
    rw [Int.add_mul] at this; omega))
  unfold Le; rw [← zV]; exact Int.mul_le_mul_of_nonneg_right h1 (Int.le_of_lt (pow_pos k))
theorem add_Ge {a b : UInt64} {n m q : Int} {k : Nat} (fa : Core.DFin a) (fb : Core.DFin b) (ha : Ge a n k) (hb : Ge b m k) (h : q ≤ n + m) (bq : q.natAbs ≤ 2 ^ 53) (hk : k ≤ 1000) : Ge (FP.dadd a b) q k := by
  obtain ⟨V, fV, zV⟩ := rep q k bq hk
  have h1 : zv V ≤ zv (FP.dadd a b) := dadd_ge fa fb (notNan fV) (le_cancel (pow_pos k) (by
    unfold Ge at ha hb
    rw [Int.add_mul, zV]
    have := Int.mul_le_mul_of_nonneg_right h (Int.le_of_lt U_pos)
    rw [Int.add_mul] at this; omega))
  unfold Ge; rw [← zV]; exact Int.mul_le_mul_of_nonneg_right h1 (Int.le_of_lt (pow_pos k))
theorem DS.add {a b : UInt64} {n m : Int} {k : Nat} (ha : DS n k a) (hb : DS m k b) (bq : (n + m).natAbs ≤ 2 ^ 53) (hk : k ≤ 1000) : DS (n + m) k (FP.dadd a b) :=
  DS.of (dadd_nn ha.1 hb.1) (add_Ge ha.1 hb.1 ha.ge hb.ge (Int.le_refl _) bq hk) (add_Le ha.1 hb.1 ha.le hb.le (Int.le_refl _) bq hk) bq hk
theorem DS.neg {a : UInt64} {n : Int} {k : Nat} (ha : DS n k a) : DS (-n) k (FP.dneg a) := ⟨fin_dneg ha.1, by rw [zv_dneg, Int.neg_mul, ha.2, Int.neg_mul]⟩
theorem DS.sub {a b : UInt64} {n m : Int} {k : Nat} (ha : DS n k a) (hb : DS m k b) (bq : (n - m).natAbs ≤ 2 ^ 53) (hk : k ≤ 1000) : DS (n - m) k (FP.dsub a b) := by
  rw [dsub_dadd hb.1, show n - m = n + -m by omega]; exact ha.add hb.neg (by rw [← Int.sub_eq_add_neg]; exact bq) hk
theorem DS.mul {a b : UInt64} {n m : Int} {k j : Nat} (ha : DS n k a) (hb : DS m j b) (bq : (n * m).natAbs ≤ 2 ^ 53) (hk : k + j ≤ 1000) : DS (n * m) (k + j) (FP.dmul a b) := by
  obtain ⟨V, fV, zV⟩ := rep (n * m) (k + j) bq hk
  have e : zv a * zv b = zv V * U := by
    have h1 := ha.2; have h2 := hb.2
    refine mul_cancel (pow_pos (k + j)) ?_
    calc zv a * zv b * 2 ^ (k + j) = (zv a * 2 ^ k) * (zv b * 2 ^ j) := by rw [Int.pow_add]; grind
      _ = (n * U) * (m * U) := by rw [h1, h2]
      _ = (n * m * U) * U := by grind
      _ = zv V * U * 2 ^ (k + j) := by rw [← zV]; grind
  have g1 := dmul_le ha.1 hb.1 (notNan fV) (Int.le_of_eq e)
  have g2 := dmul_ge ha.1 hb.1 (notNan fV) (Int.le_of_eq e.symm)
  have g : zv (FP.dmul a b) = zv V := by omega
  exact ⟨fin_between (dmul_nn ha.1 hb.1) fV fV (by omega) (by omega), by rw [g, zV]⟩
theorem DS.pos {b : UInt64} {m : Int} {j : Nat} (hb : DS m j b) (hm : 0 < m) : 0 < zv b := by
  have h1 : 0 < zv b * 2 ^ j := by rw [hb.2]; exact Int.mul_pos hm U_pos
  exact Int.pos_of_mul_pos_left h1 (pow_pos j)
/-- a quotient against a bound q / 2^l -/
theorem div_Le {a b : UInt64} {n m q : Int} {k j l : Nat} (ha : DS n k a) (hb : DS m j b) (hm : 0 < m) (h : n * 2 ^ j * 2 ^ l ≤ q * m * 2 ^ k) (bq : q.natAbs ≤ 2 ^ 53) (hl : l ≤ 1000) : Le (FP.ddiv a b) q l := by
  obtain ⟨V, fV, zV⟩ := rep q l bq hl
  have h1 : zv (FP.ddiv a b) ≤ zv V := ddiv_le ha.1 hb.1 (hb.pos hm) (notNan fV) (by
    refine le_cancel (pow_pos (k + j + l)) ?_
    have e1 : zv a * U * 2 ^ (k + j + l) = (n * 2 ^ j * 2 ^ l) * (U * U) := by
      calc zv a * U * 2 ^ (k + j + l) = (zv a * 2 ^ k) * U * 2 ^ j * 2 ^ l := by rw [Int.pow_add, Int.pow_add]; grind
        _ = _ := by rw [ha.2]; grind
    have e2 : zv V * zv b * 2 ^ (k + j + l) = (q * m * 2 ^ k) * (U * U) := by
      calc zv V * zv b * 2 ^ (k + j + l) = (zv V * 2 ^ l) * (zv b * 2 ^ j) * 2 ^ k := by rw [Int.pow_add, Int.pow_add]; grind
        _ = _ := by rw [zV, hb.2]; grind
    rw [e1, e2]
    exact Int.mul_le_mul_of_nonneg_right h (Int.le_of_lt (Int.mul_pos U_pos U_pos)))
  unfold Le; rw [← zV]; exact Int.mul_le_mul_of_nonneg_right h1 (Int.le_of_lt (pow_pos l))
theorem div_Ge {a b : UInt64} {n m q : Int} {k j l : Nat} (ha : DS n k a) (hb : DS m j b) (hm : 0 < m) (h : q * m * 2 ^ k ≤ n * 2 ^ j * 2 ^ l) (bq : q.natAbs ≤ 2 ^ 53) (hl : l ≤ 1000) : Ge (FP.ddiv a b) q l := by
  obtain ⟨V, fV, zV⟩ := rep q l bq hl
  have h1 : zv V ≤ zv (FP.ddiv a b) := ddiv_ge ha.1 hb.1 (hb.pos hm) (notNan fV) (by
    refine le_cancel (pow_pos (k + j + l)) ?_
    have e1 : zv a * U * 2 ^ (k + j + l) = (n * 2 ^ j * 2 ^ l) * (U * U) := by
      calc zv a * U * 2 ^ (k + j + l) = (zv a * 2 ^ k) * U * 2 ^ j * 2 ^ l := by rw [Int.pow_add, Int.pow_add]; grind
        _ = _ := by rw [ha.2]; grind
    have e2 : zv V * zv b * 2 ^ (k + j + l) = (q * m * 2 ^ k) * (U * U) := by
      calc zv V * zv b * 2 ^ (k + j + l) = (zv V * 2 ^ l) * (zv b * 2 ^ j) * 2 ^ k := by rw [Int.pow_add, Int.pow_add]; grind
        _ = _ := by rw [zV, hb.2]; grind
    rw [e1, e2]
    exact Int.mul_le_mul_of_nonneg_right h (Int.le_of_lt (Int.mul_pos U_pos U_pos)))
  unfold Ge; rw [← zV]; exact Int.mul_le_mul_of_nonneg_right h1 (Int.le_of_lt (pow_pos l))
theorem DS.div {a b : UInt64} {n m q : Int} {k j l : Nat} (ha : DS n k a) (hb : DS m j b) (hm : 0 < m) (h : n * 2 ^ j * 2 ^ l = q * m * 2 ^ k) (bq : q.natAbs ≤ 2 ^ 53) (hl : l ≤ 1000) : DS q l (FP.ddiv a b) :=
  DS.of (ddiv_nn ha.1 hb.1 (hb.pos hm)) (div_Ge ha hb hm (Int.le_of_eq h.symm) bq hl) (div_Le ha hb hm (Int.le_of_eq h) bq hl) bq hl
/-! comparisons -/
theorem cmp_zv {a b : UInt64} (ha : Core.val64 a ≠ .nan) (hb : Core.val64 b ≠ .nan) : FP.dcmp a b = some (compare (zv a) (zv b)) := Core.dcmp_zval ha hb
theorem cmpV_of {a b : UInt64} (ha : Core.val64 a ≠ .nan) (hb : Core.val64 b ≠ .nan) (o : ClassFile.CmpOp) : Op.cmpValue (FP.dcmp a b) o = if zv a < zv b then -1 else if zv a = zv b then 0 else 1 := by
  rw [cmp_zv ha hb, Core.compare_ite]
  split
  · rfl
  · split <;> rfl
theorem cmp_gt {a b : UInt64} (ha : Core.val64 a ≠ .nan) (hb : Core.val64 b ≠ .nan) (h : zv b < zv a) (o : ClassFile.CmpOp) : Op.cmpValue (FP.dcmp a b) o = 1 := by
  rw [cmpV_of ha hb, if_neg (by omega), if_neg (by omega)]
theorem cmp_lt {a b : UInt64} (ha : Core.val64 a ≠ .nan) (hb : Core.val64 b ≠ .nan) (h : zv a < zv b) (o : ClassFile.CmpOp) : Op.cmpValue (FP.dcmp a b) o = -1 := by
  rw [cmpV_of ha hb, if_pos h]
theorem cmp_eq {a b : UInt64} (ha : Core.val64 a ≠ .nan) (hb : Core.val64 b ≠ .nan) (h : zv a = zv b) (o : ClassFile.CmpOp) : Op.cmpValue (FP.dcmp a b) o = 0 := by
  rw [cmpV_of ha hb, if_neg (by omega), if_pos h]
theorem zv_zero : zv FP.dconst0 = 0 := Core.zval64_zero
theorem cmp_neg {a b : UInt64} {k : Int32} {o : ClassFile.CmpOp} (h : Op.cmpValue (FP.dcmp a b) o = k) (ha : Core.val64 a ≠ .nan) (hb : Core.val64 b ≠ .nan) : k < 0 ↔ zv a < zv b := by
  rw [← h, cmpV_of ha hb]; split
  · exact ⟨fun _ => by assumption, fun _ => by decide⟩
  · split
    · exact ⟨fun h => absurd h (by decide), fun h => absurd h (by assumption)⟩
    · exact ⟨fun h => absurd h (by decide), fun h => absurd h (by assumption)⟩
theorem cmp_pos {a b : UInt64} {k : Int32} {o : ClassFile.CmpOp} (h : Op.cmpValue (FP.dcmp a b) o = k) (ha : Core.val64 a ≠ .nan) (hb : Core.val64 b ≠ .nan) : 0 < k ↔ zv b < zv a := by
  rw [← h, cmpV_of ha hb]; split
  · exact ⟨fun h => absurd h (by decide), fun h => by omega⟩
  · split
    · exact ⟨fun h => absurd h (by decide), fun h => by omega⟩
    · exact ⟨fun h => by omega, fun _ => by decide⟩
theorem cmp_nul {a b : UInt64} {k : Int32} {o : ClassFile.CmpOp} (h : Op.cmpValue (FP.dcmp a b) o = k) (ha : Core.val64 a ≠ .nan) (hb : Core.val64 b ≠ .nan) : k = 0 ↔ zv a = zv b := by
  rw [← h, cmpV_of ha hb]; split
  · exact ⟨fun h => absurd h (by decide), fun h => by omega⟩
  · split
    · exact ⟨fun _ => by assumption, fun _ => rfl⟩
    · exact ⟨fun h => absurd h (by decide), fun h => by omega⟩
theorem lt_of {a b : UInt64} {n m : Int} {k : Nat} (h1 : Le a n k) (h2 : Ge b m k) (h : n < m) : zv a < zv b := by
  unfold Le at h1; unfold Ge at h2
  have : n * U < m * U := Int.mul_lt_mul_of_pos_right h U_pos
  exact Int.lt_of_mul_lt_mul_right (a := 2 ^ k) (by omega) (Int.le_of_lt (pow_pos k))
theorem le_of {a b : UInt64} {n m : Int} {k : Nat} (h1 : Le a n k) (h2 : Ge b m k) (h : n ≤ m) : zv a ≤ zv b := by
  unfold Le at h1; unfold Ge at h2
  have : n * U ≤ m * U := Int.mul_le_mul_of_nonneg_right h (Int.le_of_lt U_pos)
  exact Int.le_of_mul_le_mul_right (a := 2 ^ k) (by omega) (pow_pos k)
theorem DS.cmp {a b : UInt64} {n m : Int} {k : Nat} (ha : DS n k a) (hb : DS m k b) (o : ClassFile.CmpOp) : Op.cmpValue (FP.dcmp a b) o = if n < m then -1 else if n = m then 0 else 1 := by
  rw [cmpV_of (notNan ha.1) (notNan hb.1)]
  by_cases h1 : n < m
  · rw [if_pos h1, if_pos (lt_of ha.le hb.ge h1)]
  · by_cases h2 : n = m
    · have e : zv a = zv b := by
        subst h2; have := le_of ha.le hb.ge (Int.le_refl _); have := le_of hb.le ha.ge (Int.le_refl _); omega
      rw [if_neg h1, if_pos h2, if_neg (by omega), if_pos e]
    · have := lt_of hb.le ha.ge (show m < n by omega)
      rw [if_neg h1, if_neg h2, if_neg (by omega), if_neg (by omega)]
theorem DS.zero : DS 0 0 FP.dconst0 := ⟨⟨false, 0, _, Core.val64_dconst0⟩, by
  have : zv FP.dconst0 = 0 := Core.zval64_zero
  rw [this]; simp⟩
theorem DS.one : DS 1 0 FP.dconst1 := DS.int Core.dint_one
theorem zv_one : zv FP.dconst1 = U := by have := DS.one.2; rwa [Int.pow_zero, Int.mul_one, Int.one_mul] at this
theorem DS.noNaN {n : Int} {k : Nat} {a : UInt64} (h : DS n k a) : Jvm.Free.Fl.NoNaN64 a := (Jvm.Free.Fl.fin64_core.mpr h.1).noNaN
theorem noNaN_of {a : UInt64} (h : Core.val64 a ≠ .nan) : Jvm.Free.Fl.NoNaN64 a := Jvm.Free.Fl.noNaN64_no.mpr ((Core.notNaN_iff a).mpr h)
end Jvm.OwnFP
namespace Jvm.OwnFP
open Jvm.FP
theorem sgn_pos {a : UInt64} (h : 0 < zv a) : Core.sgn (Core.val64 a) = false := by
  unfold zv Core.zval at h
  cases e : Core.sgn (Core.val64 a) with
  | false => rfl
  | true => rw [e] at h; simp only [Core.signed, if_true] at h; omega
/-- one quotient by two roads -/
theorem DS.div_same {a a' b b' : UInt64} {n d : Int} {k j : Nat} (ha : DS n k a) (ha' : DS n k a') (hb : DS d j b) (hb' : DS d j b') (hn : 0 < n) (hd : 0 < d) : FP.ddiv a b = FP.ddiv a' b' := by
  have e1 : zv a = zv a' := mul_cancel (pow_pos k) (by rw [ha.2, ha'.2])
  have e2 : zv b = zv b' := mul_cancel (pow_pos j) (by rw [hb.2, hb'.2])
  refine ddiv_congr ha.1 hb.1 (hb.pos hd) ha'.1 hb'.1 (hb'.pos hd) ?_ (by rw [e1, e2])
  rw [sgn_pos (ha.pos hn), sgn_pos (ha'.pos hn)]
end Jvm.OwnFP
namespace Jvm.OwnFP
open Jvm.FP
theorem Le.neg {a : UInt64} {n : Int} {k : Nat} (h : Le a n k) : Ge (FP.dneg a) (-n) k := by unfold Le at h; unfold Ge; rw [zv_dneg, Int.neg_mul, Int.neg_mul]; omega
theorem Ge.neg {a : UInt64} {n : Int} {k : Nat} (h : Ge a n k) : Le (FP.dneg a) (-n) k := by unfold Ge at h; unfold Le; rw [zv_dneg, Int.neg_mul, Int.neg_mul]; omega
theorem sub_Le {a b : UInt64} {n m q : Int} {k : Nat} (fa : Core.DFin a) (fb : Core.DFin b) (ha : Le a n k) (hb : Ge b m k) (h : n - m ≤ q) (bq : q.natAbs ≤ 2 ^ 53) (hk : k ≤ 1000) : Le (FP.dsub a b) q k := by
  rw [dsub_dadd fb]; exact add_Le fa (fin_dneg fb) ha hb.neg (by omega) bq hk
theorem sub_Ge {a b : UInt64} {n m q : Int} {k : Nat} (fa : Core.DFin a) (fb : Core.DFin b) (ha : Ge a n k) (hb : Le b m k) (h : q ≤ n - m) (bq : q.natAbs ≤ 2 ^ 53) (hk : k ≤ 1000) : Ge (FP.dsub a b) q k := by
  rw [dsub_dadd fb]; exact add_Ge fa (fin_dneg fb) ha hb.neg (by omega) bq hk
/-- one quotient at two scales -/
theorem DS.div_scale {a a' b b' : UInt64} {n d : Int} {k k' : Nat} (ha : DS n k a) (ha' : DS n k' a') (hb : DS d k b) (hb' : DS d k' b') (hn : 0 < n) (hd : 0 < d) : FP.ddiv a b = FP.ddiv a' b' := by
  refine ddiv_congr ha.1 hb.1 (hb.pos hd) ha'.1 hb'.1 (hb'.pos hd) ?_ ?_
  · rw [sgn_pos (ha.pos hn), sgn_pos (ha'.pos hn)]
  · refine mul_cancel (pow_pos (k + k')) ?_
    calc zv a * zv b' * 2 ^ (k + k') = (zv a * 2 ^ k) * (zv b' * 2 ^ k') := by rw [Int.pow_add]; ac_rfl
      _ = (zv a' * 2 ^ k') * (zv b * 2 ^ k) := by rw [ha.2, hb'.2, ha'.2, hb.2]
      _ = zv a' * zv b * 2 ^ (k + k') := by rw [Int.pow_add]; ac_rfl
end Jvm.OwnFP
namespace Jvm.OwnArr
open Jvm Jvm.ClassFile Sem Op Lib Jvm.Free Jvm.Stand Jvm.LawKit Jvm.RoadKit
section
variable {p : Program} {l : Launch} {e : Env} {R : Room} {s : State} {m : MethodId} {args : Array Value} {below : List Frame} {meth : Method} {c : Code} {T : State} {locs : List Loc} {cells slots : Nat} {Z : State} {h h' : Heap} {a b : Addr} {ty : FieldType} {n : Nat} {f : Nat → Value}
/-- the array at a has n places of the kind ty; place j holds f j -/
def Ag (Z : State) (h : Heap) (a : Addr) (ty : FieldType) (n : Nat) (f : Nat → Value) : Prop := ∃ cl : Cell, Arr Z h a cl ty ∧ cl.slots.size = n ∧ ∀ j, j < n → cl.slots[j]? = some (f j)
theorem Ag.lt (F : Ag Z h a ty n f) : a < h.size := by obtain ⟨c, A, -⟩ := F; exact A.lt
theorem Ag.ext (F : Ag Z h a ty n f) (E : Ext h h') : Ag Z h' a ty n f := by obtain ⟨c, A, r⟩ := F; exact ⟨c, A.ext E, r⟩
theorem Ag.other {sl : Nat} {v : Value} (F : Ag Z h b ty n f) (W : Wr h h' a sl v) (q : b ≠ a) : Ag Z h' b ty n f := by obtain ⟨c, A, r⟩ := F; exact ⟨c, A.other W q, r⟩
theorem Ag.keep {ws : List Addr} (F : Ag Z h a ty n f) (K : Keep h h' ws) (q : a ∉ ws) : Ag Z h' a ty n f := by obtain ⟨c, A, r⟩ := F; exact ⟨c, ⟨K.2.1 a c A.1 q, A.2⟩, r⟩
theorem Ag.congr {g : Nat → Value} (F : Ag Z h a ty n f) (q : ∀ j, j < n → f j = g j) : Ag Z h a ty n g := by obtain ⟨c, A, S, H⟩ := F; exact ⟨c, A, S, fun j hj => by rw [H j hj, q j hj]⟩
theorem Ag.set {j : Nat} {v : Value} (F : Ag Z h a ty n f) (W : Wr h h' a j v) : Ag Z h' a ty n (fun i => if i = j then v else f i) := by
  obtain ⟨c, A, S, H⟩ := F
  refine ⟨c.setSlot j v, A.same W, by rw [sz_set]; exact S, fun i hi => ?_⟩
  show (c.slots.setIfInBounds j v)[i]? = some (if i = j then v else f i)
  by_cases q : i = j
  · subst q; rw [if_pos rfl, Array.getElem?_setIfInBounds_self_of_lt (by omega)]
  · rw [if_neg q, Array.getElem?_setIfInBounds_ne (Ne.symm q)]; exact H i hi
theorem Ag.new {k : ClassId} {z : Int32} (A : Arr Z h a (newA k ty z) ty) {N : Nat} (hz : z.toInt = (N : Int)) : Ag Z h a ty N (fun _ => defaultValue ty) := by
  have e : z.toNatClampNeg = N := by rw [Int32.toNatClampNeg]; omega
  refine ⟨_, A, by rw [sz_new, e], fun j hj => ?_⟩
  show (Array.replicate z.toNatClampNeg (defaultValue ty))[j]? = _
  rw [e]; simp [hj]
theorem nat32 {j : Int32} {J : Nat} (hj : j.toInt = (J : Int)) : j.toNatClampNeg = J := by rw [Int32.toNatClampNeg]; omega
theorem inb {cl : Cell} {j : Int32} {J : Nat} (hj : j.toInt = (J : Int)) (S : cl.slots.size = n) (hn : J < n) : ¬ (j < 0 ∨ cl.slots.size ≤ j.toNatClampNeg) := by
  rw [nat32 hj, S]
  rintro (q | q)
  · have := Int32.lt_iff_toInt_lt.mp q; rw [Int32.toInt_zero] at this; omega
  · omega
theorem ldD (X : Stand p l e R s m args below meth c T locs cells slots) (hx : p.tables.exec = Jvm.exec) (hZ : Z.Warmed39 s.vm) (eT : T.heap = h) (F : Ag Z h a .double n f) {j : Int32} {J : Nat} (hj : j.toInt = (J : Int)) (hn : J < n) {x : UInt64} (hv : f J = .double x) {g : JFrame} (hg : g.method = m) {rest : List Value} (hs : g.stack = .int j :: .ref a :: rest) (hd : decode c.code g.pc = .ok (.daload, 1)) {target : State}
    (hr : Steps p.tables e below (T.setTop { g with pc := g.pc + 1, stack := .double x :: rest }) target) : Steps p.tables e below (T.setTop g) target := by
  obtain ⟨cl, A, S, H⟩ := F
  exact X.daload hx (by rw [eT]; exact A.1) (State.isArrayOf_alike hZ.alike A.2.1) A.2.2 (inb hj S hn) (by rw [nat32 hj, H J hn, hv]) hg hs hd _ hr
theorem ldI (X : Stand p l e R s m args below meth c T locs cells slots) (hx : p.tables.exec = Jvm.exec) (hZ : Z.Warmed39 s.vm) (eT : T.heap = h) (F : Ag Z h a .int n f) {j : Int32} {J : Nat} (hj : j.toInt = (J : Int)) (hn : J < n) {x : Int32} (hv : f J = .int x) {g : JFrame} (hg : g.method = m) {rest : List Value} (hs : g.stack = .int j :: .ref a :: rest) (hd : decode c.code g.pc = .ok (.iaload, 1)) {target : State}
    (hr : Steps p.tables e below (T.setTop { g with pc := g.pc + 1, stack := .int x :: rest }) target) : Steps p.tables e below (T.setTop g) target := by
  obtain ⟨cl, A, S, H⟩ := F
  exact X.iaload hx (by rw [eT]; exact A.1) (State.isArrayOf_alike hZ.alike A.2.1) A.2.2 (inb hj S hn) (by rw [nat32 hj, H J hn, hv]) hg hs hd _ hr
theorem ldJ (X : Stand p l e R s m args below meth c T locs cells slots) (hx : p.tables.exec = Jvm.exec) (hZ : Z.Warmed39 s.vm) (eT : T.heap = h) (F : Ag Z h a .long n f) {j : Int32} {J : Nat} (hj : j.toInt = (J : Int)) (hn : J < n) {x : Int64} (hv : f J = .long x) {g : JFrame} (hg : g.method = m) {rest : List Value} (hs : g.stack = .int j :: .ref a :: rest) (hd : decode c.code g.pc = .ok (.laload, 1)) {target : State}
    (hr : Steps p.tables e below (T.setTop { g with pc := g.pc + 1, stack := .long x :: rest }) target) : Steps p.tables e below (T.setTop g) target := by
  obtain ⟨cl, A, S, H⟩ := F
  exact X.laload hx (by rw [eT]; exact A.1) (State.isArrayOf_alike hZ.alike A.2.1) A.2.2 (inb hj S hn) (by rw [nat32 hj, H J hn, hv]) hg hs hd _ hr
theorem lenA (X : Stand p l e R s m args below meth c T locs cells slots) (hx : p.tables.exec = Jvm.exec) (hZ : Z.Warmed39 s.vm) (eT : T.heap = h) (F : Ag Z h a ty n f) {z : Int32} (hz : z.toInt = (n : Int)) {g : JFrame} (hg : g.method = m) {rest : List Value} (hs : g.stack = .ref a :: rest) (hd : decode c.code g.pc = .ok (.arraylength, 1)) {target : State}
    (hr : Steps p.tables e below (T.setTop { g with pc := g.pc + 1, stack := .int z :: rest }) target) : Steps p.tables e below (T.setTop g) target := by
  obtain ⟨cl, A, S, H⟩ := F
  have q : cl.slots.size.toInt32 = z := by
    have h1 := Int32.toInt_lt z
    apply Int32.toInt_inj.mp
    rw [S, hz]; exact Int32.toInt_ofNat_small (by omega)
  exact X.arraylength hx (by rw [eT]; exact A.1) (State.isArrayOf_alike hZ.alike A.2.1) hg hs hd _ (by rw [q]; exact hr)
theorem stDA (X : Stand p l e R s m args below meth c T locs cells slots) (hx : p.tables.exec = Jvm.exec) (hZ : Z.Warmed39 s.vm) (eT : T.heap = h) (F : Ag Z h a .double n f) {j : Int32} {J : Nat} (hj : j.toInt = (J : Int)) (hn : J < n) {x : UInt64} {g : JFrame} (hg : g.method = m) {rest : List Value} (hs : g.stack = .double x :: .int j :: .ref a :: rest) (hd : decode c.code g.pc = .ok (.dastore, 1)) :
    ∃ T' h', Stand p l e R s m args below meth c T' (locs ++ [⟨a, J⟩]) cells slots ∧ T'.heap = h' ∧ Wr h h' a J (.double x) ∧ ∀ target, Steps p.tables e below (T'.setTop { g with pc := g.pc + 1, stack := rest }) target → Steps p.tables e below (T.setTop g) target := by
  obtain ⟨cl, A, S, H⟩ := F
  have q := stD X hx hZ eT A (inb hj S hn) hg hs hd
  rw [nat32 hj] at q; exact q
theorem stIA (X : Stand p l e R s m args below meth c T locs cells slots) (hx : p.tables.exec = Jvm.exec) (hZ : Z.Warmed39 s.vm) (eT : T.heap = h) (F : Ag Z h a .int n f) {j : Int32} {J : Nat} (hj : j.toInt = (J : Int)) (hn : J < n) {x : Int32} {g : JFrame} (hg : g.method = m) {rest : List Value} (hs : g.stack = .int x :: .int j :: .ref a :: rest) (hd : decode c.code g.pc = .ok (.iastore, 1)) :
    ∃ T' h', Stand p l e R s m args below meth c T' (locs ++ [⟨a, J⟩]) cells slots ∧ T'.heap = h' ∧ Wr h h' a J (.int x) ∧ ∀ target, Steps p.tables e below (T'.setTop { g with pc := g.pc + 1, stack := rest }) target → Steps p.tables e below (T.setTop g) target := by
  obtain ⟨cl, A, S, H⟩ := F
  have q := stI X hx hZ eT A (inb hj S hn) hg hs hd
  rw [nat32 hj] at q; exact q
theorem stJA (X : Stand p l e R s m args below meth c T locs cells slots) (hx : p.tables.exec = Jvm.exec) (hZ : Z.Warmed39 s.vm) (eT : T.heap = h) (F : Ag Z h a .long n f) {j : Int32} {J : Nat} (hj : j.toInt = (J : Int)) (hn : J < n) {x : Int64} {g : JFrame} (hg : g.method = m) {rest : List Value} (hs : g.stack = .long x :: .int j :: .ref a :: rest) (hd : decode c.code g.pc = .ok (.lastore, 1)) :
    ∃ T' h', Stand p l e R s m args below meth c T' (locs ++ [⟨a, J⟩]) cells slots ∧ T'.heap = h' ∧ Wr h h' a J (.long x) ∧ ∀ target, Steps p.tables e below (T'.setTop { g with pc := g.pc + 1, stack := rest }) target → Steps p.tables e below (T.setTop g) target := by
  obtain ⟨cl, A, S, H⟩ := F
  have q := stJ X hx hZ eT A (inb hj S hn) hg hs hd
  rw [nat32 hj] at q; exact q
end
end Jvm.OwnArr
namespace Jvm.OwnP2
open Jvm Jvm.ClassFile Sem Op Lib Jvm.Free Jvm.Stand Jvm.LawKit Jvm.RoadKit
theorem pop2D {tb : Tables} [Ours tb] {e : Env} {below : List Frame} {T target : State} {m : MethodId} {c : Code} {g : JFrame} (h : At T m c below) (hx : tb.exec = Jvm.exec) (hg : g.method = m) {x : UInt64} {rest : List Value} (hd : decode c.code g.pc = .ok (.pop2, 1)) (hs : g.stack = .double x :: rest)
    (hr : Steps tb e below (T.setTop { g with pc := g.pc + 1, stack := rest }) target) : Steps tb e below (T.setTop g) target := by
  subst hg
  jvm_step h [h.top, hx, hd, hs]
  exact hr
end Jvm.OwnP2
namespace Jvm.Pilot.@@N@@
open Jvm Jvm.ClassFile Sem Op Lib Jvm.Free Jvm.Stand Jvm.LawKit Jvm.RoadKit Bundle Jvm.Pilot.@@N@@.Jvm.D
open Jvm.OwnFP Jvm.FP
theorem pn_com_example_topple_topple_markov_PoissonWeightsTailPinLaw : plainName "com/example/topple/topple/markov/PoissonWeightsTailPinLaw" = true := by first | (simp [plainName, overriddenIn]; done) | decide +kernel
theorem pn_com_example_topple_topple_markov_PoissonWeights : plainName "com/example/topple/topple/markov/PoissonWeights" = true := by first | (simp [plainName, overriddenIn]; done) | decide +kernel
theorem pd___V : parseMethodDescriptor "()V" = some ⟨[], none⟩ := by decide +kernel
theorem pd__D_V : parseMethodDescriptor "(D)V" = some ⟨[.double], none⟩ := by decide +kernel
theorem pd___D : parseMethodDescriptor "()D" = some ⟨[], some .double⟩ := by decide +kernel
theorem nat_i {n : Nat} (h : n ≤ 5000) : (Int32.ofNat n).toInt = (n : Int) := Int32.toInt_ofNat_small (by omega)
theorem i_ext {a b : Int32} (h : a.toInt = b.toInt) : a = b := Int32.toInt_inj.mp h
theorem dec_k {M k : Nat} (h : k < M) (h2 : M ≤ 5000) : Int32.ofNat (M - k) + (-1 : Int32) = Int32.ofNat (M - (k + 1)) := by
  apply i_ext
  have e : (-1 : Int32).toInt = -1 := by decide
  have a := nat_i (n := M - k) (by omega); have b := nat_i (n := M - (k + 1)) (by omega)
  rw [Kit.i32_add (by omega) (by omega), b]; omega
theorem pos_k {n : Nat} (h : 0 < n) (h2 : n ≤ 5000) : (0 : Int32) < Int32.ofNat n := by
  rw [Int32.lt_iff_toInt_lt, nat_i h2, Int32.toInt_zero]; omega
theorem lt_k {a b : Nat} (ha : a ≤ 5000) (hb : b ≤ 5000) : Int32.ofNat a < Int32.ofNat b ↔ a < b := by
  rw [Int32.lt_iff_toInt_lt, nat_i ha, nat_i hb]; omega
theorem sub_k {a b : Nat} (h : b ≤ a) (ha : a ≤ 5000) : (Int32.ofNat a - Int32.ofNat b).toInt = ((a - b : Nat) : Int) := by
  have x := nat_i ha; have y := nat_i (n := b) (by omega)
  rw [Kit.i32_sub (by omega) (by omega)]; omega
theorem len_k {a b : Nat} (h : b ≤ a) (ha : a ≤ 5000) : ((Int32.ofNat a - Int32.ofNat b) + (1 : Int32)).toInt = ((a - b + 1 : Nat) : Int) := by
  have x := sub_k h ha; have e : (1 : Int32).toInt = 1 := by decide
  rw [Kit.i32_add (by omega) (by omega)]; omega
theorem sub1_k {a b : Nat} (h : b < a) (ha : a ≤ 5000) : ((Int32.ofNat a - (1 : Int32)) - Int32.ofNat b).toInt = ((a - 1 - b : Nat) : Int) := by
  have x := nat_i ha; have y := nat_i (n := b) (by omega); have e : (1 : Int32).toInt = 1 := by decide
  have z : (Int32.ofNat a - (1 : Int32)).toInt = (a : Int) - 1 := by rw [Kit.i32_sub (by omega) (by omega)]; omega
  rw [Kit.i32_sub (by omega) (by omega)]; omega
theorem fz_k {M F k : Nat} {tm : Nat → UInt64} (h : k < M - F) : (if M - F ≤ (M - k - F) + k then tm (M - F - (M - k - F)) else 0) = tm k := by
  rw [if_pos (by omega), show M - F - (M - k - F) = k by omega]
def nnB (a : UInt64) : Bool := decide (a &&& 0x7fffffffffffffff ≤ 0x7ff0000000000000)
theorem nn_of {a : UInt64} (h : nnB a = true) : Jvm.Free.Fl.NoNaN64 a := of_decide_eq_true h
def mnF (j : Nat) : UInt64 := FP.ddiv (FP.i2d (Int32.ofNat j)) (4616189618054758400 : UInt64)
def prF (j : Nat) : Nat → UInt64
  | 0 => FP.dconst1
  | k + 1 => FP.dmul (prF j k) (FP.ddiv (FP.i2d (Int32.ofNat (j / 4 - k))) (mnF j))
def tmF (j : Nat) : Nat → UInt64
  | 0 => FP.dconst1
  | k + 1 => FP.ddiv (FP.dmul (tmF j k) (FP.i2d (Int32.ofNat (j / 4 - k)))) (mnF j)
def WF (j : Nat) : Nat → UInt64
  | 0 => tmF j (j / 4)
  | c + 1 => if c + 1 ≤ j / 4 then tmF j (j / 4 - (c + 1)) else FP.ddiv (FP.dmul (WF j c) (mnF j)) (FP.i2d (Int32.ofNat (c + 1)))
theorem mn_nn : ∀ j : Fin 32, nnB (mnF j.val) = true := by decide +kernel
theorem mn_md : ∀ j : Fin 32, FP.d2i (mnF j.val) = Int32.ofNat (j.val / 4) := by decide +kernel
theorem hp_c : ∀ j : Fin 32, ∀ k : Fin 7, k.val < j.val / 4 → nnB (FP.ddiv (FP.i2d (Int32.ofNat (j.val / 4 - k.val))) (mnF j.val)) = true ∧ nnB (prF j.val (k.val + 1)) = true ∧ ¬ cmpValue (FP.dcmp (prF j.val (k.val + 1)) (118622047889322841 : UInt64)) .g < 0 := by decide +kernel
theorem ht_c : ∀ j : Fin 32, ∀ k : Fin 7, k.val < j.val / 4 → nnB (FP.dmul (tmF j.val k.val) (FP.i2d (Int32.ofNat (j.val / 4 - k.val)))) = true ∧ nnB (tmF j.val (k.val + 1)) = true := by decide +kernel
theorem j_k (x : Int32) : ∃ j : Nat, j < 32 ∧ (x &&& (31 : Int32)) = Int32.ofNat j := by
  have h1 := Kit.i32_mask x 31 (k := 5) (by decide) (by decide)
  refine ⟨(x &&& (31 : Int32)).toInt.toNat, by omega, i_ext ?_⟩
  rw [nat_i (by omega)]; omega
theorem md_k : ∀ j : Fin 32, Int32.ofNat j.val / (4 : Int32) = Int32.ofNat (j.val / 4) := by decide +kernel
theorem k_k (x : Int32) : (x &&& (2147483647 : Int32)) % (7 : Int32) = 0 ∨ (x &&& (2147483647 : Int32)) % (7 : Int32) = 1 ∨ (x &&& (2147483647 : Int32)) % (7 : Int32) = 2 ∨ (x &&& (2147483647 : Int32)) % (7 : Int32) = 3 ∨ (x &&& (2147483647 : Int32)) % (7 : Int32) = 4 ∨ (x &&& (2147483647 : Int32)) % (7 : Int32) = 5 ∨ (x &&& (2147483647 : Int32)) % (7 : Int32) = 6 := by
  have h1 := Kit.i32_mask x 2147483647 (k := 31) (by decide) (by decide)
  have h2 := Kit.i32_rem_nonneg (x := x &&& (2147483647 : Int32)) (y := 7) (by omega)
  rw [show (7 : Int32).toInt = 7 by decide] at h2
  have e : ∀ {a b : Int32}, a = b ↔ a.toInt = b.toInt := fun {a b} => Int32.toInt_inj.symm
  rw [e, e, e, e, e, e, e, h2, show (0 : Int32).toInt = 0 by decide, show (1 : Int32).toInt = 1 by decide, show (2 : Int32).toInt = 2 by decide, show (3 : Int32).toInt = 3 by decide, show (4 : Int32).toInt = 4 by decide, show (5 : Int32).toInt = 5 by decide, show (6 : Int32).toInt = 6 by decide]
  omega
theorem inf_c : cmpValue (FP.dcmp (9218868437227405312 : UInt64) (9218868437227405312 : UInt64)) .l = 0 := by decide +kernel
theorem nlo_0 : ∀ j : Fin 32, ¬ Int32.ofNat (j.val / 4) < (0 : Int32) → ((0 : Int32) - Int32.ofNat 0).toInt = ((0 : Nat) : Int) ∧ 0 < j.val / 4 - 0 + 1 ∧ tmF j.val (j.val / 4 - 0 - 0) = WF j.val 0 := by decide +kernel
theorem nhi_0 : ∀ j : Fin 32, Int32.ofNat (j.val / 4) < (0 : Int32) → nnB (FP.dmul (0 : UInt64) (mnF j.val)) = true ∧ nnB (WF j.val 0) = true ∧ FP.ddiv (FP.dmul (0 : UInt64) (mnF j.val)) (FP.i2d (0 : Int32)) = WF j.val 0 := by decide +kernel
theorem nlo_1 : ∀ j : Fin 32, ¬ Int32.ofNat (j.val / 4) < (1 : Int32) → ((1 : Int32) - Int32.ofNat 0).toInt = ((1 : Nat) : Int) ∧ 1 < j.val / 4 - 0 + 1 ∧ tmF j.val (j.val / 4 - 0 - 1) = WF j.val 1 := by decide +kernel
theorem nhi_1 : ∀ j : Fin 32, Int32.ofNat (j.val / 4) < (1 : Int32) → nnB (FP.dmul (WF j.val 0) (mnF j.val)) = true ∧ nnB (WF j.val 1) = true ∧ FP.ddiv (FP.dmul (WF j.val 0) (mnF j.val)) (FP.i2d (1 : Int32)) = WF j.val 1 := by decide +kernel
theorem nlo_2 : ∀ j : Fin 32, ¬ Int32.ofNat (j.val / 4) < (2 : Int32) → ((2 : Int32) - Int32.ofNat 0).toInt = ((2 : Nat) : Int) ∧ 2 < j.val / 4 - 0 + 1 ∧ tmF j.val (j.val / 4 - 0 - 2) = WF j.val 2 := by decide +kernel
theorem nhi_2 : ∀ j : Fin 32, Int32.ofNat (j.val / 4) < (2 : Int32) → nnB (FP.dmul (WF j.val 1) (mnF j.val)) = true ∧ nnB (WF j.val 2) = true ∧ FP.ddiv (FP.dmul (WF j.val 1) (mnF j.val)) (FP.i2d (2 : Int32)) = WF j.val 2 := by decide +kernel
theorem nlo_3 : ∀ j : Fin 32, ¬ Int32.ofNat (j.val / 4) < (3 : Int32) → ((3 : Int32) - Int32.ofNat 0).toInt = ((3 : Nat) : Int) ∧ 3 < j.val / 4 - 0 + 1 ∧ tmF j.val (j.val / 4 - 0 - 3) = WF j.val 3 := by decide +kernel
theorem nhi_3 : ∀ j : Fin 32, Int32.ofNat (j.val / 4) < (3 : Int32) → nnB (FP.dmul (WF j.val 2) (mnF j.val)) = true ∧ nnB (WF j.val 3) = true ∧ FP.ddiv (FP.dmul (WF j.val 2) (mnF j.val)) (FP.i2d (3 : Int32)) = WF j.val 3 := by decide +kernel
theorem nlo_4 : ∀ j : Fin 32, ¬ Int32.ofNat (j.val / 4) < (4 : Int32) → ((4 : Int32) - Int32.ofNat 0).toInt = ((4 : Nat) : Int) ∧ 4 < j.val / 4 - 0 + 1 ∧ tmF j.val (j.val / 4 - 0 - 4) = WF j.val 4 := by decide +kernel
theorem nhi_4 : ∀ j : Fin 32, Int32.ofNat (j.val / 4) < (4 : Int32) → nnB (FP.dmul (WF j.val 3) (mnF j.val)) = true ∧ nnB (WF j.val 4) = true ∧ FP.ddiv (FP.dmul (WF j.val 3) (mnF j.val)) (FP.i2d (4 : Int32)) = WF j.val 4 := by decide +kernel
theorem nlo_5 : ∀ j : Fin 32, ¬ Int32.ofNat (j.val / 4) < (5 : Int32) → ((5 : Int32) - Int32.ofNat 0).toInt = ((5 : Nat) : Int) ∧ 5 < j.val / 4 - 0 + 1 ∧ tmF j.val (j.val / 4 - 0 - 5) = WF j.val 5 := by decide +kernel
theorem nhi_5 : ∀ j : Fin 32, Int32.ofNat (j.val / 4) < (5 : Int32) → nnB (FP.dmul (WF j.val 4) (mnF j.val)) = true ∧ nnB (WF j.val 5) = true ∧ FP.ddiv (FP.dmul (WF j.val 4) (mnF j.val)) (FP.i2d (5 : Int32)) = WF j.val 5 := by decide +kernel
theorem nlo_6 : ∀ j : Fin 32, ¬ Int32.ofNat (j.val / 4) < (6 : Int32) → ((6 : Int32) - Int32.ofNat 0).toInt = ((6 : Nat) : Int) ∧ 6 < j.val / 4 - 0 + 1 ∧ tmF j.val (j.val / 4 - 0 - 6) = WF j.val 6 := by decide +kernel
theorem nhi_6 : ∀ j : Fin 32, Int32.ofNat (j.val / 4) < (6 : Int32) → nnB (FP.dmul (WF j.val 5) (mnF j.val)) = true ∧ nnB (WF j.val 6) = true ∧ FP.ddiv (FP.dmul (WF j.val 5) (mnF j.val)) (FP.i2d (6 : Int32)) = WF j.val 6 := by decide +kernel
theorem nlo_7 : ∀ j : Fin 32, ¬ Int32.ofNat (j.val / 4) < (7 : Int32) → ((7 : Int32) - Int32.ofNat 0).toInt = ((7 : Nat) : Int) ∧ 7 < j.val / 4 - 0 + 1 ∧ tmF j.val (j.val / 4 - 0 - 7) = WF j.val 7 := by decide +kernel
theorem nhi_7 : ∀ j : Fin 32, Int32.ofNat (j.val / 4) < (7 : Int32) → nnB (FP.dmul (WF j.val 6) (mnF j.val)) = true ∧ nnB (WF j.val 7) = true ∧ FP.ddiv (FP.dmul (WF j.val 6) (mnF j.val)) (FP.i2d (7 : Int32)) = WF j.val 7 := by decide +kernel
theorem tl_1 : ∀ j : Fin 32, ¬ (0 : Int32) < Int32.ofNat (j.val / 4) → nnB (FP.dmul (WF j.val 0) (mnF j.val)) = true ∧ nnB (FP.ddiv (FP.dmul (WF j.val 0) (mnF j.val)) (FP.i2d ((0 : Int32) + (1 : Int32)))) = true ∧ nnB (FP.ddiv (mnF j.val) (FP.i2d ((0 : Int32) + (2 : Int32)))) = true ∧ nnB (FP.dsub FP.dconst1 (FP.ddiv (mnF j.val) (FP.i2d ((0 : Int32) + (2 : Int32))))) = true ∧ nnB (FP.ddiv (FP.ddiv (FP.dmul (WF j.val 0) (mnF j.val)) (FP.i2d ((0 : Int32) + (1 : Int32)))) (FP.dsub FP.dconst1 (FP.ddiv (mnF j.val) (FP.i2d ((0 : Int32) + (2 : Int32)))))) = true := by decide +kernel
theorem lw_1 : ∀ j : Fin 32, ¬ (0 : Int32) < Int32.ofNat (j.val / 4) → nnB (FP.ddiv (mnF j.val) (FP.i2d (2 : Int32))) = true ∧ nnB (FP.dsub FP.dconst1 (FP.ddiv (mnF j.val) (FP.i2d (2 : Int32)))) = true ∧ nnB (FP.ddiv (WF j.val 1) (FP.dsub FP.dconst1 (FP.ddiv (mnF j.val) (FP.i2d (2 : Int32))))) = true ∧ cmpValue (FP.dcmp (FP.ddiv (FP.ddiv (FP.dmul (WF j.val 0) (mnF j.val)) (FP.i2d ((0 : Int32) + (1 : Int32)))) (FP.dsub FP.dconst1 (FP.ddiv (mnF j.val) (FP.i2d ((0 : Int32) + (2 : Int32)))))) (FP.ddiv (WF j.val 1) (FP.dsub FP.dconst1 (FP.ddiv (mnF j.val) (FP.i2d (2 : Int32)))))) .l = 0 ∧ nnB (FP.dadd (WF j.val 1) (WF j.val 2)) = true ∧ ¬ cmpValue (FP.dcmp (FP.ddiv (FP.ddiv (FP.dmul (WF j.val 0) (mnF j.val)) (FP.i2d ((0 : Int32) + (1 : Int32)))) (FP.dsub FP.dconst1 (FP.ddiv (mnF j.val) (FP.i2d ((0 : Int32) + (2 : Int32)))))) (FP.dadd (WF j.val 1) (WF j.val 2))) .l < 0 := by decide +kernel
theorem tl_2 : ∀ j : Fin 32, ¬ (1 : Int32) < Int32.ofNat (j.val / 4) → nnB (FP.dmul (WF j.val 1) (mnF j.val)) = true ∧ nnB (FP.ddiv (FP.dmul (WF j.val 1) (mnF j.val)) (FP.i2d ((1 : Int32) + (1 : Int32)))) = true ∧ nnB (FP.ddiv (mnF j.val) (FP.i2d ((1 : Int32) + (2 : Int32)))) = true ∧ nnB (FP.dsub FP.dconst1 (FP.ddiv (mnF j.val) (FP.i2d ((1 : Int32) + (2 : Int32))))) = true ∧ nnB (FP.ddiv (FP.ddiv (FP.dmul (WF j.val 1) (mnF j.val)) (FP.i2d ((1 : Int32) + (1 : Int32)))) (FP.dsub FP.dconst1 (FP.ddiv (mnF j.val) (FP.i2d ((1 : Int32) + (2 : Int32)))))) = true := by decide +kernel
theorem lw_2 : ∀ j : Fin 32, ¬ (1 : Int32) < Int32.ofNat (j.val / 4) → nnB (FP.ddiv (mnF j.val) (FP.i2d (3 : Int32))) = true ∧ nnB (FP.dsub FP.dconst1 (FP.ddiv (mnF j.val) (FP.i2d (3 : Int32)))) = true ∧ nnB (FP.ddiv (WF j.val 2) (FP.dsub FP.dconst1 (FP.ddiv (mnF j.val) (FP.i2d (3 : Int32))))) = true ∧ cmpValue (FP.dcmp (FP.ddiv (FP.ddiv (FP.dmul (WF j.val 1) (mnF j.val)) (FP.i2d ((1 : Int32) + (1 : Int32)))) (FP.dsub FP.dconst1 (FP.ddiv (mnF j.val) (FP.i2d ((1 : Int32) + (2 : Int32)))))) (FP.ddiv (WF j.val 2) (FP.dsub FP.dconst1 (FP.ddiv (mnF j.val) (FP.i2d (3 : Int32)))))) .l = 0 ∧ nnB (FP.dadd (WF j.val 2) (WF j.val 3)) = true ∧ ¬ cmpValue (FP.dcmp (FP.ddiv (FP.ddiv (FP.dmul (WF j.val 1) (mnF j.val)) (FP.i2d ((1 : Int32) + (1 : Int32)))) (FP.dsub FP.dconst1 (FP.ddiv (mnF j.val) (FP.i2d ((1 : Int32) + (2 : Int32)))))) (FP.dadd (WF j.val 2) (WF j.val 3))) .l < 0 := by decide +kernel
theorem tl_3 : ∀ j : Fin 32, ¬ (2 : Int32) < Int32.ofNat (j.val / 4) → nnB (FP.dmul (WF j.val 2) (mnF j.val)) = true ∧ nnB (FP.ddiv (FP.dmul (WF j.val 2) (mnF j.val)) (FP.i2d ((2 : Int32) + (1 : Int32)))) = true ∧ nnB (FP.ddiv (mnF j.val) (FP.i2d ((2 : Int32) + (2 : Int32)))) = true ∧ nnB (FP.dsub FP.dconst1 (FP.ddiv (mnF j.val) (FP.i2d ((2 : Int32) + (2 : Int32))))) = true ∧ nnB (FP.ddiv (FP.ddiv (FP.dmul (WF j.val 2) (mnF j.val)) (FP.i2d ((2 : Int32) + (1 : Int32)))) (FP.dsub FP.dconst1 (FP.ddiv (mnF j.val) (FP.i2d ((2 : Int32) + (2 : Int32)))))) = true := by decide +kernel
theorem lw_3 : ∀ j : Fin 32, ¬ (2 : Int32) < Int32.ofNat (j.val / 4) → nnB (FP.ddiv (mnF j.val) (FP.i2d (4 : Int32))) = true ∧ nnB (FP.dsub FP.dconst1 (FP.ddiv (mnF j.val) (FP.i2d (4 : Int32)))) = true ∧ nnB (FP.ddiv (WF j.val 3) (FP.dsub FP.dconst1 (FP.ddiv (mnF j.val) (FP.i2d (4 : Int32))))) = true ∧ cmpValue (FP.dcmp (FP.ddiv (FP.ddiv (FP.dmul (WF j.val 2) (mnF j.val)) (FP.i2d ((2 : Int32) + (1 : Int32)))) (FP.dsub FP.dconst1 (FP.ddiv (mnF j.val) (FP.i2d ((2 : Int32) + (2 : Int32)))))) (FP.ddiv (WF j.val 3) (FP.dsub FP.dconst1 (FP.ddiv (mnF j.val) (FP.i2d (4 : Int32)))))) .l = 0 ∧ nnB (FP.dadd (WF j.val 3) (WF j.val 4)) = true ∧ ¬ cmpValue (FP.dcmp (FP.ddiv (FP.ddiv (FP.dmul (WF j.val 2) (mnF j.val)) (FP.i2d ((2 : Int32) + (1 : Int32)))) (FP.dsub FP.dconst1 (FP.ddiv (mnF j.val) (FP.i2d ((2 : Int32) + (2 : Int32)))))) (FP.dadd (WF j.val 3) (WF j.val 4))) .l < 0 := by decide +kernel
theorem tl_4 : ∀ j : Fin 32, ¬ (3 : Int32) < Int32.ofNat (j.val / 4) → nnB (FP.dmul (WF j.val 3) (mnF j.val)) = true ∧ nnB (FP.ddiv (FP.dmul (WF j.val 3) (mnF j.val)) (FP.i2d ((3 : Int32) + (1 : Int32)))) = true ∧ nnB (FP.ddiv (mnF j.val) (FP.i2d ((3 : Int32) + (2 : Int32)))) = true ∧ nnB (FP.dsub FP.dconst1 (FP.ddiv (mnF j.val) (FP.i2d ((3 : Int32) + (2 : Int32))))) = true ∧ nnB (FP.ddiv (FP.ddiv (FP.dmul (WF j.val 3) (mnF j.val)) (FP.i2d ((3 : Int32) + (1 : Int32)))) (FP.dsub FP.dconst1 (FP.ddiv (mnF j.val) (FP.i2d ((3 : Int32) + (2 : Int32)))))) = true := by decide +kernel
theorem lw_4 : ∀ j : Fin 32, ¬ (3 : Int32) < Int32.ofNat (j.val / 4) → nnB (FP.ddiv (mnF j.val) (FP.i2d (5 : Int32))) = true ∧ nnB (FP.dsub FP.dconst1 (FP.ddiv (mnF j.val) (FP.i2d (5 : Int32)))) = true ∧ nnB (FP.ddiv (WF j.val 4) (FP.dsub FP.dconst1 (FP.ddiv (mnF j.val) (FP.i2d (5 : Int32))))) = true ∧ cmpValue (FP.dcmp (FP.ddiv (FP.ddiv (FP.dmul (WF j.val 3) (mnF j.val)) (FP.i2d ((3 : Int32) + (1 : Int32)))) (FP.dsub FP.dconst1 (FP.ddiv (mnF j.val) (FP.i2d ((3 : Int32) + (2 : Int32)))))) (FP.ddiv (WF j.val 4) (FP.dsub FP.dconst1 (FP.ddiv (mnF j.val) (FP.i2d (5 : Int32)))))) .l = 0 ∧ nnB (FP.dadd (WF j.val 4) (WF j.val 5)) = true ∧ ¬ cmpValue (FP.dcmp (FP.ddiv (FP.ddiv (FP.dmul (WF j.val 3) (mnF j.val)) (FP.i2d ((3 : Int32) + (1 : Int32)))) (FP.dsub FP.dconst1 (FP.ddiv (mnF j.val) (FP.i2d ((3 : Int32) + (2 : Int32)))))) (FP.dadd (WF j.val 4) (WF j.val 5))) .l < 0 := by decide +kernel
theorem tl_5 : ∀ j : Fin 32, ¬ (4 : Int32) < Int32.ofNat (j.val / 4) → nnB (FP.dmul (WF j.val 4) (mnF j.val)) = true ∧ nnB (FP.ddiv (FP.dmul (WF j.val 4) (mnF j.val)) (FP.i2d ((4 : Int32) + (1 : Int32)))) = true ∧ nnB (FP.ddiv (mnF j.val) (FP.i2d ((4 : Int32) + (2 : Int32)))) = true ∧ nnB (FP.dsub FP.dconst1 (FP.ddiv (mnF j.val) (FP.i2d ((4 : Int32) + (2 : Int32))))) = true ∧ nnB (FP.ddiv (FP.ddiv (FP.dmul (WF j.val 4) (mnF j.val)) (FP.i2d ((4 : Int32) + (1 : Int32)))) (FP.dsub FP.dconst1 (FP.ddiv (mnF j.val) (FP.i2d ((4 : Int32) + (2 : Int32)))))) = true := by decide +kernel
theorem lw_5 : ∀ j : Fin 32, ¬ (4 : Int32) < Int32.ofNat (j.val / 4) → nnB (FP.ddiv (mnF j.val) (FP.i2d (6 : Int32))) = true ∧ nnB (FP.dsub FP.dconst1 (FP.ddiv (mnF j.val) (FP.i2d (6 : Int32)))) = true ∧ nnB (FP.ddiv (WF j.val 5) (FP.dsub FP.dconst1 (FP.ddiv (mnF j.val) (FP.i2d (6 : Int32))))) = true ∧ cmpValue (FP.dcmp (FP.ddiv (FP.ddiv (FP.dmul (WF j.val 4) (mnF j.val)) (FP.i2d ((4 : Int32) + (1 : Int32)))) (FP.dsub FP.dconst1 (FP.ddiv (mnF j.val) (FP.i2d ((4 : Int32) + (2 : Int32)))))) (FP.ddiv (WF j.val 5) (FP.dsub FP.dconst1 (FP.ddiv (mnF j.val) (FP.i2d (6 : Int32)))))) .l = 0 ∧ nnB (FP.dadd (WF j.val 5) (WF j.val 6)) = true ∧ ¬ cmpValue (FP.dcmp (FP.ddiv (FP.ddiv (FP.dmul (WF j.val 4) (mnF j.val)) (FP.i2d ((4 : Int32) + (1 : Int32)))) (FP.dsub FP.dconst1 (FP.ddiv (mnF j.val) (FP.i2d ((4 : Int32) + (2 : Int32)))))) (FP.dadd (WF j.val 5) (WF j.val 6))) .l < 0 := by decide +kernel
theorem tl_6 : ∀ j : Fin 32, ¬ (5 : Int32) < Int32.ofNat (j.val / 4) → nnB (FP.dmul (WF j.val 5) (mnF j.val)) = true ∧ nnB (FP.ddiv (FP.dmul (WF j.val 5) (mnF j.val)) (FP.i2d ((5 : Int32) + (1 : Int32)))) = true ∧ nnB (FP.ddiv (mnF j.val) (FP.i2d ((5 : Int32) + (2 : Int32)))) = true ∧ nnB (FP.dsub FP.dconst1 (FP.ddiv (mnF j.val) (FP.i2d ((5 : Int32) + (2 : Int32))))) = true ∧ nnB (FP.ddiv (FP.ddiv (FP.dmul (WF j.val 5) (mnF j.val)) (FP.i2d ((5 : Int32) + (1 : Int32)))) (FP.dsub FP.dconst1 (FP.ddiv (mnF j.val) (FP.i2d ((5 : Int32) + (2 : Int32)))))) = true := by decide +kernel
theorem lw_6 : ∀ j : Fin 32, ¬ (5 : Int32) < Int32.ofNat (j.val / 4) → nnB (FP.ddiv (mnF j.val) (FP.i2d (7 : Int32))) = true ∧ nnB (FP.dsub FP.dconst1 (FP.ddiv (mnF j.val) (FP.i2d (7 : Int32)))) = true ∧ nnB (FP.ddiv (WF j.val 6) (FP.dsub FP.dconst1 (FP.ddiv (mnF j.val) (FP.i2d (7 : Int32))))) = true ∧ cmpValue (FP.dcmp (FP.ddiv (FP.ddiv (FP.dmul (WF j.val 5) (mnF j.val)) (FP.i2d ((5 : Int32) + (1 : Int32)))) (FP.dsub FP.dconst1 (FP.ddiv (mnF j.val) (FP.i2d ((5 : Int32) + (2 : Int32)))))) (FP.ddiv (WF j.val 6) (FP.dsub FP.dconst1 (FP.ddiv (mnF j.val) (FP.i2d (7 : Int32)))))) .l = 0 ∧ nnB (FP.dadd (WF j.val 6) (WF j.val 7)) = true ∧ ¬ cmpValue (FP.dcmp (FP.ddiv (FP.ddiv (FP.dmul (WF j.val 5) (mnF j.val)) (FP.i2d ((5 : Int32) + (1 : Int32)))) (FP.dsub FP.dconst1 (FP.ddiv (mnF j.val) (FP.i2d ((5 : Int32) + (2 : Int32)))))) (FP.dadd (WF j.val 6) (WF j.val 7))) .l < 0 := by decide +kernel
theorem neg_c : ∀ j : Fin 32, (-1 : Int32) < Int32.ofNat (j.val / 4) := by decide +kernel
theorem d1_0 : decode prog_39_method_1_code 0 = .ok (.aload_n 0, 1) := by decide +kernel
theorem d1_1 : decode prog_39_method_1_code 1 = .ok (.invokespecial 1, 3) := by decide +kernel
theorem d1_4 : decode prog_39_method_1_code 4 = .ok (.aload_n 0, 1) := by decide +kernel
theorem d1_5 : decode prog_39_method_1_code 5 = .ok (.iconst (-1), 1) := by decide +kernel
theorem d1_6 : decode prog_39_method_1_code 6 = .ok (.putfield 7, 3) := by decide +kernel
theorem d1_9 : decode prog_39_method_1_code 9 = .ok (.aload_n 0, 1) := by decide +kernel
theorem d1_10 : decode prog_39_method_1_code 10 = .ok (.dload_n 1, 1) := by decide +kernel
theorem d1_11 : decode prog_39_method_1_code 11 = .ok (.putfield 13, 3) := by decide +kernel
theorem d1_14 : decode prog_39_method_1_code 14 = .ok (.aload_n 0, 1) := by decide +kernel
theorem d1_15 : decode prog_39_method_1_code 15 = .ok (.dload_n 1, 1) := by decide +kernel
theorem d1_16 : decode prog_39_method_1_code 16 = .ok (.d2i, 1) := by decide +kernel
theorem d1_17 : decode prog_39_method_1_code 17 = .ok (.putfield 17, 3) := by decide +kernel
theorem d1_20 : decode prog_39_method_1_code 20 = .ok (.aload_n 0, 1) := by decide +kernel
theorem d1_21 : decode prog_39_method_1_code 21 = .ok (.getfield 17, 3) := by decide +kernel
theorem d1_24 : decode prog_39_method_1_code 24 = .ok (.istore_n 3, 1) := by decide +kernel
theorem d1_25 : decode prog_39_method_1_code 25 = .ok (.dconst 1, 1) := by decide +kernel
theorem d1_26 : decode prog_39_method_1_code 26 = .ok (.dstore 4, 2) := by decide +kernel
theorem d1_28 : decode prog_39_method_1_code 28 = .ok (.iload_n 3, 1) := by decide +kernel
theorem d1_29 : decode prog_39_method_1_code 29 = .ok (.ifCond .le 30, 3) := by decide +kernel
theorem d1_32 : decode prog_39_method_1_code 32 = .ok (.dload 4, 2) := by decide +kernel
theorem d1_34 : decode prog_39_method_1_code 34 = .ok (.iload_n 3, 1) := by decide +kernel
theorem d1_35 : decode prog_39_method_1_code 35 = .ok (.i2d, 1) := by decide +kernel
theorem d1_36 : decode prog_39_method_1_code 36 = .ok (.dload_n 1, 1) := by decide +kernel
theorem d1_37 : decode prog_39_method_1_code 37 = .ok (.ddiv, 1) := by decide +kernel
theorem d1_38 : decode prog_39_method_1_code 38 = .ok (.dmul, 1) := by decide +kernel
theorem d1_39 : decode prog_39_method_1_code 39 = .ok (.dstore 4, 2) := by decide +kernel
theorem d1_41 : decode prog_39_method_1_code 41 = .ok (.dload 4, 2) := by decide +kernel
theorem d1_43 : decode prog_39_method_1_code 43 = .ok (.ldc2_w 20, 3) := by decide +kernel
theorem d1_46 : decode prog_39_method_1_code 46 = .ok (.dcmp .g, 1) := by decide +kernel
theorem d1_47 : decode prog_39_method_1_code 47 = .ok (.ifCond .ge 6, 3) := by decide +kernel
theorem d1_50 : decode prog_39_method_1_code 50 = .ok (.goto 9, 3) := by decide +kernel
theorem d1_53 : decode prog_39_method_1_code 53 = .ok (.iinc 3 (-1), 3) := by decide +kernel
theorem d1_56 : decode prog_39_method_1_code 56 = .ok (.goto (-28), 3) := by decide +kernel
theorem d1_59 : decode prog_39_method_1_code 59 = .ok (.aload_n 0, 1) := by decide +kernel
theorem d1_60 : decode prog_39_method_1_code 60 = .ok (.iload_n 3, 1) := by decide +kernel
theorem d1_61 : decode prog_39_method_1_code 61 = .ok (.putfield 22, 3) := by decide +kernel
theorem d1_64 : decode prog_39_method_1_code 64 = .ok (.aload_n 0, 1) := by decide +kernel
theorem d1_65 : decode prog_39_method_1_code 65 = .ok (.aload_n 0, 1) := by decide +kernel
theorem d1_66 : decode prog_39_method_1_code 66 = .ok (.getfield 17, 3) := by decide +kernel
theorem d1_69 : decode prog_39_method_1_code 69 = .ok (.iload_n 3, 1) := by decide +kernel
theorem d1_70 : decode prog_39_method_1_code 70 = .ok (.isub, 1) := by decide +kernel
theorem d1_71 : decode prog_39_method_1_code 71 = .ok (.iconst 1, 1) := by decide +kernel
theorem d1_72 : decode prog_39_method_1_code 72 = .ok (.iadd, 1) := by decide +kernel
theorem d1_73 : decode prog_39_method_1_code 73 = .ok (.newarray .double, 2) := by decide +kernel
theorem d1_75 : decode prog_39_method_1_code 75 = .ok (.putfield 25, 3) := by decide +kernel
theorem d1_78 : decode prog_39_method_1_code 78 = .ok (.aload_n 0, 1) := by decide +kernel
theorem d1_79 : decode prog_39_method_1_code 79 = .ok (.getfield 25, 3) := by decide +kernel
theorem d1_82 : decode prog_39_method_1_code 82 = .ok (.aload_n 0, 1) := by decide +kernel
theorem d1_83 : decode prog_39_method_1_code 83 = .ok (.getfield 17, 3) := by decide +kernel
theorem d1_86 : decode prog_39_method_1_code 86 = .ok (.iload_n 3, 1) := by decide +kernel
theorem d1_87 : decode prog_39_method_1_code 87 = .ok (.isub, 1) := by decide +kernel
theorem d1_88 : decode prog_39_method_1_code 88 = .ok (.dconst 1, 1) := by decide +kernel
theorem d1_89 : decode prog_39_method_1_code 89 = .ok (.dastore, 1) := by decide +kernel
theorem d1_90 : decode prog_39_method_1_code 90 = .ok (.aload_n 0, 1) := by decide +kernel
theorem d1_91 : decode prog_39_method_1_code 91 = .ok (.getfield 17, 3) := by decide +kernel
theorem d1_94 : decode prog_39_method_1_code 94 = .ok (.istore 4, 2) := by decide +kernel
theorem d1_96 : decode prog_39_method_1_code 96 = .ok (.iload 4, 2) := by decide +kernel
theorem d1_98 : decode prog_39_method_1_code 98 = .ok (.iload_n 3, 1) := by decide +kernel
theorem d1_99 : decode prog_39_method_1_code 99 = .ok (.if_icmp .le 35, 3) := by decide +kernel
theorem d1_102 : decode prog_39_method_1_code 102 = .ok (.aload_n 0, 1) := by decide +kernel
theorem d1_103 : decode prog_39_method_1_code 103 = .ok (.getfield 25, 3) := by decide +kernel
theorem d1_106 : decode prog_39_method_1_code 106 = .ok (.iload 4, 2) := by decide +kernel
theorem d1_108 : decode prog_39_method_1_code 108 = .ok (.iconst 1, 1) := by decide +kernel
theorem d1_109 : decode prog_39_method_1_code 109 = .ok (.isub, 1) := by decide +kernel
theorem d1_110 : decode prog_39_method_1_code 110 = .ok (.iload_n 3, 1) := by decide +kernel
theorem d1_111 : decode prog_39_method_1_code 111 = .ok (.isub, 1) := by decide +kernel
theorem d1_112 : decode prog_39_method_1_code 112 = .ok (.aload_n 0, 1) := by decide +kernel
theorem d1_113 : decode prog_39_method_1_code 113 = .ok (.getfield 25, 3) := by decide +kernel
theorem d1_116 : decode prog_39_method_1_code 116 = .ok (.iload 4, 2) := by decide +kernel
theorem d1_118 : decode prog_39_method_1_code 118 = .ok (.iload_n 3, 1) := by decide +kernel
theorem d1_119 : decode prog_39_method_1_code 119 = .ok (.isub, 1) := by decide +kernel
theorem d1_120 : decode prog_39_method_1_code 120 = .ok (.daload, 1) := by decide +kernel
theorem d1_121 : decode prog_39_method_1_code 121 = .ok (.iload 4, 2) := by decide +kernel
theorem d1_123 : decode prog_39_method_1_code 123 = .ok (.i2d, 1) := by decide +kernel
theorem d1_124 : decode prog_39_method_1_code 124 = .ok (.dmul, 1) := by decide +kernel
theorem d1_125 : decode prog_39_method_1_code 125 = .ok (.dload_n 1, 1) := by decide +kernel
theorem d1_126 : decode prog_39_method_1_code 126 = .ok (.ddiv, 1) := by decide +kernel
theorem d1_127 : decode prog_39_method_1_code 127 = .ok (.dastore, 1) := by decide +kernel
theorem d1_128 : decode prog_39_method_1_code 128 = .ok (.iinc 4 (-1), 3) := by decide +kernel
theorem d1_131 : decode prog_39_method_1_code 131 = .ok (.goto (-35), 3) := by decide +kernel
theorem d1_134 : decode prog_39_method_1_code 134 = .ok (.return_, 1) := by decide +kernel
theorem ef_ct (m : MethodId) (a1 : Addr) (pm : UInt64) (M F : Nat) (pr tm : Nat → UInt64) : entryFrame m #[(.ref a1), (.double pm)] 6 = (mkF m 0 #[.val (.ref a1), .val (.double pm), .second, .unset, .unset, .unset] []) := by first | (simp [entryFrame, mkF, argsToLocals, Value.category]; done) | rfl
def Q_ct (Z : State) (a1 : Addr) (pm : UInt64) (M F : Nat) (pr tm : Nat → UInt64) (h0 : Heap) (n0 : Nat) (v : Option Value) (h : Heap) (L : List Loc) : Prop := ∃ ta : Addr, v = none ∧ Fr n0 L ∧ Keep h0 h [a1] ∧ ta ≠ a1 ∧ Exa Z h a1 "com/example/topple/topple/markov/PoissonWeights" ∧ Fld Z h a1 "com/example/topple/topple/markov/PoissonWeights" "count" "I" (.int (-1 : Int32)) ∧ Fld Z h a1 "com/example/topple/topple/markov/PoissonWeights" "mean" "D" (.double pm) ∧ Fld Z h a1 "com/example/topple/topple/markov/PoissonWeights" "mode" "I" (.int (Int32.ofNat M)) ∧ Fld Z h a1 "com/example/topple/topple/markov/PoissonWeights" "fewest" "I" (.int (Int32.ofNat F)) ∧ Fld Z h a1 "com/example/topple/topple/markov/PoissonWeights" "toMode" "[D" (.ref ta) ∧ Fld Z h a1 "com/example/topple/topple/markov/PoissonWeights" "weight" "D" (.double (0 : UInt64)) ∧ OwnArr.Ag Z h ta .double (M - F + 1) (fun i => .double (tm (M - F - i)))
set_option maxRecDepth 65536 in
set_option maxHeartbeats 2000000 in
theorem rm_ct (l : Launch) (Z : State) (a0 : Array Value) (hw : ∀ d ∈ tables_1, d.before a0 Z = true) (ws : List Jvm.Cond) (a1 : Addr) (pm : UInt64) (M F : Nat) (pr tm : Nat → UInt64) (h0 : Heap) (n0 : Nat) (Z0 : n0 ≤ h0.size) (E_a1 : Exa Z h0 a1 "com/example/topple/topple/markov/PoissonWeights") (F_0 : Fld Z h0 a1 "com/example/topple/topple/markov/PoissonWeights" "count" "I" (.int (0 : Int32))) (F_1 : Fld Z h0 a1 "com/example/topple/topple/markov/PoissonWeights" "mean" "D" (.double (0 : UInt64))) (F_2 : Fld Z h0 a1 "com/example/topple/topple/markov/PoissonWeights" "mode" "I" (.int (0 : Int32))) (F_3 : Fld Z h0 a1 "com/example/topple/topple/markov/PoissonWeights" "fewest" "I" (.int (0 : Int32))) (F_4 : Fld Z h0 a1 "com/example/topple/topple/markov/PoissonWeights" "toMode" "[D" .null) (F_5 : Fld Z h0 a1 "com/example/topple/topple/markov/PoissonWeights" "weight" "D" (.double (0 : UInt64))) (g_a1 : n0 ≤ a1) (hM2 : M ≤ 5000) (hF : F ≤ M) (hcap : M - F + 1 ≤ 8) (hmi : FP.d2i pm = Int32.ofNat M) (hp0 : pr 0 = FP.dconst1) (hp : ∀ k, k < M - F → Jvm.Free.Fl.NoNaN64 (FP.ddiv (FP.i2d (Int32.ofNat (M - k))) pm) ∧ FP.dmul (pr k) (FP.ddiv (FP.i2d (Int32.ofNat (M - k))) pm) = pr (k + 1) ∧ Jvm.Free.Fl.NoNaN64 (pr (k + 1)) ∧ ¬ cmpValue (FP.dcmp (pr (k + 1)) (118622047889322841 : UInt64)) .g < 0) (hx1 : F = 0 ∨ (0 < F ∧ Jvm.Free.Fl.NoNaN64 (FP.ddiv (FP.i2d (Int32.ofNat (M - (M - F)))) pm) ∧ FP.dmul (pr (M - F)) (FP.ddiv (FP.i2d (Int32.ofNat (M - (M - F)))) pm) = pr ((M - F) + 1) ∧ Jvm.Free.Fl.NoNaN64 (pr ((M - F) + 1)) ∧ cmpValue (FP.dcmp (pr (M - F + 1)) (118622047889322841 : UInt64)) .g < 0)) (ht0 : tm 0 = FP.dconst1) (ht : ∀ k, k < M - F → Jvm.Free.Fl.NoNaN64 (FP.dmul (tm k) (FP.i2d (Int32.ofNat (M - k)))) ∧ Jvm.Free.Fl.NoNaN64 (tm (k + 1)) ∧ FP.ddiv (FP.dmul (tm k) (FP.i2d (Int32.ofNat (M - k)))) pm = tm (k + 1)) :
    MetFree l (⟨"com/example/topple/topple/markov/PoissonWeights", "<init>", "(D)V"⟩ : MethodName) (head1 (Jvm.Cond.code (⟨"com/example/topple/topple/markov/PoissonWeights", "<init>", "(D)V"⟩ : MethodName) prog_39_method_1_code 6 none :: ws) ({ frames := 1, cells := 1, slots := 8, locals := 20 } : Room)) (fun aa UU => aa = #[(.ref a1), (.double pm)] ∧ Z.Warmed39 UU.vm ∧ UU.heap = h0) (fun _ _ _ _ _ => True) (fun _ UU oo UU' => ∃ v L, oo = .returned v ∧ Q_ct Z a1 pm M F pr tm h0 n0 v UU'.heap L ∧ FrameEnd UU oo UU' L ({ frames := 1, cells := 1, slots := 8, locals := 20 } : Room).cells ({ frames := 1, cells := 1, slots := 8, locals := 20 } : Room).slots) := by
  refine MetFree.of_bodySF (plainFor_of_name pn_com_example_topple_topple_markov_PoissonWeights) hisR ?_
  intro p e s m args below meth c s₁ Bd hml0 hP hK
  obtain ⟨rfl, hZ, hh⟩ := hP
  have hx := Bd.exec
  have hby := Bd.bytes
  have hml : c.maxLocals = 6 := hml0
  have hown : s.vm.findClass "com/example/topple/topple/markov/PoissonWeights" = some m.cls := findClass_of_methodNamed Bd.named
  have hnaM := (name_of_methodNamed Bd.named Bd.method).1
  have X0 : Stand p l e ({ frames := 1, cells := 1, slots := 8, locals := 20 } : Room) s m #[(.ref a1), (.double pm)] below meth c s₁ [] 0 0 := Stand.of_body Bd
  have e0 : s₁.heap = h0 := by rw [← hh, Bd.state]; rfl
  have N0 := Fr.nil n0
  have pre0 : ∀ t, Steps p.tables e below (s₁.setTop (entryFrame m #[(.ref a1), (.double pm)] 6)) t → Steps p.tables e below (s₁.setTop (entryFrame m #[(.ref a1), (.double pm)] 6)) t := fun t k => k
  have c0 : ∀ t, Steps p.tables e below (s₁.setTop (mkF m 0 #[.val (.ref a1), .val (.double pm), .second, .unset, .unset, .unset] [])) t → Steps p.tables e below (s₁.setTop (entryFrame m #[(.ref a1), (.double pm)] 6)) t := fun t k => castTop (ef_ct m a1 pm M F pr tm) k
  have K0 := Keep.refl h0 [a1]
  have c1 : ∀ t, Steps p.tables e below (s₁.setTop (mkF m 1 #[.val (.ref a1), .val (.double pm), .second, .unset, .unset, .unset] [(.ref a1)])) t → Steps p.tables e below (s₁.setTop (entryFrame m #[(.ref a1), (.double pm)] 6)) t := fun t k => c0 t (by
    show Steps p.tables e below (s₁.setTop (mkF m 0 #[.val (.ref a1), .val (.double pm), .second, .unset, .unset, .unset] [])) _
    refine XS.aloadN X0.here hx rfl (hb hby d1_0) rfl rfl ?_
    show Steps p.tables e below (s₁.setTop (mkF m 1 #[.val (.ref a1), .val (.double pm), .second, .unset, .unset, .unset] [(.ref a1)])) _
    exact k)
  obtain ⟨T2, X2, e2, st2⟩ := initO X0 hx hZ hown (hw _ (List.mem_of_getElem? (i := 8) rfl)) (hw _ (List.mem_of_getElem? (i := 9) rfl)) (hw _ (List.mem_of_getElem? (i := 10) rfl)) e0 (g := (mkF m 1 #[.val (.ref a1), .val (.double pm), .second, .unset, .unset, .unset] [(.ref a1)])) rfl (by rw [hml]; rfl) rfl (hb hby d1_1) (by decide) (W := 0) (by show 2 * 0 + _ ≤ _; exact Nat.le_of_eq rfl) (by decide)
  have c3 : ∀ t, Steps p.tables e below (T2.setTop (mkF m 4 #[.val (.ref a1), .val (.double pm), .second, .unset, .unset, .unset] [])) t → Steps p.tables e below (s₁.setTop (entryFrame m #[(.ref a1), (.double pm)] 6)) t := fun t k => c1 t (st2 _ k)
  have c4 : ∀ t, Steps p.tables e below (T2.setTop (mkF m 6 #[.val (.ref a1), .val (.double pm), .second, .unset, .unset, .unset] [(.int (-1 : Int32)), (.ref a1)])) t → Steps p.tables e below (s₁.setTop (entryFrame m #[(.ref a1), (.double pm)] 6)) t := fun t k => c3 t (by
    show Steps p.tables e below (T2.setTop (mkF m 4 #[.val (.ref a1), .val (.double pm), .second, .unset, .unset, .unset] [])) _
    refine XS.aloadN X2.here hx rfl (hb hby d1_4) rfl rfl ?_
    show Steps p.tables e below (T2.setTop (mkF m 5 #[.val (.ref a1), .val (.double pm), .second, .unset, .unset, .unset] [(.ref a1)])) _
    refine XS.iconst X2.here hx rfl (hb hby d1_5) ?_
    show Steps p.tables e below (T2.setTop (mkF m 6 #[.val (.ref a1), .val (.double pm), .second, .unset, .unset, .unset] [(.int (-1 : Int32)), (.ref a1)])) _
    exact k)
  obtain ⟨T5, h5, X5, e5, W5, st5⟩ := putF X2 hx hZ hown (host := "") (Or.inl (hw _ (List.mem_of_getElem? (i := 11) rfl))) Via.refl e2 F_0 E_a1 (Or.inl (hw _ (List.mem_of_getElem? (i := 12) rfl))) (hw _ (List.mem_of_getElem? (i := 3) rfl)) (ty := .int) (by decide) rfl rfl (g := (mkF m 6 #[.val (.ref a1), .val (.double pm), .second, .unset, .unset, .unset] [(.int (-1 : Int32)), (.ref a1)])) rfl rfl (hb hby d1_6)
  have F6 : Fld Z h5 a1 "com/example/topple/topple/markov/PoissonWeights" "count" "I" (.int (-1 : Int32)) := F_0.same W5
  have F7 : Exa Z h5 a1 "com/example/topple/topple/markov/PoissonWeights" := (E_a1.wr W5)
  have F8 : Fld Z h5 a1 "com/example/topple/topple/markov/PoissonWeights" "mean" "D" (.double (0 : UInt64)) := (F_1.other W5 (Or.inr (slot_ne (Or.inr (hw _ (List.mem_of_getElem? (i := 14) rfl))) (Or.inl (hw _ (List.mem_of_getElem? (i := 12) rfl))) (by decide) (t := .double) (t' := .int) (by decide) (by decide))))
  have F9 : Fld Z h5 a1 "com/example/topple/topple/markov/PoissonWeights" "mode" "I" (.int (0 : Int32)) := (F_2.other W5 (Or.inr (slot_ne (Or.inr (hw _ (List.mem_of_getElem? (i := 16) rfl))) (Or.inl (hw _ (List.mem_of_getElem? (i := 12) rfl))) (by decide) (t := .int) (t' := .int) (by decide) (by decide))))
  have F10 : Fld Z h5 a1 "com/example/topple/topple/markov/PoissonWeights" "fewest" "I" (.int (0 : Int32)) := (F_3.other W5 (Or.inr (slot_ne (Or.inr (hw _ (List.mem_of_getElem? (i := 18) rfl))) (Or.inl (hw _ (List.mem_of_getElem? (i := 12) rfl))) (by decide) (t := .int) (t' := .int) (by decide) (by decide))))
  have F11 : Fld Z h5 a1 "com/example/topple/topple/markov/PoissonWeights" "toMode" "[D" .null := (F_4.other W5 (Or.inr (slot_ne (Or.inr (hw _ (List.mem_of_getElem? (i := 21) rfl))) (Or.inl (hw _ (List.mem_of_getElem? (i := 12) rfl))) (by decide) (t := (.array .double)) (t' := .int) (by decide) (by decide))))
  have F12 : Fld Z h5 a1 "com/example/topple/topple/markov/PoissonWeights" "weight" "D" (.double (0 : UInt64)) := (F_5.other W5 (Or.inr (slot_ne (Or.inl (hw _ (List.mem_of_getElem? (i := 28) rfl))) (Or.inl (hw _ (List.mem_of_getElem? (i := 12) rfl))) (by decide) (t := .double) (t' := .int) (by decide) (by decide))))
  have N5 := Fr.snoc X5 N0 g_a1
  have K13 : Keep h0 h5 [a1] := K0.wr W5 (Or.inl (List.mem_of_getElem? (i := 0) rfl))
  have c14 : ∀ t, Steps p.tables e below (T5.setTop (mkF m 9 #[.val (.ref a1), .val (.double pm), .second, .unset, .unset, .unset] [])) t → Steps p.tables e below (s₁.setTop (entryFrame m #[(.ref a1), (.double pm)] 6)) t := fun t k => c4 t (st5 _ k)
  have c15 : ∀ t, Steps p.tables e below (T5.setTop (mkF m 11 #[.val (.ref a1), .val (.double pm), .second, .unset, .unset, .unset] [(.double pm), (.ref a1)])) t → Steps p.tables e below (s₁.setTop (entryFrame m #[(.ref a1), (.double pm)] 6)) t := fun t k => c14 t (by
    show Steps p.tables e below (T5.setTop (mkF m 9 #[.val (.ref a1), .val (.double pm), .second, .unset, .unset, .unset] [])) _
    refine XS.aloadN X5.here hx rfl (hb hby d1_9) rfl rfl ?_
    show Steps p.tables e below (T5.setTop (mkF m 10 #[.val (.ref a1), .val (.double pm), .second, .unset, .unset, .unset] [(.ref a1)])) _
    refine XS.dloadN X5.here hx rfl (hb hby d1_10) rfl ?_
    show Steps p.tables e below (T5.setTop (mkF m 11 #[.val (.ref a1), .val (.double pm), .second, .unset, .unset, .unset] [(.double pm), (.ref a1)])) _
    exact k)
  obtain ⟨T16, h16, X16, e16, W16, st16⟩ := putF X5 hx hZ hown (host := "") (Or.inl (hw _ (List.mem_of_getElem? (i := 13) rfl))) Via.refl e5 F8 F7 (Or.inr ⟨(hw _ (List.mem_of_getElem? (i := 14) rfl)), rfl, hnaM⟩) (hw _ (List.mem_of_getElem? (i := 3) rfl)) (ty := .double) (by decide) rfl rfl (g := (mkF m 11 #[.val (.ref a1), .val (.double pm), .second, .unset, .unset, .unset] [(.double pm), (.ref a1)])) rfl rfl (hb hby d1_11)
  have F17 : Fld Z h16 a1 "com/example/topple/topple/markov/PoissonWeights" "mean" "D" (.double pm) := F8.same W16
  have F18 : Exa Z h16 a1 "com/example/topple/topple/markov/PoissonWeights" := (F7.wr W16)
  have F19 : Fld Z h16 a1 "com/example/topple/topple/markov/PoissonWeights" "count" "I" (.int (-1 : Int32)) := (F6.other W16 (Or.inr (slot_ne (Or.inl (hw _ (List.mem_of_getElem? (i := 12) rfl))) (Or.inr (hw _ (List.mem_of_getElem? (i := 14) rfl))) (by decide) (t := .int) (t' := .double) (by decide) (by decide))))
  have F20 : Fld Z h16 a1 "com/example/topple/topple/markov/PoissonWeights" "mode" "I" (.int (0 : Int32)) := (F9.other W16 (Or.inr (slot_ne (Or.inr (hw _ (List.mem_of_getElem? (i := 16) rfl))) (Or.inr (hw _ (List.mem_of_getElem? (i := 14) rfl))) (by decide) (t := .int) (t' := .double) (by decide) (by decide))))
  have F21 : Fld Z h16 a1 "com/example/topple/topple/markov/PoissonWeights" "fewest" "I" (.int (0 : Int32)) := (F10.other W16 (Or.inr (slot_ne (Or.inr (hw _ (List.mem_of_getElem? (i := 18) rfl))) (Or.inr (hw _ (List.mem_of_getElem? (i := 14) rfl))) (by decide) (t := .int) (t' := .double) (by decide) (by decide))))
  have F22 : Fld Z h16 a1 "com/example/topple/topple/markov/PoissonWeights" "toMode" "[D" .null := (F11.other W16 (Or.inr (slot_ne (Or.inr (hw _ (List.mem_of_getElem? (i := 21) rfl))) (Or.inr (hw _ (List.mem_of_getElem? (i := 14) rfl))) (by decide) (t := (.array .double)) (t' := .double) (by decide) (by decide))))
  have F23 : Fld Z h16 a1 "com/example/topple/topple/markov/PoissonWeights" "weight" "D" (.double (0 : UInt64)) := (F12.other W16 (Or.inr (slot_ne (Or.inl (hw _ (List.mem_of_getElem? (i := 28) rfl))) (Or.inr (hw _ (List.mem_of_getElem? (i := 14) rfl))) (by decide) (t := .double) (t' := .double) (by decide) (by decide))))
  have N16 := Fr.snoc X16 N5 g_a1
  have K24 : Keep h0 h16 [a1] := K13.wr W16 (Or.inl (List.mem_of_getElem? (i := 0) rfl))
  have c25 : ∀ t, Steps p.tables e below (T16.setTop (mkF m 14 #[.val (.ref a1), .val (.double pm), .second, .unset, .unset, .unset] [])) t → Steps p.tables e below (s₁.setTop (entryFrame m #[(.ref a1), (.double pm)] 6)) t := fun t k => c15 t (st16 _ k)
  have c26 : ∀ t, Steps p.tables e below (T16.setTop (mkF m 17 #[.val (.ref a1), .val (.double pm), .second, .unset, .unset, .unset] [(.int (Int32.ofNat M)), (.ref a1)])) t → Steps p.tables e below (s₁.setTop (entryFrame m #[(.ref a1), (.double pm)] 6)) t := fun t k => c25 t (by
    show Steps p.tables e below (T16.setTop (mkF m 14 #[.val (.ref a1), .val (.double pm), .second, .unset, .unset, .unset] [])) _
    refine XS.aloadN X16.here hx rfl (hb hby d1_14) rfl rfl ?_
    show Steps p.tables e below (T16.setTop (mkF m 15 #[.val (.ref a1), .val (.double pm), .second, .unset, .unset, .unset] [(.ref a1)])) _
    refine XS.dloadN X16.here hx rfl (hb hby d1_15) rfl ?_
    show Steps p.tables e below (T16.setTop (mkF m 16 #[.val (.ref a1), .val (.double pm), .second, .unset, .unset, .unset] [(.double pm), (.ref a1)])) _
    refine XS.d2iS X16.here hx rfl (hb hby d1_16) rfl hmi ?_
    show Steps p.tables e below (T16.setTop (mkF m 17 #[.val (.ref a1), .val (.double pm), .second, .unset, .unset, .unset] [(.int (Int32.ofNat M)), (.ref a1)])) _
    exact k)
  obtain ⟨T27, h27, X27, e27, W27, st27⟩ := putF X16 hx hZ hown (host := "") (Or.inl (hw _ (List.mem_of_getElem? (i := 15) rfl))) Via.refl e16 F20 F18 (Or.inr ⟨(hw _ (List.mem_of_getElem? (i := 16) rfl)), rfl, hnaM⟩) (hw _ (List.mem_of_getElem? (i := 3) rfl)) (ty := .int) (by decide) rfl rfl (g := (mkF m 17 #[.val (.ref a1), .val (.double pm), .second, .unset, .unset, .unset] [(.int (Int32.ofNat M)), (.ref a1)])) rfl rfl (hb hby d1_17)
  have F28 : Fld Z h27 a1 "com/example/topple/topple/markov/PoissonWeights" "mode" "I" (.int (Int32.ofNat M)) := F20.same W27
  have F29 : Exa Z h27 a1 "com/example/topple/topple/markov/PoissonWeights" := (F18.wr W27)
  have F30 : Fld Z h27 a1 "com/example/topple/topple/markov/PoissonWeights" "count" "I" (.int (-1 : Int32)) := (F19.other W27 (Or.inr (slot_ne (Or.inl (hw _ (List.mem_of_getElem? (i := 12) rfl))) (Or.inr (hw _ (List.mem_of_getElem? (i := 16) rfl))) (by decide) (t := .int) (t' := .int) (by decide) (by decide))))
  have F31 : Fld Z h27 a1 "com/example/topple/topple/markov/PoissonWeights" "mean" "D" (.double pm) := (F17.other W27 (Or.inr (slot_ne (Or.inr (hw _ (List.mem_of_getElem? (i := 14) rfl))) (Or.inr (hw _ (List.mem_of_getElem? (i := 16) rfl))) (by decide) (t := .double) (t' := .int) (by decide) (by decide))))
  have F32 : Fld Z h27 a1 "com/example/topple/topple/markov/PoissonWeights" "fewest" "I" (.int (0 : Int32)) := (F21.other W27 (Or.inr (slot_ne (Or.inr (hw _ (List.mem_of_getElem? (i := 18) rfl))) (Or.inr (hw _ (List.mem_of_getElem? (i := 16) rfl))) (by decide) (t := .int) (t' := .int) (by decide) (by decide))))
  have F33 : Fld Z h27 a1 "com/example/topple/topple/markov/PoissonWeights" "toMode" "[D" .null := (F22.other W27 (Or.inr (slot_ne (Or.inr (hw _ (List.mem_of_getElem? (i := 21) rfl))) (Or.inr (hw _ (List.mem_of_getElem? (i := 16) rfl))) (by decide) (t := (.array .double)) (t' := .int) (by decide) (by decide))))
  have F34 : Fld Z h27 a1 "com/example/topple/topple/markov/PoissonWeights" "weight" "D" (.double (0 : UInt64)) := (F23.other W27 (Or.inr (slot_ne (Or.inl (hw _ (List.mem_of_getElem? (i := 28) rfl))) (Or.inr (hw _ (List.mem_of_getElem? (i := 16) rfl))) (by decide) (t := .double) (t' := .int) (by decide) (by decide))))
  have N27 := Fr.snoc X27 N16 g_a1
  have K35 : Keep h0 h27 [a1] := K24.wr W27 (Or.inl (List.mem_of_getElem? (i := 0) rfl))
  have c36 : ∀ t, Steps p.tables e below (T27.setTop (mkF m 20 #[.val (.ref a1), .val (.double pm), .second, .unset, .unset, .unset] [])) t → Steps p.tables e below (s₁.setTop (entryFrame m #[(.ref a1), (.double pm)] 6)) t := fun t k => c26 t (st27 _ k)
  have c37 : ∀ t, Steps p.tables e below (T27.setTop (mkF m 21 #[.val (.ref a1), .val (.double pm), .second, .unset, .unset, .unset] [(.ref a1)])) t → Steps p.tables e below (s₁.setTop (entryFrame m #[(.ref a1), (.double pm)] 6)) t := fun t k => c36 t (by
    show Steps p.tables e below (T27.setTop (mkF m 20 #[.val (.ref a1), .val (.double pm), .second, .unset, .unset, .unset] [])) _
    refine XS.aloadN X27.here hx rfl (hb hby d1_20) rfl rfl ?_
    show Steps p.tables e below (T27.setTop (mkF m 21 #[.val (.ref a1), .val (.double pm), .second, .unset, .unset, .unset] [(.ref a1)])) _
    exact k)
  obtain ⟨T38, X38, e38, st38⟩ := getF X27 hx hZ hown (host := "") (Or.inl (hw _ (List.mem_of_getElem? (i := 15) rfl))) Via.refl e27 F28 (g := (mkF m 21 #[.val (.ref a1), .val (.double pm), .second, .unset, .unset, .unset] [(.ref a1)])) rfl rfl (hb hby d1_21)
  have c39 : ∀ t, Steps p.tables e below (T38.setTop (mkF m 24 #[.val (.ref a1), .val (.double pm), .second, .unset, .unset, .unset] [(.int (Int32.ofNat M))])) t → Steps p.tables e below (s₁.setTop (entryFrame m #[(.ref a1), (.double pm)] 6)) t := fun t k => c37 t (st38 _ k)
  have c40 : ∀ t, Steps p.tables e below (T38.setTop (mkF m 28 #[.val (.ref a1), .val (.double pm), .second, .val (.int (Int32.ofNat M)), .val (.double FP.dconst1), .second] [])) t → Steps p.tables e below (s₁.setTop (entryFrame m #[(.ref a1), (.double pm)] 6)) t := fun t k => c39 t (by
    show Steps p.tables e below (T38.setTop (mkF m 24 #[.val (.ref a1), .val (.double pm), .second, .unset, .unset, .unset] [(.int (Int32.ofNat M))])) _
    refine XS.istoreN X38.here hx rfl (hb hby d1_24) rfl (l' := #[.val (.ref a1), .val (.double pm), .second, .val (.int (Int32.ofNat M)), .unset, .unset]) rfl ?_
    show Steps p.tables e below (T38.setTop (mkF m 25 #[.val (.ref a1), .val (.double pm), .second, .val (.int (Int32.ofNat M)), .unset, .unset] [])) _
    refine XS.dconst1 X38.here hx rfl (hb hby d1_25) rfl ?_
    show Steps p.tables e below (T38.setTop (mkF m 26 #[.val (.ref a1), .val (.double pm), .second, .val (.int (Int32.ofNat M)), .unset, .unset] [(.double FP.dconst1)])) _
    refine XS.dstore X38.here hx rfl (hb hby d1_26) rfl (l' := #[.val (.ref a1), .val (.double pm), .second, .val (.int (Int32.ofNat M)), .val (.double FP.dconst1), .second]) rfl ?_
    show Steps p.tables e below (T38.setTop (mkF m 28 #[.val (.ref a1), .val (.double pm), .second, .val (.int (Int32.ofNat M)), .val (.double FP.dconst1), .second] [])) _
    exact k)
  have LP1 : ∀ kq : Nat, kq ≤ M - F → ∀ t, Steps p.tables e below (T38.setTop (mkF m 28 #[.val (.ref a1), .val (.double pm), .second, .val (.int (Int32.ofNat (M - kq))), .val (.double (pr kq)), .second] [])) t → Steps p.tables e below (s₁.setTop (entryFrame m #[(.ref a1), (.double pm)] 6)) t := by
    intro kq
    induction kq with
    | zero => intro _; rw [hp0]; exact c40
    | succ kq ih =>
      intro hk
      have cy := ih (by omega)
      have hq := hp kq (by omega)
      obtain ⟨d35, hd35⟩ : ∃ v : UInt64, FP.i2d (Int32.ofNat (M - kq)) = v := ⟨_, rfl⟩
      obtain ⟨d37, hd37⟩ : ∃ v : UInt64, FP.ddiv d35 pm = v := ⟨_, rfl⟩
      have u37 : FP.dmul (pr kq) d37 = pr (kq + 1) := by rw [← hd37, ← hd35]; exact hq.2.1
      have n37 : Jvm.Free.Fl.NoNaN64 (FP.ddiv d35 pm) := by rw [← hd35]; exact hq.1
      obtain ⟨k46, hk46⟩ : ∃ v : Int32, cmpValue (FP.dcmp (pr (kq + 1)) (118622047889322841 : UInt64)) .g = v := ⟨_, rfl⟩
      obtain ⟨ni, hni⟩ : ∃ v : Int32, v = ((Int32.ofNat (M - kq)) + (-1 : Int32)) := ⟨_, rfl⟩
      have c41 : ∀ t, Steps p.tables e below (T38.setTop (mkF m 56 #[.val (.ref a1), .val (.double pm), .second, .val (.int ni), .val (.double (pr (kq + 1))), .second] [])) t → Steps p.tables e below (s₁.setTop (entryFrame m #[(.ref a1), (.double pm)] 6)) t := fun t k => cy t (by
        rw [hni] at k
        show Steps p.tables e below (T38.setTop (mkF m 28 #[.val (.ref a1), .val (.double pm), .second, .val (.int (Int32.ofNat (M - kq))), .val (.double (pr kq)), .second] [])) _
        refine XS.iloadN X38.here hx rfl (hb hby d1_28) rfl ?_
        show Steps p.tables e below (T38.setTop (mkF m 29 #[.val (.ref a1), .val (.double pm), .second, .val (.int (Int32.ofNat (M - kq))), .val (.double (pr kq)), .second] [(.int (Int32.ofNat (M - kq)))])) _
        refine XS.ifNo X38.here hx rfl (hb hby d1_29) rfl (XT.i0_le_f (pos_k (by omega) (by omega))) ?_
        show Steps p.tables e below (T38.setTop (mkF m 32 #[.val (.ref a1), .val (.double pm), .second, .val (.int (Int32.ofNat (M - kq))), .val (.double (pr kq)), .second] [])) _
        refine XS.dload X38.here hx rfl (hb hby d1_32) rfl ?_
        show Steps p.tables e below (T38.setTop (mkF m 34 #[.val (.ref a1), .val (.double pm), .second, .val (.int (Int32.ofNat (M - kq))), .val (.double (pr kq)), .second] [(.double (pr kq))])) _
        refine XS.iloadN X38.here hx rfl (hb hby d1_34) rfl ?_
        show Steps p.tables e below (T38.setTop (mkF m 35 #[.val (.ref a1), .val (.double pm), .second, .val (.int (Int32.ofNat (M - kq))), .val (.double (pr kq)), .second] [(.int (Int32.ofNat (M - kq))), (.double (pr kq))])) _
        refine XS.i2dS X38.here hx rfl (hb hby d1_35) rfl hd35 ?_
        show Steps p.tables e below (T38.setTop (mkF m 36 #[.val (.ref a1), .val (.double pm), .second, .val (.int (Int32.ofNat (M - kq))), .val (.double (pr kq)), .second] [(.double d35), (.double (pr kq))])) _
        refine XS.dloadN X38.here hx rfl (hb hby d1_36) rfl ?_
        show Steps p.tables e below (T38.setTop (mkF m 37 #[.val (.ref a1), .val (.double pm), .second, .val (.int (Int32.ofNat (M - kq))), .val (.double (pr kq)), .second] [(.double pm), (.double d35), (.double (pr kq))])) _
        refine XS.ddivS X38.here hx rfl (hb hby d1_37) rfl n37 hd37 ?_
        show Steps p.tables e below (T38.setTop (mkF m 38 #[.val (.ref a1), .val (.double pm), .second, .val (.int (Int32.ofNat (M - kq))), .val (.double (pr kq)), .second] [(.double d37), (.double (pr kq))])) _
        refine XS.dmulS X38.here hx rfl (hb hby d1_38) rfl (u37 ▸ hq.2.2.1) u37 ?_
        show Steps p.tables e below (T38.setTop (mkF m 39 #[.val (.ref a1), .val (.double pm), .second, .val (.int (Int32.ofNat (M - kq))), .val (.double (pr kq)), .second] [(.double (pr (kq + 1)))])) _
        refine XS.dstore X38.here hx rfl (hb hby d1_39) rfl (l' := #[.val (.ref a1), .val (.double pm), .second, .val (.int (Int32.ofNat (M - kq))), .val (.double (pr (kq + 1))), .second]) rfl ?_
        show Steps p.tables e below (T38.setTop (mkF m 41 #[.val (.ref a1), .val (.double pm), .second, .val (.int (Int32.ofNat (M - kq))), .val (.double (pr (kq + 1))), .second] [])) _
        refine XS.dload X38.here hx rfl (hb hby d1_41) rfl ?_
        show Steps p.tables e below (T38.setTop (mkF m 43 #[.val (.ref a1), .val (.double pm), .second, .val (.int (Int32.ofNat (M - kq))), .val (.double (pr (kq + 1))), .second] [(.double (pr (kq + 1)))])) _
        refine Jvm.Stand.ldc2DoubleC X38 hx hown (mvT hZ (hw _ (List.mem_of_getElem? (i := 34) rfl))) (g := (mkF m 43 #[.val (.ref a1), .val (.double pm), .second, .val (.int (Int32.ofNat (M - kq))), .val (.double (pr (kq + 1))), .second] [(.double (pr (kq + 1)))])) rfl (hb hby d1_43) _ ?_
        show Steps p.tables e below (T38.setTop (mkF m 46 #[.val (.ref a1), .val (.double pm), .second, .val (.int (Int32.ofNat (M - kq))), .val (.double (pr (kq + 1))), .second] [(.double (118622047889322841 : UInt64)), (.double (pr (kq + 1)))])) _
        refine XS.dcmpS X38.here hx rfl (hb hby d1_46) rfl hk46 ?_
        show Steps p.tables e below (T38.setTop (mkF m 47 #[.val (.ref a1), .val (.double pm), .second, .val (.int (Int32.ofNat (M - kq))), .val (.double (pr (kq + 1))), .second] [(.int k46)])) _
        refine XS.ifYes X38.here hx rfl (pc0 := 47) (pc' := 53) rfl (hb hby d1_47) rfl (XT.i0_ge_t (by rw [← hk46]; exact hq.2.2.2)) (by decide) (by decide) ?_
        show Steps p.tables e below (T38.setTop (mkF m 53 #[.val (.ref a1), .val (.double pm), .second, .val (.int (Int32.ofNat (M - kq))), .val (.double (pr (kq + 1))), .second] [])) _
        refine XS.iinc X38.here hx rfl (hb hby d1_53) rfl (l' := #[.val (.ref a1), .val (.double pm), .second, .val (.int ((Int32.ofNat (M - kq)) + (-1 : Int32))), .val (.double (pr (kq + 1))), .second]) rfl ?_
        show Steps p.tables e below (T38.setTop (mkF m 56 #[.val (.ref a1), .val (.double pm), .second, .val (.int ((Int32.ofNat (M - kq)) + (-1 : Int32))), .val (.double (pr (kq + 1))), .second] [])) _
        exact k)
      have c42 : ∀ t, Steps p.tables e below (T38.setTop (mkF m 28 #[.val (.ref a1), .val (.double pm), .second, .val (.int ni), .val (.double (pr (kq + 1))), .second] [])) t → Steps p.tables e below (s₁.setTop (entryFrame m #[(.ref a1), (.double pm)] 6)) t := fun t k => c41 t (by
        show Steps p.tables e below (T38.setTop (mkF m 56 #[.val (.ref a1), .val (.double pm), .second, .val (.int ni), .val (.double (pr (kq + 1))), .second] [])) _
        refine XS.goto X38.here hx rfl (pc0 := 56) (pc' := 28) rfl (hb hby d1_56) (by decide) (by decide) ?_
        show Steps p.tables e below (T38.setTop (mkF m 28 #[.val (.ref a1), .val (.double pm), .second, .val (.int ni), .val (.double (pr (kq + 1))), .second] [])) _
        exact k)
      have hn2 : ni = Int32.ofNat (M - (kq + 1)) := hni.trans (dec_k (by omega) hM2)
      subst hn2
      exact c42
  have EX : ∃ dx : UInt64, ∀ t, Steps p.tables e below (T38.setTop (mkF m 59 #[.val (.ref a1), .val (.double pm), .second, .val (.int (Int32.ofNat F)), .val (.double dx), .second] [])) t → Steps p.tables e below (s₁.setTop (entryFrame m #[(.ref a1), (.double pm)] 6)) t := by
    rcases hx1 with rfl | ⟨fp, hq⟩
    · have cy := LP1 M (by omega)
      rw [Nat.sub_self] at cy
      have c43 : ∀ t, Steps p.tables e below (T38.setTop (mkF m 59 #[.val (.ref a1), .val (.double pm), .second, .val (.int (Int32.ofNat 0)), .val (.double (pr M)), .second] [])) t → Steps p.tables e below (s₁.setTop (entryFrame m #[(.ref a1), (.double pm)] 6)) t := fun t k => cy t (by
        show Steps p.tables e below (T38.setTop (mkF m 28 #[.val (.ref a1), .val (.double pm), .second, .val (.int (Int32.ofNat 0)), .val (.double (pr M)), .second] [])) _
        refine XS.iloadN X38.here hx rfl (hb hby d1_28) rfl ?_
        show Steps p.tables e below (T38.setTop (mkF m 29 #[.val (.ref a1), .val (.double pm), .second, .val (.int (Int32.ofNat 0)), .val (.double (pr M)), .second] [(.int (Int32.ofNat 0))])) _
        refine XS.ifYes X38.here hx rfl (pc0 := 29) (pc' := 59) rfl (hb hby d1_29) rfl (XT.i0_le_t (by decide)) (by decide) (by decide) ?_
        show Steps p.tables e below (T38.setTop (mkF m 59 #[.val (.ref a1), .val (.double pm), .second, .val (.int (Int32.ofNat 0)), .val (.double (pr M)), .second] [])) _
        exact k)
      exact ⟨_, c43⟩
    · have cy := LP1 (M - F) (Nat.le_refl _)
      have eF : M - (M - F) = F := by omega
      rw [eF] at cy hq
      obtain ⟨d35, hd35⟩ : ∃ v : UInt64, FP.i2d (Int32.ofNat F) = v := ⟨_, rfl⟩
      obtain ⟨d37, hd37⟩ : ∃ v : UInt64, FP.ddiv d35 pm = v := ⟨_, rfl⟩
      have u37 : FP.dmul (pr (M - F)) d37 = pr ((M - F) + 1) := by rw [← hd37, ← hd35]; exact hq.2.1
      have n37 : Jvm.Free.Fl.NoNaN64 (FP.ddiv d35 pm) := by rw [← hd35]; exact hq.1
      obtain ⟨k46, hk46⟩ : ∃ v : Int32, cmpValue (FP.dcmp (pr ((M - F) + 1)) (118622047889322841 : UInt64)) .g = v := ⟨_, rfl⟩
      have c44 : ∀ t, Steps p.tables e below (T38.setTop (mkF m 59 #[.val (.ref a1), .val (.double pm), .second, .val (.int (Int32.ofNat F)), .val (.double (pr ((M - F) + 1))), .second] [])) t → Steps p.tables e below (s₁.setTop (entryFrame m #[(.ref a1), (.double pm)] 6)) t := fun t k => cy t (by
        show Steps p.tables e below (T38.setTop (mkF m 28 #[.val (.ref a1), .val (.double pm), .second, .val (.int (Int32.ofNat F)), .val (.double (pr (M - F))), .second] [])) _
        refine XS.iloadN X38.here hx rfl (hb hby d1_28) rfl ?_
        show Steps p.tables e below (T38.setTop (mkF m 29 #[.val (.ref a1), .val (.double pm), .second, .val (.int (Int32.ofNat F)), .val (.double (pr (M - F))), .second] [(.int (Int32.ofNat F))])) _
        refine XS.ifNo X38.here hx rfl (hb hby d1_29) rfl (XT.i0_le_f (pos_k fp (by omega))) ?_
        show Steps p.tables e below (T38.setTop (mkF m 32 #[.val (.ref a1), .val (.double pm), .second, .val (.int (Int32.ofNat F)), .val (.double (pr (M - F))), .second] [])) _
        refine XS.dload X38.here hx rfl (hb hby d1_32) rfl ?_
        show Steps p.tables e below (T38.setTop (mkF m 34 #[.val (.ref a1), .val (.double pm), .second, .val (.int (Int32.ofNat F)), .val (.double (pr (M - F))), .second] [(.double (pr (M - F)))])) _
        refine XS.iloadN X38.here hx rfl (hb hby d1_34) rfl ?_
        show Steps p.tables e below (T38.setTop (mkF m 35 #[.val (.ref a1), .val (.double pm), .second, .val (.int (Int32.ofNat F)), .val (.double (pr (M - F))), .second] [(.int (Int32.ofNat F)), (.double (pr (M - F)))])) _
        refine XS.i2dS X38.here hx rfl (hb hby d1_35) rfl hd35 ?_
        show Steps p.tables e below (T38.setTop (mkF m 36 #[.val (.ref a1), .val (.double pm), .second, .val (.int (Int32.ofNat F)), .val (.double (pr (M - F))), .second] [(.double d35), (.double (pr (M - F)))])) _
        refine XS.dloadN X38.here hx rfl (hb hby d1_36) rfl ?_
        show Steps p.tables e below (T38.setTop (mkF m 37 #[.val (.ref a1), .val (.double pm), .second, .val (.int (Int32.ofNat F)), .val (.double (pr (M - F))), .second] [(.double pm), (.double d35), (.double (pr (M - F)))])) _
        refine XS.ddivS X38.here hx rfl (hb hby d1_37) rfl n37 hd37 ?_
        show Steps p.tables e below (T38.setTop (mkF m 38 #[.val (.ref a1), .val (.double pm), .second, .val (.int (Int32.ofNat F)), .val (.double (pr (M - F))), .second] [(.double d37), (.double (pr (M - F)))])) _
        refine XS.dmulS X38.here hx rfl (hb hby d1_38) rfl (u37 ▸ hq.2.2.1) u37 ?_
        show Steps p.tables e below (T38.setTop (mkF m 39 #[.val (.ref a1), .val (.double pm), .second, .val (.int (Int32.ofNat F)), .val (.double (pr (M - F))), .second] [(.double (pr ((M - F) + 1)))])) _
        refine XS.dstore X38.here hx rfl (hb hby d1_39) rfl (l' := #[.val (.ref a1), .val (.double pm), .second, .val (.int (Int32.ofNat F)), .val (.double (pr ((M - F) + 1))), .second]) rfl ?_
        show Steps p.tables e below (T38.setTop (mkF m 41 #[.val (.ref a1), .val (.double pm), .second, .val (.int (Int32.ofNat F)), .val (.double (pr ((M - F) + 1))), .second] [])) _
        refine XS.dload X38.here hx rfl (hb hby d1_41) rfl ?_
        show Steps p.tables e below (T38.setTop (mkF m 43 #[.val (.ref a1), .val (.double pm), .second, .val (.int (Int32.ofNat F)), .val (.double (pr ((M - F) + 1))), .second] [(.double (pr ((M - F) + 1)))])) _
        refine Jvm.Stand.ldc2DoubleC X38 hx hown (mvT hZ (hw _ (List.mem_of_getElem? (i := 34) rfl))) (g := (mkF m 43 #[.val (.ref a1), .val (.double pm), .second, .val (.int (Int32.ofNat F)), .val (.double (pr ((M - F) + 1))), .second] [(.double (pr ((M - F) + 1)))])) rfl (hb hby d1_43) _ ?_
        show Steps p.tables e below (T38.setTop (mkF m 46 #[.val (.ref a1), .val (.double pm), .second, .val (.int (Int32.ofNat F)), .val (.double (pr ((M - F) + 1))), .second] [(.double (118622047889322841 : UInt64)), (.double (pr ((M - F) + 1)))])) _
        refine XS.dcmpS X38.here hx rfl (hb hby d1_46) rfl hk46 ?_
        show Steps p.tables e below (T38.setTop (mkF m 47 #[.val (.ref a1), .val (.double pm), .second, .val (.int (Int32.ofNat F)), .val (.double (pr ((M - F) + 1))), .second] [(.int k46)])) _
        refine XS.ifNo X38.here hx rfl (hb hby d1_47) rfl (XT.i0_ge_f (by rw [← hk46]; exact hq.2.2.2)) ?_
        show Steps p.tables e below (T38.setTop (mkF m 50 #[.val (.ref a1), .val (.double pm), .second, .val (.int (Int32.ofNat F)), .val (.double (pr ((M - F) + 1))), .second] [])) _
        refine XS.goto X38.here hx rfl (pc0 := 50) (pc' := 59) rfl (hb hby d1_50) (by decide) (by decide) ?_
        show Steps p.tables e below (T38.setTop (mkF m 59 #[.val (.ref a1), .val (.double pm), .second, .val (.int (Int32.ofNat F)), .val (.double (pr ((M - F) + 1))), .second] [])) _
        exact k)
      exact ⟨_, c44⟩
  obtain ⟨dx, cz⟩ := EX
  have c45 : ∀ t, Steps p.tables e below (T38.setTop (mkF m 61 #[.val (.ref a1), .val (.double pm), .second, .val (.int (Int32.ofNat F)), .val (.double dx), .second] [(.int (Int32.ofNat F)), (.ref a1)])) t → Steps p.tables e below (s₁.setTop (entryFrame m #[(.ref a1), (.double pm)] 6)) t := fun t k => cz t (by
    show Steps p.tables e below (T38.setTop (mkF m 59 #[.val (.ref a1), .val (.double pm), .second, .val (.int (Int32.ofNat F)), .val (.double dx), .second] [])) _
    refine XS.aloadN X38.here hx rfl (hb hby d1_59) rfl rfl ?_
    show Steps p.tables e below (T38.setTop (mkF m 60 #[.val (.ref a1), .val (.double pm), .second, .val (.int (Int32.ofNat F)), .val (.double dx), .second] [(.ref a1)])) _
    refine XS.iloadN X38.here hx rfl (hb hby d1_60) rfl ?_
    show Steps p.tables e below (T38.setTop (mkF m 61 #[.val (.ref a1), .val (.double pm), .second, .val (.int (Int32.ofNat F)), .val (.double dx), .second] [(.int (Int32.ofNat F)), (.ref a1)])) _
    exact k)
  obtain ⟨T46, h46, X46, e46, W46, st46⟩ := putF X38 hx hZ hown (host := "") (Or.inl (hw _ (List.mem_of_getElem? (i := 17) rfl))) Via.refl e38 F32 F29 (Or.inr ⟨(hw _ (List.mem_of_getElem? (i := 18) rfl)), rfl, hnaM⟩) (hw _ (List.mem_of_getElem? (i := 3) rfl)) (ty := .int) (by decide) rfl rfl (g := (mkF m 61 #[.val (.ref a1), .val (.double pm), .second, .val (.int (Int32.ofNat F)), .val (.double dx), .second] [(.int (Int32.ofNat F)), (.ref a1)])) rfl rfl (hb hby d1_61)
  have F47 : Fld Z h46 a1 "com/example/topple/topple/markov/PoissonWeights" "fewest" "I" (.int (Int32.ofNat F)) := F32.same W46
  have F48 : Exa Z h46 a1 "com/example/topple/topple/markov/PoissonWeights" := (F29.wr W46)
  have F49 : Fld Z h46 a1 "com/example/topple/topple/markov/PoissonWeights" "count" "I" (.int (-1 : Int32)) := (F30.other W46 (Or.inr (slot_ne (Or.inl (hw _ (List.mem_of_getElem? (i := 12) rfl))) (Or.inr (hw _ (List.mem_of_getElem? (i := 18) rfl))) (by decide) (t := .int) (t' := .int) (by decide) (by decide))))
  have F50 : Fld Z h46 a1 "com/example/topple/topple/markov/PoissonWeights" "mean" "D" (.double pm) := (F31.other W46 (Or.inr (slot_ne (Or.inr (hw _ (List.mem_of_getElem? (i := 14) rfl))) (Or.inr (hw _ (List.mem_of_getElem? (i := 18) rfl))) (by decide) (t := .double) (t' := .int) (by decide) (by decide))))
  have F51 : Fld Z h46 a1 "com/example/topple/topple/markov/PoissonWeights" "mode" "I" (.int (Int32.ofNat M)) := (F28.other W46 (Or.inr (slot_ne (Or.inr (hw _ (List.mem_of_getElem? (i := 16) rfl))) (Or.inr (hw _ (List.mem_of_getElem? (i := 18) rfl))) (by decide) (t := .int) (t' := .int) (by decide) (by decide))))
  have F52 : Fld Z h46 a1 "com/example/topple/topple/markov/PoissonWeights" "toMode" "[D" .null := (F33.other W46 (Or.inr (slot_ne (Or.inr (hw _ (List.mem_of_getElem? (i := 21) rfl))) (Or.inr (hw _ (List.mem_of_getElem? (i := 18) rfl))) (by decide) (t := (.array .double)) (t' := .int) (by decide) (by decide))))
  have F53 : Fld Z h46 a1 "com/example/topple/topple/markov/PoissonWeights" "weight" "D" (.double (0 : UInt64)) := (F34.other W46 (Or.inr (slot_ne (Or.inl (hw _ (List.mem_of_getElem? (i := 28) rfl))) (Or.inr (hw _ (List.mem_of_getElem? (i := 18) rfl))) (by decide) (t := .double) (t' := .int) (by decide) (by decide))))
  have N46 := Fr.snoc X46 N27 g_a1
  have K54 : Keep h0 h46 [a1] := K35.wr W46 (Or.inl (List.mem_of_getElem? (i := 0) rfl))
  have c55 : ∀ t, Steps p.tables e below (T46.setTop (mkF m 64 #[.val (.ref a1), .val (.double pm), .second, .val (.int (Int32.ofNat F)), .val (.double dx), .second] [])) t → Steps p.tables e below (s₁.setTop (entryFrame m #[(.ref a1), (.double pm)] 6)) t := fun t k => c45 t (st46 _ k)
  have c56 : ∀ t, Steps p.tables e below (T46.setTop (mkF m 66 #[.val (.ref a1), .val (.double pm), .second, .val (.int (Int32.ofNat F)), .val (.double dx), .second] [(.ref a1), (.ref a1)])) t → Steps p.tables e below (s₁.setTop (entryFrame m #[(.ref a1), (.double pm)] 6)) t := fun t k => c55 t (by
    show Steps p.tables e below (T46.setTop (mkF m 64 #[.val (.ref a1), .val (.double pm), .second, .val (.int (Int32.ofNat F)), .val (.double dx), .second] [])) _
    refine XS.aloadN X46.here hx rfl (hb hby d1_64) rfl rfl ?_
    show Steps p.tables e below (T46.setTop (mkF m 65 #[.val (.ref a1), .val (.double pm), .second, .val (.int (Int32.ofNat F)), .val (.double dx), .second] [(.ref a1)])) _
    refine XS.aloadN X46.here hx rfl (hb hby d1_65) rfl rfl ?_
    show Steps p.tables e below (T46.setTop (mkF m 66 #[.val (.ref a1), .val (.double pm), .second, .val (.int (Int32.ofNat F)), .val (.double dx), .second] [(.ref a1), (.ref a1)])) _
    exact k)
  obtain ⟨T57, X57, e57, st57⟩ := getF X46 hx hZ hown (host := "") (Or.inl (hw _ (List.mem_of_getElem? (i := 15) rfl))) Via.refl e46 F51 (g := (mkF m 66 #[.val (.ref a1), .val (.double pm), .second, .val (.int (Int32.ofNat F)), .val (.double dx), .second] [(.ref a1), (.ref a1)])) rfl rfl (hb hby d1_66)
  have c58 : ∀ t, Steps p.tables e below (T57.setTop (mkF m 69 #[.val (.ref a1), .val (.double pm), .second, .val (.int (Int32.ofNat F)), .val (.double dx), .second] [(.int (Int32.ofNat M)), (.ref a1)])) t → Steps p.tables e below (s₁.setTop (entryFrame m #[(.ref a1), (.double pm)] 6)) t := fun t k => c56 t (st57 _ k)
  have lz := len_k hF hM2
  have c59 : ∀ t, Steps p.tables e below (T57.setTop (mkF m 73 #[.val (.ref a1), .val (.double pm), .second, .val (.int (Int32.ofNat F)), .val (.double dx), .second] [(.int (((Int32.ofNat M) - (Int32.ofNat F)) + (1 : Int32))), (.ref a1)])) t → Steps p.tables e below (s₁.setTop (entryFrame m #[(.ref a1), (.double pm)] 6)) t := fun t k => c58 t (by
    show Steps p.tables e below (T57.setTop (mkF m 69 #[.val (.ref a1), .val (.double pm), .second, .val (.int (Int32.ofNat F)), .val (.double dx), .second] [(.int (Int32.ofNat M)), (.ref a1)])) _
    refine XS.iloadN X57.here hx rfl (hb hby d1_69) rfl ?_
    show Steps p.tables e below (T57.setTop (mkF m 70 #[.val (.ref a1), .val (.double pm), .second, .val (.int (Int32.ofNat F)), .val (.double dx), .second] [(.int (Int32.ofNat F)), (.int (Int32.ofNat M)), (.ref a1)])) _
    refine XS.isub X57.here hx rfl (hb hby d1_70) rfl ?_
    show Steps p.tables e below (T57.setTop (mkF m 71 #[.val (.ref a1), .val (.double pm), .second, .val (.int (Int32.ofNat F)), .val (.double dx), .second] [(.int ((Int32.ofNat M) - (Int32.ofNat F))), (.ref a1)])) _
    refine XS.iconst X57.here hx rfl (hb hby d1_71) ?_
    show Steps p.tables e below (T57.setTop (mkF m 72 #[.val (.ref a1), .val (.double pm), .second, .val (.int (Int32.ofNat F)), .val (.double dx), .second] [(.int (1 : Int32)), (.int ((Int32.ofNat M) - (Int32.ofNat F))), (.ref a1)])) _
    refine XS.iadd X57.here hx rfl (hb hby d1_72) rfl ?_
    show Steps p.tables e below (T57.setTop (mkF m 73 #[.val (.ref a1), .val (.double pm), .second, .val (.int (Int32.ofNat F)), .val (.double dx), .second] [(.int (((Int32.ofNat M) - (Int32.ofNat F)) + (1 : Int32))), (.ref a1)])) _
    exact k)
  obtain ⟨T60, h60, kA60, X60, e60, E60, A60, st60⟩ := newP X57 hx hZ (hw _ (List.mem_of_getElem? (i := 19) rfl)) e57 (g := (mkF m 73 #[.val (.ref a1), .val (.double pm), .second, .val (.int (Int32.ofNat F)), .val (.double dx), .second] [(.int (((Int32.ofNat M) - (Int32.ofNat F)) + (1 : Int32))), (.ref a1)])) rfl (hb hby d1_73) rfl (by rw [Int32.lt_iff_toInt_lt, lz, Int32.toInt_zero]; omega) (cap := 8) (by rw [Int32.toNatClampNeg, lz]; omega) (by decide) (by decide) (by decide)
  obtain ⟨ta, g60⟩ : ∃ z, z = h46.size := ⟨_, rfl⟩
  rw [← g60] at A60 st60
  have F61 : Exa Z h60 a1 "com/example/topple/topple/markov/PoissonWeights" := (F48.ext E60)
  have F62 : Fld Z h60 a1 "com/example/topple/topple/markov/PoissonWeights" "count" "I" (.int (-1 : Int32)) := (F49.ext E60)
  have F63 : Fld Z h60 a1 "com/example/topple/topple/markov/PoissonWeights" "mean" "D" (.double pm) := (F50.ext E60)
  have F64 : Fld Z h60 a1 "com/example/topple/topple/markov/PoissonWeights" "mode" "I" (.int (Int32.ofNat M)) := (F51.ext E60)
  have F65 : Fld Z h60 a1 "com/example/topple/topple/markov/PoissonWeights" "fewest" "I" (.int (Int32.ofNat F)) := (F47.ext E60)
  have F66 : Fld Z h60 a1 "com/example/topple/topple/markov/PoissonWeights" "toMode" "[D" .null := (F52.ext E60)
  have F67 : Fld Z h60 a1 "com/example/topple/topple/markov/PoissonWeights" "weight" "D" (.double (0 : UInt64)) := (F53.ext E60)
  have F68 : OwnArr.Ag Z h60 ta .double (M - F + 1) (fun _ => (.double (0 : UInt64))) := (OwnArr.Ag.new A60 lz)
  have K69 : Keep h0 h60 [a1] := K54.ext E60
  have c70 : ∀ t, Steps p.tables e below (T60.setTop (mkF m 75 #[.val (.ref a1), .val (.double pm), .second, .val (.int (Int32.ofNat F)), .val (.double dx), .second] [(.ref ta), (.ref a1)])) t → Steps p.tables e below (s₁.setTop (entryFrame m #[(.ref a1), (.double pm)] 6)) t := fun t k => c59 t (st60 _ k)
  obtain ⟨T71, h71, X71, e71, W71, st71⟩ := putF X60 hx hZ hown (host := "") (Or.inl (hw _ (List.mem_of_getElem? (i := 20) rfl))) Via.refl e60 F66 F61 (Or.inr ⟨(hw _ (List.mem_of_getElem? (i := 21) rfl)), rfl, hnaM⟩) (hw _ (List.mem_of_getElem? (i := 3) rfl)) (ty := (.array .double)) (by decide) rfl rfl (g := (mkF m 75 #[.val (.ref a1), .val (.double pm), .second, .val (.int (Int32.ofNat F)), .val (.double dx), .second] [(.ref ta), (.ref a1)])) rfl rfl (hb hby d1_75)
  have F72 : Fld Z h71 a1 "com/example/topple/topple/markov/PoissonWeights" "toMode" "[D" (.ref ta) := F66.same W71
  have F73 : Exa Z h71 a1 "com/example/topple/topple/markov/PoissonWeights" := (F61.wr W71)
  have F74 : Fld Z h71 a1 "com/example/topple/topple/markov/PoissonWeights" "count" "I" (.int (-1 : Int32)) := (F62.other W71 (Or.inr (slot_ne (Or.inl (hw _ (List.mem_of_getElem? (i := 12) rfl))) (Or.inr (hw _ (List.mem_of_getElem? (i := 21) rfl))) (by decide) (t := .int) (t' := (.array .double)) (by decide) (by decide))))
  have F75 : Fld Z h71 a1 "com/example/topple/topple/markov/PoissonWeights" "mean" "D" (.double pm) := (F63.other W71 (Or.inr (slot_ne (Or.inr (hw _ (List.mem_of_getElem? (i := 14) rfl))) (Or.inr (hw _ (List.mem_of_getElem? (i := 21) rfl))) (by decide) (t := .double) (t' := (.array .double)) (by decide) (by decide))))
  have F76 : Fld Z h71 a1 "com/example/topple/topple/markov/PoissonWeights" "mode" "I" (.int (Int32.ofNat M)) := (F64.other W71 (Or.inr (slot_ne (Or.inr (hw _ (List.mem_of_getElem? (i := 16) rfl))) (Or.inr (hw _ (List.mem_of_getElem? (i := 21) rfl))) (by decide) (t := .int) (t' := (.array .double)) (by decide) (by decide))))
  have F77 : Fld Z h71 a1 "com/example/topple/topple/markov/PoissonWeights" "fewest" "I" (.int (Int32.ofNat F)) := (F65.other W71 (Or.inr (slot_ne (Or.inr (hw _ (List.mem_of_getElem? (i := 18) rfl))) (Or.inr (hw _ (List.mem_of_getElem? (i := 21) rfl))) (by decide) (t := .int) (t' := (.array .double)) (by decide) (by decide))))
  have F78 : Fld Z h71 a1 "com/example/topple/topple/markov/PoissonWeights" "weight" "D" (.double (0 : UInt64)) := (F67.other W71 (Or.inr (slot_ne (Or.inl (hw _ (List.mem_of_getElem? (i := 28) rfl))) (Or.inr (hw _ (List.mem_of_getElem? (i := 21) rfl))) (by decide) (t := .double) (t' := (.array .double)) (by decide) (by decide))))
  have F79 : OwnArr.Ag Z h71 ta .double (M - F + 1) (fun _ => (.double (0 : UInt64))) := (F68.other W71 (Ne.symm (Nat.ne_of_lt (Nat.lt_of_lt_of_le F48.lt (Nat.le_of_eq g60.symm)))))
  have N71 := Fr.snoc X71 N46 g_a1
  have K80 : Keep h0 h71 [a1] := K69.wr W71 (Or.inl (List.mem_of_getElem? (i := 0) rfl))
  have c81 : ∀ t, Steps p.tables e below (T71.setTop (mkF m 78 #[.val (.ref a1), .val (.double pm), .second, .val (.int (Int32.ofNat F)), .val (.double dx), .second] [])) t → Steps p.tables e below (s₁.setTop (entryFrame m #[(.ref a1), (.double pm)] 6)) t := fun t k => c70 t (st71 _ k)
  have c82 : ∀ t, Steps p.tables e below (T71.setTop (mkF m 79 #[.val (.ref a1), .val (.double pm), .second, .val (.int (Int32.ofNat F)), .val (.double dx), .second] [(.ref a1)])) t → Steps p.tables e below (s₁.setTop (entryFrame m #[(.ref a1), (.double pm)] 6)) t := fun t k => c81 t (by
    show Steps p.tables e below (T71.setTop (mkF m 78 #[.val (.ref a1), .val (.double pm), .second, .val (.int (Int32.ofNat F)), .val (.double dx), .second] [])) _
    refine XS.aloadN X71.here hx rfl (hb hby d1_78) rfl rfl ?_
    show Steps p.tables e below (T71.setTop (mkF m 79 #[.val (.ref a1), .val (.double pm), .second, .val (.int (Int32.ofNat F)), .val (.double dx), .second] [(.ref a1)])) _
    exact k)
  obtain ⟨T83, X83, e83, st83⟩ := getF X71 hx hZ hown (host := "") (Or.inl (hw _ (List.mem_of_getElem? (i := 20) rfl))) Via.refl e71 F72 (g := (mkF m 79 #[.val (.ref a1), .val (.double pm), .second, .val (.int (Int32.ofNat F)), .val (.double dx), .second] [(.ref a1)])) rfl rfl (hb hby d1_79)
  have c84 : ∀ t, Steps p.tables e below (T83.setTop (mkF m 82 #[.val (.ref a1), .val (.double pm), .second, .val (.int (Int32.ofNat F)), .val (.double dx), .second] [(.ref ta)])) t → Steps p.tables e below (s₁.setTop (entryFrame m #[(.ref a1), (.double pm)] 6)) t := fun t k => c82 t (st83 _ k)
  have c85 : ∀ t, Steps p.tables e below (T83.setTop (mkF m 83 #[.val (.ref a1), .val (.double pm), .second, .val (.int (Int32.ofNat F)), .val (.double dx), .second] [(.ref a1), (.ref ta)])) t → Steps p.tables e below (s₁.setTop (entryFrame m #[(.ref a1), (.double pm)] 6)) t := fun t k => c84 t (by
    show Steps p.tables e below (T83.setTop (mkF m 82 #[.val (.ref a1), .val (.double pm), .second, .val (.int (Int32.ofNat F)), .val (.double dx), .second] [(.ref ta)])) _
    refine XS.aloadN X83.here hx rfl (hb hby d1_82) rfl rfl ?_
    show Steps p.tables e below (T83.setTop (mkF m 83 #[.val (.ref a1), .val (.double pm), .second, .val (.int (Int32.ofNat F)), .val (.double dx), .second] [(.ref a1), (.ref ta)])) _
    exact k)
  obtain ⟨T86, X86, e86, st86⟩ := getF X83 hx hZ hown (host := "") (Or.inl (hw _ (List.mem_of_getElem? (i := 15) rfl))) Via.refl e83 F76 (g := (mkF m 83 #[.val (.ref a1), .val (.double pm), .second, .val (.int (Int32.ofNat F)), .val (.double dx), .second] [(.ref a1), (.ref ta)])) rfl rfl (hb hby d1_83)
  have c87 : ∀ t, Steps p.tables e below (T86.setTop (mkF m 86 #[.val (.ref a1), .val (.double pm), .second, .val (.int (Int32.ofNat F)), .val (.double dx), .second] [(.int (Int32.ofNat M)), (.ref ta)])) t → Steps p.tables e below (s₁.setTop (entryFrame m #[(.ref a1), (.double pm)] 6)) t := fun t k => c85 t (st86 _ k)
  have c88 : ∀ t, Steps p.tables e below (T86.setTop (mkF m 89 #[.val (.ref a1), .val (.double pm), .second, .val (.int (Int32.ofNat F)), .val (.double dx), .second] [(.double FP.dconst1), (.int ((Int32.ofNat M) - (Int32.ofNat F))), (.ref ta)])) t → Steps p.tables e below (s₁.setTop (entryFrame m #[(.ref a1), (.double pm)] 6)) t := fun t k => c87 t (by
    show Steps p.tables e below (T86.setTop (mkF m 86 #[.val (.ref a1), .val (.double pm), .second, .val (.int (Int32.ofNat F)), .val (.double dx), .second] [(.int (Int32.ofNat M)), (.ref ta)])) _
    refine XS.iloadN X86.here hx rfl (hb hby d1_86) rfl ?_
    show Steps p.tables e below (T86.setTop (mkF m 87 #[.val (.ref a1), .val (.double pm), .second, .val (.int (Int32.ofNat F)), .val (.double dx), .second] [(.int (Int32.ofNat F)), (.int (Int32.ofNat M)), (.ref ta)])) _
    refine XS.isub X86.here hx rfl (hb hby d1_87) rfl ?_
    show Steps p.tables e below (T86.setTop (mkF m 88 #[.val (.ref a1), .val (.double pm), .second, .val (.int (Int32.ofNat F)), .val (.double dx), .second] [(.int ((Int32.ofNat M) - (Int32.ofNat F))), (.ref ta)])) _
    refine XS.dconst1 X86.here hx rfl (hb hby d1_88) rfl ?_
    show Steps p.tables e below (T86.setTop (mkF m 89 #[.val (.ref a1), .val (.double pm), .second, .val (.int (Int32.ofNat F)), .val (.double dx), .second] [(.double FP.dconst1), (.int ((Int32.ofNat M) - (Int32.ofNat F))), (.ref ta)])) _
    exact k)
  obtain ⟨T89, h89, X89, e89, W89, st89⟩ := OwnArr.stDA X86 hx hZ e86 F79 (j := ((Int32.ofNat M) - (Int32.ofNat F))) (J := (M - F)) (sub_k hF hM2) (by omega) (g := (mkF m 89 #[.val (.ref a1), .val (.double pm), .second, .val (.int (Int32.ofNat F)), .val (.double dx), .second] [(.double FP.dconst1), (.int ((Int32.ofNat M) - (Int32.ofNat F))), (.ref ta)])) rfl rfl (hb hby d1_89)
  have F90 : OwnArr.Ag Z h89 ta .double (M - F + 1) (fun i => if i = (M - F) then (.double FP.dconst1) else (fun _ => (.double (0 : UInt64))) i) := (F79.set W89)
  have F91 : Exa Z h89 a1 "com/example/topple/topple/markov/PoissonWeights" := (F73.wr W89)
  have F92 : Fld Z h89 a1 "com/example/topple/topple/markov/PoissonWeights" "count" "I" (.int (-1 : Int32)) := (F74.other W89 (Or.inl (Nat.ne_of_lt (Nat.lt_of_lt_of_le F48.lt (Nat.le_of_eq g60.symm)))))
  have F93 : Fld Z h89 a1 "com/example/topple/topple/markov/PoissonWeights" "mean" "D" (.double pm) := (F75.other W89 (Or.inl (Nat.ne_of_lt (Nat.lt_of_lt_of_le F48.lt (Nat.le_of_eq g60.symm)))))
  have F94 : Fld Z h89 a1 "com/example/topple/topple/markov/PoissonWeights" "mode" "I" (.int (Int32.ofNat M)) := (F76.other W89 (Or.inl (Nat.ne_of_lt (Nat.lt_of_lt_of_le F48.lt (Nat.le_of_eq g60.symm)))))
  have F95 : Fld Z h89 a1 "com/example/topple/topple/markov/PoissonWeights" "fewest" "I" (.int (Int32.ofNat F)) := (F77.other W89 (Or.inl (Nat.ne_of_lt (Nat.lt_of_lt_of_le F48.lt (Nat.le_of_eq g60.symm)))))
  have F96 : Fld Z h89 a1 "com/example/topple/topple/markov/PoissonWeights" "toMode" "[D" (.ref ta) := (F72.other W89 (Or.inl (Nat.ne_of_lt (Nat.lt_of_lt_of_le F48.lt (Nat.le_of_eq g60.symm)))))
  have F97 : Fld Z h89 a1 "com/example/topple/topple/markov/PoissonWeights" "weight" "D" (.double (0 : UInt64)) := (F78.other W89 (Or.inl (Nat.ne_of_lt (Nat.lt_of_lt_of_le F48.lt (Nat.le_of_eq g60.symm)))))
  have N89 := Fr.snoc X89 N71 (Nat.le_trans (Nat.le_trans (Nat.le_trans (Nat.le_trans (Nat.le_trans Z0 (Keep.of_wr W5).1) (Keep.of_wr W16).1) (Keep.of_wr W27).1) (Keep.of_wr W46).1) (Nat.le_of_eq g60.symm))
  have K98 : Keep h0 h89 [a1] := K80.wr W89 (Or.inr (Nat.le_trans K54.1 (Nat.le_of_eq g60.symm)))
  have c99 : ∀ t, Steps p.tables e below (T89.setTop (mkF m 90 #[.val (.ref a1), .val (.double pm), .second, .val (.int (Int32.ofNat F)), .val (.double dx), .second] [])) t → Steps p.tables e below (s₁.setTop (entryFrame m #[(.ref a1), (.double pm)] 6)) t := fun t k => c88 t (st89 _ k)
  have c100 : ∀ t, Steps p.tables e below (T89.setTop (mkF m 91 #[.val (.ref a1), .val (.double pm), .second, .val (.int (Int32.ofNat F)), .val (.double dx), .second] [(.ref a1)])) t → Steps p.tables e below (s₁.setTop (entryFrame m #[(.ref a1), (.double pm)] 6)) t := fun t k => c99 t (by
    show Steps p.tables e below (T89.setTop (mkF m 90 #[.val (.ref a1), .val (.double pm), .second, .val (.int (Int32.ofNat F)), .val (.double dx), .second] [])) _
    refine XS.aloadN X89.here hx rfl (hb hby d1_90) rfl rfl ?_
    show Steps p.tables e below (T89.setTop (mkF m 91 #[.val (.ref a1), .val (.double pm), .second, .val (.int (Int32.ofNat F)), .val (.double dx), .second] [(.ref a1)])) _
    exact k)
  obtain ⟨T101, X101, e101, st101⟩ := getF X89 hx hZ hown (host := "") (Or.inl (hw _ (List.mem_of_getElem? (i := 15) rfl))) Via.refl e89 F94 (g := (mkF m 91 #[.val (.ref a1), .val (.double pm), .second, .val (.int (Int32.ofNat F)), .val (.double dx), .second] [(.ref a1)])) rfl rfl (hb hby d1_91)
  have c102 : ∀ t, Steps p.tables e below (T101.setTop (mkF m 94 #[.val (.ref a1), .val (.double pm), .second, .val (.int (Int32.ofNat F)), .val (.double dx), .second] [(.int (Int32.ofNat M))])) t → Steps p.tables e below (s₁.setTop (entryFrame m #[(.ref a1), (.double pm)] 6)) t := fun t k => c100 t (st101 _ k)
  have c103 : ∀ t, Steps p.tables e below (T101.setTop (mkF m 96 #[.val (.ref a1), .val (.double pm), .second, .val (.int (Int32.ofNat F)), .val (.int (Int32.ofNat M)), .unset] [])) t → Steps p.tables e below (s₁.setTop (entryFrame m #[(.ref a1), (.double pm)] 6)) t := fun t k => c102 t (by
    show Steps p.tables e below (T101.setTop (mkF m 94 #[.val (.ref a1), .val (.double pm), .second, .val (.int (Int32.ofNat F)), .val (.double dx), .second] [(.int (Int32.ofNat M))])) _
    refine XS.istore X101.here hx rfl (hb hby d1_94) rfl (l' := #[.val (.ref a1), .val (.double pm), .second, .val (.int (Int32.ofNat F)), .val (.int (Int32.ofNat M)), .unset]) rfl ?_
    show Steps p.tables e below (T101.setTop (mkF m 96 #[.val (.ref a1), .val (.double pm), .second, .val (.int (Int32.ofNat F)), .val (.int (Int32.ofNat M)), .unset] [])) _
    exact k)
  have LP2 : ∀ kq : Nat, kq ≤ M - F → ∃ (T7 : State) (h7 : Heap) (L7 : List Loc), Stand p l e ({ frames := 1, cells := 1, slots := 8, locals := 20 } : Room) s m #[(.ref a1), (.double pm)] below meth c T7 L7 1 8 ∧ T7.heap = h7 ∧ Fr n0 L7 ∧ Keep h0 h7 [a1] ∧ n0 ≤ h7.size ∧ Exa Z h7 a1 "com/example/topple/topple/markov/PoissonWeights" ∧ Fld Z h7 a1 "com/example/topple/topple/markov/PoissonWeights" "count" "I" (.int (-1 : Int32)) ∧ Fld Z h7 a1 "com/example/topple/topple/markov/PoissonWeights" "mean" "D" (.double pm) ∧ Fld Z h7 a1 "com/example/topple/topple/markov/PoissonWeights" "mode" "I" (.int (Int32.ofNat M)) ∧ Fld Z h7 a1 "com/example/topple/topple/markov/PoissonWeights" "fewest" "I" (.int (Int32.ofNat F)) ∧ Fld Z h7 a1 "com/example/topple/topple/markov/PoissonWeights" "toMode" "[D" (.ref ta) ∧ Fld Z h7 a1 "com/example/topple/topple/markov/PoissonWeights" "weight" "D" (.double (0 : UInt64)) ∧ OwnArr.Ag Z h7 ta .double (M - F + 1) (fun i => .double (if M - F ≤ i + kq then tm (M - F - i) else 0)) ∧ ∀ t, Steps p.tables e below (T7.setTop (mkF m 96 #[.val (.ref a1), .val (.double pm), .second, .val (.int (Int32.ofNat F)), .val (.int (Int32.ofNat (M - kq))), .unset] [])) t → Steps p.tables e below (s₁.setTop (entryFrame m #[(.ref a1), (.double pm)] 6)) t := by
    intro kq
    induction kq with
    | zero =>
      intro _
      refine ⟨T101, h89, _, X101, e101, N89, K98, (Nat.le_trans (Nat.le_trans (Nat.le_trans (Nat.le_trans (Nat.le_trans (Nat.le_trans (Nat.le_trans Z0 (Keep.of_wr W5).1) (Keep.of_wr W16).1) (Keep.of_wr W27).1) (Keep.of_wr W46).1) E60.1) (Keep.of_wr W71).1) (Keep.of_wr W89).1), F91, F92, F93, F94, F95, F96, F97, F90.congr (fun j hj => ?_), c103⟩
      by_cases q : j = M - F
      · show (if j = (M - F) then _ else _) = _
        rw [if_pos q, if_pos (by omega), q, Nat.sub_self, ht0]
      · show (if j = (M - F) then _ else _) = _
        rw [if_neg q, if_neg (by omega)]
    | succ kq ih =>
      intro hk
      obtain ⟨T7, h7, L7, X7, e7, N7, K7, Z7, E7, G7_0, G7_1, G7_2, G7_3, G7_4, G7_5, A7, cy⟩ := ih (by omega)
      clear ih
      have hq := ht kq (by omega)
      have c104 : ∀ t, Steps p.tables e below (T7.setTop (mkF m 103 #[.val (.ref a1), .val (.double pm), .second, .val (.int (Int32.ofNat F)), .val (.int (Int32.ofNat (M - kq))), .unset] [(.ref a1)])) t → Steps p.tables e below (s₁.setTop (entryFrame m #[(.ref a1), (.double pm)] 6)) t := fun t k => cy t (by
        show Steps p.tables e below (T7.setTop (mkF m 96 #[.val (.ref a1), .val (.double pm), .second, .val (.int (Int32.ofNat F)), .val (.int (Int32.ofNat (M - kq))), .unset] [])) _
        refine XS.iload X7.here hx rfl (hb hby d1_96) rfl ?_
        show Steps p.tables e below (T7.setTop (mkF m 98 #[.val (.ref a1), .val (.double pm), .second, .val (.int (Int32.ofNat F)), .val (.int (Int32.ofNat (M - kq))), .unset] [(.int (Int32.ofNat (M - kq)))])) _
        refine XS.iloadN X7.here hx rfl (hb hby d1_98) rfl ?_
        show Steps p.tables e below (T7.setTop (mkF m 99 #[.val (.ref a1), .val (.double pm), .second, .val (.int (Int32.ofNat F)), .val (.int (Int32.ofNat (M - kq))), .unset] [(.int (Int32.ofNat F)), (.int (Int32.ofNat (M - kq)))])) _
        refine XS.icmpNo X7.here hx rfl (hb hby d1_99) rfl (XT.ii_le_f ((lt_k (by omega) (by omega)).mpr (by omega))) ?_
        show Steps p.tables e below (T7.setTop (mkF m 102 #[.val (.ref a1), .val (.double pm), .second, .val (.int (Int32.ofNat F)), .val (.int (Int32.ofNat (M - kq))), .unset] [])) _
        refine XS.aloadN X7.here hx rfl (hb hby d1_102) rfl rfl ?_
        show Steps p.tables e below (T7.setTop (mkF m 103 #[.val (.ref a1), .val (.double pm), .second, .val (.int (Int32.ofNat F)), .val (.int (Int32.ofNat (M - kq))), .unset] [(.ref a1)])) _
        exact k)
      obtain ⟨T105, X105, e105, st105⟩ := getF X7 hx hZ hown (host := "") (Or.inl (hw _ (List.mem_of_getElem? (i := 20) rfl))) Via.refl e7 G7_4 (g := (mkF m 103 #[.val (.ref a1), .val (.double pm), .second, .val (.int (Int32.ofNat F)), .val (.int (Int32.ofNat (M - kq))), .unset] [(.ref a1)])) rfl rfl (hb hby d1_103)
      have c106 : ∀ t, Steps p.tables e below (T105.setTop (mkF m 106 #[.val (.ref a1), .val (.double pm), .second, .val (.int (Int32.ofNat F)), .val (.int (Int32.ofNat (M - kq))), .unset] [(.ref ta)])) t → Steps p.tables e below (s₁.setTop (entryFrame m #[(.ref a1), (.double pm)] 6)) t := fun t k => c104 t (st105 _ k)
      have c107 : ∀ t, Steps p.tables e below (T105.setTop (mkF m 113 #[.val (.ref a1), .val (.double pm), .second, .val (.int (Int32.ofNat F)), .val (.int (Int32.ofNat (M - kq))), .unset] [(.ref a1), (.int (((Int32.ofNat (M - kq)) - (1 : Int32)) - (Int32.ofNat F))), (.ref ta)])) t → Steps p.tables e below (s₁.setTop (entryFrame m #[(.ref a1), (.double pm)] 6)) t := fun t k => c106 t (by
        show Steps p.tables e below (T105.setTop (mkF m 106 #[.val (.ref a1), .val (.double pm), .second, .val (.int (Int32.ofNat F)), .val (.int (Int32.ofNat (M - kq))), .unset] [(.ref ta)])) _
        refine XS.iload X105.here hx rfl (hb hby d1_106) rfl ?_
        show Steps p.tables e below (T105.setTop (mkF m 108 #[.val (.ref a1), .val (.double pm), .second, .val (.int (Int32.ofNat F)), .val (.int (Int32.ofNat (M - kq))), .unset] [(.int (Int32.ofNat (M - kq))), (.ref ta)])) _
        refine XS.iconst X105.here hx rfl (hb hby d1_108) ?_
        show Steps p.tables e below (T105.setTop (mkF m 109 #[.val (.ref a1), .val (.double pm), .second, .val (.int (Int32.ofNat F)), .val (.int (Int32.ofNat (M - kq))), .unset] [(.int (1 : Int32)), (.int (Int32.ofNat (M - kq))), (.ref ta)])) _
        refine XS.isub X105.here hx rfl (hb hby d1_109) rfl ?_
        show Steps p.tables e below (T105.setTop (mkF m 110 #[.val (.ref a1), .val (.double pm), .second, .val (.int (Int32.ofNat F)), .val (.int (Int32.ofNat (M - kq))), .unset] [(.int ((Int32.ofNat (M - kq)) - (1 : Int32))), (.ref ta)])) _
        refine XS.iloadN X105.here hx rfl (hb hby d1_110) rfl ?_
        show Steps p.tables e below (T105.setTop (mkF m 111 #[.val (.ref a1), .val (.double pm), .second, .val (.int (Int32.ofNat F)), .val (.int (Int32.ofNat (M - kq))), .unset] [(.int (Int32.ofNat F)), (.int ((Int32.ofNat (M - kq)) - (1 : Int32))), (.ref ta)])) _
        refine XS.isub X105.here hx rfl (hb hby d1_111) rfl ?_
        show Steps p.tables e below (T105.setTop (mkF m 112 #[.val (.ref a1), .val (.double pm), .second, .val (.int (Int32.ofNat F)), .val (.int (Int32.ofNat (M - kq))), .unset] [(.int (((Int32.ofNat (M - kq)) - (1 : Int32)) - (Int32.ofNat F))), (.ref ta)])) _
        refine XS.aloadN X105.here hx rfl (hb hby d1_112) rfl rfl ?_
        show Steps p.tables e below (T105.setTop (mkF m 113 #[.val (.ref a1), .val (.double pm), .second, .val (.int (Int32.ofNat F)), .val (.int (Int32.ofNat (M - kq))), .unset] [(.ref a1), (.int (((Int32.ofNat (M - kq)) - (1 : Int32)) - (Int32.ofNat F))), (.ref ta)])) _
        exact k)
      obtain ⟨T108, X108, e108, st108⟩ := getF X105 hx hZ hown (host := "") (Or.inl (hw _ (List.mem_of_getElem? (i := 20) rfl))) Via.refl e105 G7_4 (g := (mkF m 113 #[.val (.ref a1), .val (.double pm), .second, .val (.int (Int32.ofNat F)), .val (.int (Int32.ofNat (M - kq))), .unset] [(.ref a1), (.int (((Int32.ofNat (M - kq)) - (1 : Int32)) - (Int32.ofNat F))), (.ref ta)])) rfl rfl (hb hby d1_113)
      have c109 : ∀ t, Steps p.tables e below (T108.setTop (mkF m 116 #[.val (.ref a1), .val (.double pm), .second, .val (.int (Int32.ofNat F)), .val (.int (Int32.ofNat (M - kq))), .unset] [(.ref ta), (.int (((Int32.ofNat (M - kq)) - (1 : Int32)) - (Int32.ofNat F))), (.ref ta)])) t → Steps p.tables e below (s₁.setTop (entryFrame m #[(.ref a1), (.double pm)] 6)) t := fun t k => c107 t (st108 _ k)
      obtain ⟨d123, hd123⟩ : ∃ v : UInt64, FP.i2d (Int32.ofNat (M - kq)) = v := ⟨_, rfl⟩
      obtain ⟨d124, hd124⟩ : ∃ v : UInt64, FP.dmul (tm kq) d123 = v := ⟨_, rfl⟩
      have n124 : Jvm.Free.Fl.NoNaN64 (FP.dmul (tm kq) d123) := by rw [← hd123]; exact hq.1
      have u126 : FP.ddiv d124 pm = tm (kq + 1) := by rw [← hd124, ← hd123]; exact hq.2.2
      have c110 : ∀ t, Steps p.tables e below (T108.setTop (mkF m 127 #[.val (.ref a1), .val (.double pm), .second, .val (.int (Int32.ofNat F)), .val (.int (Int32.ofNat (M - kq))), .unset] [(.double (tm (kq + 1))), (.int (((Int32.ofNat (M - kq)) - (1 : Int32)) - (Int32.ofNat F))), (.ref ta)])) t → Steps p.tables e below (s₁.setTop (entryFrame m #[(.ref a1), (.double pm)] 6)) t := fun t k => c109 t (by
        show Steps p.tables e below (T108.setTop (mkF m 116 #[.val (.ref a1), .val (.double pm), .second, .val (.int (Int32.ofNat F)), .val (.int (Int32.ofNat (M - kq))), .unset] [(.ref ta), (.int (((Int32.ofNat (M - kq)) - (1 : Int32)) - (Int32.ofNat F))), (.ref ta)])) _
        refine XS.iload X108.here hx rfl (hb hby d1_116) rfl ?_
        show Steps p.tables e below (T108.setTop (mkF m 118 #[.val (.ref a1), .val (.double pm), .second, .val (.int (Int32.ofNat F)), .val (.int (Int32.ofNat (M - kq))), .unset] [(.int (Int32.ofNat (M - kq))), (.ref ta), (.int (((Int32.ofNat (M - kq)) - (1 : Int32)) - (Int32.ofNat F))), (.ref ta)])) _
        refine XS.iloadN X108.here hx rfl (hb hby d1_118) rfl ?_
        show Steps p.tables e below (T108.setTop (mkF m 119 #[.val (.ref a1), .val (.double pm), .second, .val (.int (Int32.ofNat F)), .val (.int (Int32.ofNat (M - kq))), .unset] [(.int (Int32.ofNat F)), (.int (Int32.ofNat (M - kq))), (.ref ta), (.int (((Int32.ofNat (M - kq)) - (1 : Int32)) - (Int32.ofNat F))), (.ref ta)])) _
        refine XS.isub X108.here hx rfl (hb hby d1_119) rfl ?_
        show Steps p.tables e below (T108.setTop (mkF m 120 #[.val (.ref a1), .val (.double pm), .second, .val (.int (Int32.ofNat F)), .val (.int (Int32.ofNat (M - kq))), .unset] [(.int ((Int32.ofNat (M - kq)) - (Int32.ofNat F))), (.ref ta), (.int (((Int32.ofNat (M - kq)) - (1 : Int32)) - (Int32.ofNat F))), (.ref ta)])) _
        refine OwnArr.ldD X108 hx hZ e108 A7 (j := ((Int32.ofNat (M - kq)) - (Int32.ofNat F))) (J := (M - kq - F)) (sub_k (by omega) (by omega)) (by omega) (x := (tm kq)) (congrArg Value.double (fz_k (by omega))) (g := (mkF m 120 #[.val (.ref a1), .val (.double pm), .second, .val (.int (Int32.ofNat F)), .val (.int (Int32.ofNat (M - kq))), .unset] [(.int ((Int32.ofNat (M - kq)) - (Int32.ofNat F))), (.ref ta), (.int (((Int32.ofNat (M - kq)) - (1 : Int32)) - (Int32.ofNat F))), (.ref ta)])) rfl rfl (hb hby d1_120) ?_
        show Steps p.tables e below (T108.setTop (mkF m 121 #[.val (.ref a1), .val (.double pm), .second, .val (.int (Int32.ofNat F)), .val (.int (Int32.ofNat (M - kq))), .unset] [(.double (tm kq)), (.int (((Int32.ofNat (M - kq)) - (1 : Int32)) - (Int32.ofNat F))), (.ref ta)])) _
        refine XS.iload X108.here hx rfl (hb hby d1_121) rfl ?_
        show Steps p.tables e below (T108.setTop (mkF m 123 #[.val (.ref a1), .val (.double pm), .second, .val (.int (Int32.ofNat F)), .val (.int (Int32.ofNat (M - kq))), .unset] [(.int (Int32.ofNat (M - kq))), (.double (tm kq)), (.int (((Int32.ofNat (M - kq)) - (1 : Int32)) - (Int32.ofNat F))), (.ref ta)])) _
        refine XS.i2dS X108.here hx rfl (hb hby d1_123) rfl hd123 ?_
        show Steps p.tables e below (T108.setTop (mkF m 124 #[.val (.ref a1), .val (.double pm), .second, .val (.int (Int32.ofNat F)), .val (.int (Int32.ofNat (M - kq))), .unset] [(.double d123), (.double (tm kq)), (.int (((Int32.ofNat (M - kq)) - (1 : Int32)) - (Int32.ofNat F))), (.ref ta)])) _
        refine XS.dmulS X108.here hx rfl (hb hby d1_124) rfl n124 hd124 ?_
        show Steps p.tables e below (T108.setTop (mkF m 125 #[.val (.ref a1), .val (.double pm), .second, .val (.int (Int32.ofNat F)), .val (.int (Int32.ofNat (M - kq))), .unset] [(.double d124), (.int (((Int32.ofNat (M - kq)) - (1 : Int32)) - (Int32.ofNat F))), (.ref ta)])) _
        refine XS.dloadN X108.here hx rfl (hb hby d1_125) rfl ?_
        show Steps p.tables e below (T108.setTop (mkF m 126 #[.val (.ref a1), .val (.double pm), .second, .val (.int (Int32.ofNat F)), .val (.int (Int32.ofNat (M - kq))), .unset] [(.double pm), (.double d124), (.int (((Int32.ofNat (M - kq)) - (1 : Int32)) - (Int32.ofNat F))), (.ref ta)])) _
        refine XS.ddivS X108.here hx rfl (hb hby d1_126) rfl (u126 ▸ hq.2.1) u126 ?_
        show Steps p.tables e below (T108.setTop (mkF m 127 #[.val (.ref a1), .val (.double pm), .second, .val (.int (Int32.ofNat F)), .val (.int (Int32.ofNat (M - kq))), .unset] [(.double (tm (kq + 1))), (.int (((Int32.ofNat (M - kq)) - (1 : Int32)) - (Int32.ofNat F))), (.ref ta)])) _
        exact k)
      obtain ⟨T111, h111, X111, e111, W111, st111⟩ := OwnArr.stDA X108 hx hZ e108 A7 (j := (((Int32.ofNat (M - kq)) - (1 : Int32)) - (Int32.ofNat F))) (J := (M - kq - 1 - F)) (sub1_k (by omega) (by omega)) (by omega) (g := (mkF m 127 #[.val (.ref a1), .val (.double pm), .second, .val (.int (Int32.ofNat F)), .val (.int (Int32.ofNat (M - kq))), .unset] [(.double (tm (kq + 1))), (.int (((Int32.ofNat (M - kq)) - (1 : Int32)) - (Int32.ofNat F))), (.ref ta)])) rfl rfl (hb hby d1_127)
      have F112 : OwnArr.Ag Z h111 ta .double (M - F + 1) (fun i => if i = (M - kq - 1 - F) then (.double (tm (kq + 1))) else (fun i => .double (if M - F ≤ i + kq then tm (M - F - i) else 0)) i) := (A7.set W111)
      have F113 : Exa Z h111 a1 "com/example/topple/topple/markov/PoissonWeights" := (E7.wr W111)
      have F114 : Fld Z h111 a1 "com/example/topple/topple/markov/PoissonWeights" "count" "I" (.int (-1 : Int32)) := (G7_0.other W111 (Or.inl (Nat.ne_of_lt (Nat.lt_of_lt_of_le F48.lt (Nat.le_of_eq g60.symm)))))
      have F115 : Fld Z h111 a1 "com/example/topple/topple/markov/PoissonWeights" "mean" "D" (.double pm) := (G7_1.other W111 (Or.inl (Nat.ne_of_lt (Nat.lt_of_lt_of_le F48.lt (Nat.le_of_eq g60.symm)))))
      have F116 : Fld Z h111 a1 "com/example/topple/topple/markov/PoissonWeights" "mode" "I" (.int (Int32.ofNat M)) := (G7_2.other W111 (Or.inl (Nat.ne_of_lt (Nat.lt_of_lt_of_le F48.lt (Nat.le_of_eq g60.symm)))))
      have F117 : Fld Z h111 a1 "com/example/topple/topple/markov/PoissonWeights" "fewest" "I" (.int (Int32.ofNat F)) := (G7_3.other W111 (Or.inl (Nat.ne_of_lt (Nat.lt_of_lt_of_le F48.lt (Nat.le_of_eq g60.symm)))))
      have F118 : Fld Z h111 a1 "com/example/topple/topple/markov/PoissonWeights" "toMode" "[D" (.ref ta) := (G7_4.other W111 (Or.inl (Nat.ne_of_lt (Nat.lt_of_lt_of_le F48.lt (Nat.le_of_eq g60.symm)))))
      have F119 : Fld Z h111 a1 "com/example/topple/topple/markov/PoissonWeights" "weight" "D" (.double (0 : UInt64)) := (G7_5.other W111 (Or.inl (Nat.ne_of_lt (Nat.lt_of_lt_of_le F48.lt (Nat.le_of_eq g60.symm)))))
      have N111 := Fr.snoc X111 N7 (Nat.le_trans (Nat.le_trans (Nat.le_trans (Nat.le_trans (Nat.le_trans Z0 (Keep.of_wr W5).1) (Keep.of_wr W16).1) (Keep.of_wr W27).1) (Keep.of_wr W46).1) (Nat.le_of_eq g60.symm))
      have K120 : Keep h0 h111 [a1] := K7.wr W111 (Or.inr (Nat.le_trans K54.1 (Nat.le_of_eq g60.symm)))
      have c121 : ∀ t, Steps p.tables e below (T111.setTop (mkF m 128 #[.val (.ref a1), .val (.double pm), .second, .val (.int (Int32.ofNat F)), .val (.int (Int32.ofNat (M - kq))), .unset] [])) t → Steps p.tables e below (s₁.setTop (entryFrame m #[(.ref a1), (.double pm)] 6)) t := fun t k => c110 t (st111 _ k)
      obtain ⟨ni, hni⟩ : ∃ v : Int32, v = ((Int32.ofNat (M - kq)) + (-1 : Int32)) := ⟨_, rfl⟩
      have c122 : ∀ t, Steps p.tables e below (T111.setTop (mkF m 131 #[.val (.ref a1), .val (.double pm), .second, .val (.int (Int32.ofNat F)), .val (.int ni), .unset] [])) t → Steps p.tables e below (s₁.setTop (entryFrame m #[(.ref a1), (.double pm)] 6)) t := fun t k => c121 t (by
        rw [hni] at k
        show Steps p.tables e below (T111.setTop (mkF m 128 #[.val (.ref a1), .val (.double pm), .second, .val (.int (Int32.ofNat F)), .val (.int (Int32.ofNat (M - kq))), .unset] [])) _
        refine XS.iinc X111.here hx rfl (hb hby d1_128) rfl (l' := #[.val (.ref a1), .val (.double pm), .second, .val (.int (Int32.ofNat F)), .val (.int ((Int32.ofNat (M - kq)) + (-1 : Int32))), .unset]) rfl ?_
        show Steps p.tables e below (T111.setTop (mkF m 131 #[.val (.ref a1), .val (.double pm), .second, .val (.int (Int32.ofNat F)), .val (.int ((Int32.ofNat (M - kq)) + (-1 : Int32))), .unset] [])) _
        exact k)
      have c123 : ∀ t, Steps p.tables e below (T111.setTop (mkF m 96 #[.val (.ref a1), .val (.double pm), .second, .val (.int (Int32.ofNat F)), .val (.int ni), .unset] [])) t → Steps p.tables e below (s₁.setTop (entryFrame m #[(.ref a1), (.double pm)] 6)) t := fun t k => c122 t (by
        show Steps p.tables e below (T111.setTop (mkF m 131 #[.val (.ref a1), .val (.double pm), .second, .val (.int (Int32.ofNat F)), .val (.int ni), .unset] [])) _
        refine XS.goto X111.here hx rfl (pc0 := 131) (pc' := 96) rfl (hb hby d1_131) (by decide) (by decide) ?_
        show Steps p.tables e below (T111.setTop (mkF m 96 #[.val (.ref a1), .val (.double pm), .second, .val (.int (Int32.ofNat F)), .val (.int ni), .unset] [])) _
        exact k)
      have hn2 : ni = Int32.ofNat (M - (kq + 1)) := hni.trans (dec_k (by omega) hM2)
      subst hn2
      refine ⟨T111, h111, _, X111, e111, N111, K120, (Nat.le_trans Z7 (Keep.of_wr W111).1), F113, F114, F115, F116, F117, F118, F119, F112.congr (fun j hj => ?_), c123⟩
      by_cases q : j = M - kq - 1 - F
      · show (if j = (M - kq - 1 - F) then _ else _) = _
        rw [if_pos q, if_pos (by omega), show M - F - j = kq + 1 by omega]
      · show (if j = (M - kq - 1 - F) then _ else _) = _
        rw [if_neg q]
        show Value.double (if M - F ≤ j + kq then tm (M - F - j) else 0) = Value.double (if M - F ≤ j + (kq + 1) then tm (M - F - j) else 0)
        by_cases q2 : M - F ≤ j + kq
        · rw [if_pos q2, if_pos (by omega)]
        · rw [if_neg q2, if_neg (by omega)]
  obtain ⟨T7, h7, L7, X7, e7, N7, K7, Z7, E7, G7_0, G7_1, G7_2, G7_3, G7_4, G7_5, A7, cy⟩ := LP2 (M - F) (Nat.le_refl _)
  have eF : M - (M - F) = F := by omega
  rw [eF] at cy
  have c124 : ∀ t, Steps p.tables e below (T7.setTop (mkF m 134 #[.val (.ref a1), .val (.double pm), .second, .val (.int (Int32.ofNat F)), .val (.int (Int32.ofNat F)), .unset] [])) t → Steps p.tables e below (s₁.setTop (entryFrame m #[(.ref a1), (.double pm)] 6)) t := fun t k => cy t (by
    show Steps p.tables e below (T7.setTop (mkF m 96 #[.val (.ref a1), .val (.double pm), .second, .val (.int (Int32.ofNat F)), .val (.int (Int32.ofNat F)), .unset] [])) _
    refine XS.iload X7.here hx rfl (hb hby d1_96) rfl ?_
    show Steps p.tables e below (T7.setTop (mkF m 98 #[.val (.ref a1), .val (.double pm), .second, .val (.int (Int32.ofNat F)), .val (.int (Int32.ofNat F)), .unset] [(.int (Int32.ofNat F))])) _
    refine XS.iloadN X7.here hx rfl (hb hby d1_98) rfl ?_
    show Steps p.tables e below (T7.setTop (mkF m 99 #[.val (.ref a1), .val (.double pm), .second, .val (.int (Int32.ofNat F)), .val (.int (Int32.ofNat F)), .unset] [(.int (Int32.ofNat F)), (.int (Int32.ofNat F))])) _
    refine XS.icmpYes X7.here hx rfl (pc0 := 99) (pc' := 134) rfl (hb hby d1_99) rfl (XT.ii_le_t (fun q => absurd ((lt_k (by omega) (by omega)).mp q) (Nat.lt_irrefl _))) (by decide) (by decide) ?_
    show Steps p.tables e below (T7.setTop (mkF m 134 #[.val (.ref a1), .val (.double pm), .second, .val (.int (Int32.ofNat F)), .val (.int (Int32.ofNat F)), .unset] [])) _
    exact k)
  obtain ⟨fs, hr, hrun, hended, hW, hsame⟩ := X7.leave (v := none) (fun _ => rfl)
  refine ⟨_, _, pre0 _ (c124 _ (X7.returnOut hx Bd.returns (hb hby d1_134) hr)), hrun, hended, _, _, rfl, ?_, ⟨_, rfl⟩, hW, hsame.mono (by decide) (by decide)⟩
  show Q_ct Z a1 pm M F pr tm h0 n0 _ T7.heap _
  rw [e7]
  exact ⟨ta, rfl, N7, K7, (fun q => (Nat.ne_of_lt (Nat.lt_of_lt_of_le F48.lt (Nat.le_of_eq g60.symm))) q.symm), E7, G7_0, G7_1, G7_2, G7_3, G7_4, G7_5, A7.congr (fun j hj => by rw [if_pos (by omega)])⟩
theorem d3_0 : decode prog_39_method_2_code 0 = .ok (.aload_n 0, 1) := by decide +kernel
theorem d3_1 : decode prog_39_method_2_code 1 = .ok (.dup, 1) := by decide +kernel
theorem d3_2 : decode prog_39_method_2_code 2 = .ok (.getfield 7, 3) := by decide +kernel
theorem d3_5 : decode prog_39_method_2_code 5 = .ok (.iconst 1, 1) := by decide +kernel
theorem d3_6 : decode prog_39_method_2_code 6 = .ok (.iadd, 1) := by decide +kernel
theorem d3_7 : decode prog_39_method_2_code 7 = .ok (.putfield 7, 3) := by decide +kernel
theorem d3_10 : decode prog_39_method_2_code 10 = .ok (.aload_n 0, 1) := by decide +kernel
theorem d3_11 : decode prog_39_method_2_code 11 = .ok (.getfield 7, 3) := by decide +kernel
theorem d3_14 : decode prog_39_method_2_code 14 = .ok (.aload_n 0, 1) := by decide +kernel
theorem d3_15 : decode prog_39_method_2_code 15 = .ok (.getfield 22, 3) := by decide +kernel
theorem d3_18 : decode prog_39_method_2_code 18 = .ok (.if_icmp .lt 50, 3) := by decide +kernel
theorem d3_21 : decode prog_39_method_2_code 21 = .ok (.aload_n 0, 1) := by decide +kernel
theorem d3_22 : decode prog_39_method_2_code 22 = .ok (.aload_n 0, 1) := by decide +kernel
theorem d3_23 : decode prog_39_method_2_code 23 = .ok (.getfield 7, 3) := by decide +kernel
theorem d3_26 : decode prog_39_method_2_code 26 = .ok (.aload_n 0, 1) := by decide +kernel
theorem d3_27 : decode prog_39_method_2_code 27 = .ok (.getfield 17, 3) := by decide +kernel
theorem d3_30 : decode prog_39_method_2_code 30 = .ok (.if_icmp .gt 20, 3) := by decide +kernel
theorem d3_33 : decode prog_39_method_2_code 33 = .ok (.aload_n 0, 1) := by decide +kernel
theorem d3_34 : decode prog_39_method_2_code 34 = .ok (.getfield 25, 3) := by decide +kernel
theorem d3_37 : decode prog_39_method_2_code 37 = .ok (.aload_n 0, 1) := by decide +kernel
theorem d3_38 : decode prog_39_method_2_code 38 = .ok (.getfield 7, 3) := by decide +kernel
theorem d3_41 : decode prog_39_method_2_code 41 = .ok (.aload_n 0, 1) := by decide +kernel
theorem d3_42 : decode prog_39_method_2_code 42 = .ok (.getfield 22, 3) := by decide +kernel
theorem d3_45 : decode prog_39_method_2_code 45 = .ok (.isub, 1) := by decide +kernel
theorem d3_46 : decode prog_39_method_2_code 46 = .ok (.daload, 1) := by decide +kernel
theorem d3_47 : decode prog_39_method_2_code 47 = .ok (.goto 18, 3) := by decide +kernel
theorem d3_50 : decode prog_39_method_2_code 50 = .ok (.aload_n 0, 1) := by decide +kernel
theorem d3_51 : decode prog_39_method_2_code 51 = .ok (.getfield 29, 3) := by decide +kernel
theorem d3_54 : decode prog_39_method_2_code 54 = .ok (.aload_n 0, 1) := by decide +kernel
theorem d3_55 : decode prog_39_method_2_code 55 = .ok (.getfield 13, 3) := by decide +kernel
theorem d3_58 : decode prog_39_method_2_code 58 = .ok (.dmul, 1) := by decide +kernel
theorem d3_59 : decode prog_39_method_2_code 59 = .ok (.aload_n 0, 1) := by decide +kernel
theorem d3_60 : decode prog_39_method_2_code 60 = .ok (.getfield 7, 3) := by decide +kernel
theorem d3_63 : decode prog_39_method_2_code 63 = .ok (.i2d, 1) := by decide +kernel
theorem d3_64 : decode prog_39_method_2_code 64 = .ok (.ddiv, 1) := by decide +kernel
theorem d3_65 : decode prog_39_method_2_code 65 = .ok (.putfield 29, 3) := by decide +kernel
theorem d3_68 : decode prog_39_method_2_code 68 = .ok (.aload_n 0, 1) := by decide +kernel
theorem d3_69 : decode prog_39_method_2_code 69 = .ok (.getfield 29, 3) := by decide +kernel
theorem d3_72 : decode prog_39_method_2_code 72 = .ok (.dreturn, 1) := by decide +kernel
theorem ef_nx (m : MethodId) (a1 : Addr) (ta : Addr) (pm : UInt64) (ci : Int32) (cn : Int32) (mo : Int32) (ff : Int32) (w0 : UInt64) (w1 : UInt64) (N J : Nat) (tf : Nat → UInt64) : entryFrame m #[(.ref a1)] 1 = (mkF m 0 #[.val (.ref a1)] []) := by first | (simp [entryFrame, mkF, argsToLocals, Value.category]; done) | rfl
def Q_nx (Z : State) (a1 : Addr) (ta : Addr) (pm : UInt64) (ci : Int32) (cn : Int32) (mo : Int32) (ff : Int32) (w0 : UInt64) (w1 : UInt64) (N J : Nat) (tf : Nat → UInt64) (h0 : Heap) (n0 : Nat) (v : Option Value) (h : Heap) (L : List Loc) : Prop := v = some (.double w1) ∧ Fr n0 L ∧ Keep h0 h [a1] ∧ Exa Z h a1 "com/example/topple/topple/markov/PoissonWeights" ∧ Fld Z h a1 "com/example/topple/topple/markov/PoissonWeights" "count" "I" (.int cn) ∧ Fld Z h a1 "com/example/topple/topple/markov/PoissonWeights" "mean" "D" (.double pm) ∧ Fld Z h a1 "com/example/topple/topple/markov/PoissonWeights" "mode" "I" (.int mo) ∧ Fld Z h a1 "com/example/topple/topple/markov/PoissonWeights" "fewest" "I" (.int ff) ∧ Fld Z h a1 "com/example/topple/topple/markov/PoissonWeights" "toMode" "[D" (.ref ta) ∧ Fld Z h a1 "com/example/topple/topple/markov/PoissonWeights" "weight" "D" (.double w1)
set_option maxRecDepth 65536 in
set_option maxHeartbeats 2000000 in
theorem rm_nx (l : Launch) (Z : State) (a0 : Array Value) (hw : ∀ d ∈ tables_1, d.before a0 Z = true) (ws : List Jvm.Cond) (a1 : Addr) (ta : Addr) (pm : UInt64) (ci : Int32) (cn : Int32) (mo : Int32) (ff : Int32) (w0 : UInt64) (w1 : UInt64) (N J : Nat) (tf : Nat → UInt64) (h0 : Heap) (n0 : Nat) (Z0 : n0 ≤ h0.size) (E_a1 : Exa Z h0 a1 "com/example/topple/topple/markov/PoissonWeights") (F_0 : Fld Z h0 a1 "com/example/topple/topple/markov/PoissonWeights" "count" "I" (.int ci)) (F_1 : Fld Z h0 a1 "com/example/topple/topple/markov/PoissonWeights" "mean" "D" (.double pm)) (F_2 : Fld Z h0 a1 "com/example/topple/topple/markov/PoissonWeights" "mode" "I" (.int mo)) (F_3 : Fld Z h0 a1 "com/example/topple/topple/markov/PoissonWeights" "fewest" "I" (.int ff)) (F_4 : Fld Z h0 a1 "com/example/topple/topple/markov/PoissonWeights" "toMode" "[D" (.ref ta)) (F_5 : Fld Z h0 a1 "com/example/topple/topple/markov/PoissonWeights" "weight" "D" (.double w0)) (g_a1 : n0 ≤ a1) (hc : ci + (1 : Int32) = cn) (hne : ta ≠ a1) (A_0 : OwnArr.Ag Z h0 ta .double N (fun i => .double (tf i))) (hlt : ¬ cn < ff) (hlo : ¬ mo < cn → (cn - ff).toInt = (J : Int) ∧ J < N ∧ tf J = w1) (hhi : mo < cn → Jvm.Free.Fl.NoNaN64 (FP.dmul w0 pm) ∧ Jvm.Free.Fl.NoNaN64 w1 ∧ FP.ddiv (FP.dmul w0 pm) (FP.i2d cn) = w1) :
    MetFree l (⟨"com/example/topple/topple/markov/PoissonWeights", "next", "()D"⟩ : MethodName) (head1 (Jvm.Cond.code (⟨"com/example/topple/topple/markov/PoissonWeights", "next", "()D"⟩ : MethodName) prog_39_method_2_code 1 (some .double) :: ws) ({ frames := 0, cells := 0, slots := 0, locals := 0 } : Room)) (fun aa UU => aa = #[(.ref a1)] ∧ Z.Warmed39 UU.vm ∧ UU.heap = h0) (fun _ _ _ _ _ => True) (fun _ UU oo UU' => ∃ v L, oo = .returned v ∧ Q_nx Z a1 ta pm ci cn mo ff w0 w1 N J tf h0 n0 v UU'.heap L ∧ FrameEnd UU oo UU' L ({ frames := 0, cells := 0, slots := 0, locals := 0 } : Room).cells ({ frames := 0, cells := 0, slots := 0, locals := 0 } : Room).slots) := by
  refine MetFree.of_bodySF (plainFor_of_name pn_com_example_topple_topple_markov_PoissonWeights) hisR ?_
  intro p e s m args below meth c s₁ Bd hml0 hP hK
  obtain ⟨rfl, hZ, hh⟩ := hP
  have hx := Bd.exec
  have hby := Bd.bytes
  have hml : c.maxLocals = 1 := hml0
  have hown : s.vm.findClass "com/example/topple/topple/markov/PoissonWeights" = some m.cls := findClass_of_methodNamed Bd.named
  have hnaM := (name_of_methodNamed Bd.named Bd.method).1
  have X0 : Stand p l e ({ frames := 0, cells := 0, slots := 0, locals := 0 } : Room) s m #[(.ref a1)] below meth c s₁ [] 0 0 := Stand.of_body Bd
  have e0 : s₁.heap = h0 := by rw [← hh, Bd.state]; rfl
  have N0 := Fr.nil n0
  have pre0 : ∀ t, Steps p.tables e below (s₁.setTop (entryFrame m #[(.ref a1)] 1)) t → Steps p.tables e below (s₁.setTop (entryFrame m #[(.ref a1)] 1)) t := fun t k => k
  have c0 : ∀ t, Steps p.tables e below (s₁.setTop (mkF m 0 #[.val (.ref a1)] [])) t → Steps p.tables e below (s₁.setTop (entryFrame m #[(.ref a1)] 1)) t := fun t k => castTop (ef_nx m a1 ta pm ci cn mo ff w0 w1 N J tf) k
  have K0 := Keep.refl h0 [a1]
  have c1 : ∀ t, Steps p.tables e below (s₁.setTop (mkF m 2 #[.val (.ref a1)] [(.ref a1), (.ref a1)])) t → Steps p.tables e below (s₁.setTop (entryFrame m #[(.ref a1)] 1)) t := fun t k => c0 t (by
    show Steps p.tables e below (s₁.setTop (mkF m 0 #[.val (.ref a1)] [])) _
    refine XS.aloadN X0.here hx rfl (hb hby d3_0) rfl rfl ?_
    show Steps p.tables e below (s₁.setTop (mkF m 1 #[.val (.ref a1)] [(.ref a1)])) _
    refine XS.dup X0.here hx rfl (hb hby d3_1) rfl rfl ?_
    show Steps p.tables e below (s₁.setTop (mkF m 2 #[.val (.ref a1)] [(.ref a1), (.ref a1)])) _
    exact k)
  obtain ⟨T2, X2, e2, st2⟩ := getF X0 hx hZ hown (host := "") (Or.inl (hw _ (List.mem_of_getElem? (i := 11) rfl))) Via.refl e0 F_0 (g := (mkF m 2 #[.val (.ref a1)] [(.ref a1), (.ref a1)])) rfl rfl (hb hby d3_2)
  have c3 : ∀ t, Steps p.tables e below (T2.setTop (mkF m 5 #[.val (.ref a1)] [(.int ci), (.ref a1)])) t → Steps p.tables e below (s₁.setTop (entryFrame m #[(.ref a1)] 1)) t := fun t k => c1 t (st2 _ k)
  have c4 : ∀ t, Steps p.tables e below (T2.setTop (mkF m 7 #[.val (.ref a1)] [(.int cn), (.ref a1)])) t → Steps p.tables e below (s₁.setTop (entryFrame m #[(.ref a1)] 1)) t := fun t k => c3 t (by
    rw [← hc] at k
    show Steps p.tables e below (T2.setTop (mkF m 5 #[.val (.ref a1)] [(.int ci), (.ref a1)])) _
    refine XS.iconst X2.here hx rfl (hb hby d3_5) ?_
    show Steps p.tables e below (T2.setTop (mkF m 6 #[.val (.ref a1)] [(.int (1 : Int32)), (.int ci), (.ref a1)])) _
    refine XS.iadd X2.here hx rfl (hb hby d3_6) rfl ?_
    show Steps p.tables e below (T2.setTop (mkF m 7 #[.val (.ref a1)] [(.int (ci + (1 : Int32))), (.ref a1)])) _
    exact k)
  obtain ⟨T5, h5, X5, e5, W5, st5⟩ := putF X2 hx hZ hown (host := "") (Or.inl (hw _ (List.mem_of_getElem? (i := 11) rfl))) Via.refl e2 F_0 E_a1 (Or.inl (hw _ (List.mem_of_getElem? (i := 12) rfl))) (hw _ (List.mem_of_getElem? (i := 3) rfl)) (ty := .int) (by decide) rfl rfl (g := (mkF m 7 #[.val (.ref a1)] [(.int cn), (.ref a1)])) rfl rfl (hb hby d3_7)
  have F6 : Fld Z h5 a1 "com/example/topple/topple/markov/PoissonWeights" "count" "I" (.int cn) := F_0.same W5
  have F7 : Exa Z h5 a1 "com/example/topple/topple/markov/PoissonWeights" := (E_a1.wr W5)
  have F8 : Fld Z h5 a1 "com/example/topple/topple/markov/PoissonWeights" "mean" "D" (.double pm) := (F_1.other W5 (Or.inr (slot_ne (Or.inr (hw _ (List.mem_of_getElem? (i := 14) rfl))) (Or.inl (hw _ (List.mem_of_getElem? (i := 12) rfl))) (by decide) (t := .double) (t' := .int) (by decide) (by decide))))
  have F9 : Fld Z h5 a1 "com/example/topple/topple/markov/PoissonWeights" "mode" "I" (.int mo) := (F_2.other W5 (Or.inr (slot_ne (Or.inr (hw _ (List.mem_of_getElem? (i := 16) rfl))) (Or.inl (hw _ (List.mem_of_getElem? (i := 12) rfl))) (by decide) (t := .int) (t' := .int) (by decide) (by decide))))
  have F10 : Fld Z h5 a1 "com/example/topple/topple/markov/PoissonWeights" "fewest" "I" (.int ff) := (F_3.other W5 (Or.inr (slot_ne (Or.inr (hw _ (List.mem_of_getElem? (i := 18) rfl))) (Or.inl (hw _ (List.mem_of_getElem? (i := 12) rfl))) (by decide) (t := .int) (t' := .int) (by decide) (by decide))))
  have F11 : Fld Z h5 a1 "com/example/topple/topple/markov/PoissonWeights" "toMode" "[D" (.ref ta) := (F_4.other W5 (Or.inr (slot_ne (Or.inr (hw _ (List.mem_of_getElem? (i := 21) rfl))) (Or.inl (hw _ (List.mem_of_getElem? (i := 12) rfl))) (by decide) (t := (.array .double)) (t' := .int) (by decide) (by decide))))
  have F12 : Fld Z h5 a1 "com/example/topple/topple/markov/PoissonWeights" "weight" "D" (.double w0) := (F_5.other W5 (Or.inr (slot_ne (Or.inl (hw _ (List.mem_of_getElem? (i := 28) rfl))) (Or.inl (hw _ (List.mem_of_getElem? (i := 12) rfl))) (by decide) (t := .double) (t' := .int) (by decide) (by decide))))
  have F13 : OwnArr.Ag Z h5 ta .double N (fun i => .double (tf i)) := (A_0.other W5 hne)
  have N5 := Fr.snoc X5 N0 g_a1
  have K14 : Keep h0 h5 [a1] := K0.wr W5 (Or.inl (List.mem_of_getElem? (i := 0) rfl))
  have c15 : ∀ t, Steps p.tables e below (T5.setTop (mkF m 10 #[.val (.ref a1)] [])) t → Steps p.tables e below (s₁.setTop (entryFrame m #[(.ref a1)] 1)) t := fun t k => c4 t (st5 _ k)
  have c16 : ∀ t, Steps p.tables e below (T5.setTop (mkF m 11 #[.val (.ref a1)] [(.ref a1)])) t → Steps p.tables e below (s₁.setTop (entryFrame m #[(.ref a1)] 1)) t := fun t k => c15 t (by
    show Steps p.tables e below (T5.setTop (mkF m 10 #[.val (.ref a1)] [])) _
    refine XS.aloadN X5.here hx rfl (hb hby d3_10) rfl rfl ?_
    show Steps p.tables e below (T5.setTop (mkF m 11 #[.val (.ref a1)] [(.ref a1)])) _
    exact k)
  obtain ⟨T17, X17, e17, st17⟩ := getF X5 hx hZ hown (host := "") (Or.inl (hw _ (List.mem_of_getElem? (i := 11) rfl))) Via.refl e5 F6 (g := (mkF m 11 #[.val (.ref a1)] [(.ref a1)])) rfl rfl (hb hby d3_11)
  have c18 : ∀ t, Steps p.tables e below (T17.setTop (mkF m 14 #[.val (.ref a1)] [(.int cn)])) t → Steps p.tables e below (s₁.setTop (entryFrame m #[(.ref a1)] 1)) t := fun t k => c16 t (st17 _ k)
  have c19 : ∀ t, Steps p.tables e below (T17.setTop (mkF m 15 #[.val (.ref a1)] [(.ref a1), (.int cn)])) t → Steps p.tables e below (s₁.setTop (entryFrame m #[(.ref a1)] 1)) t := fun t k => c18 t (by
    show Steps p.tables e below (T17.setTop (mkF m 14 #[.val (.ref a1)] [(.int cn)])) _
    refine XS.aloadN X17.here hx rfl (hb hby d3_14) rfl rfl ?_
    show Steps p.tables e below (T17.setTop (mkF m 15 #[.val (.ref a1)] [(.ref a1), (.int cn)])) _
    exact k)
  obtain ⟨T20, X20, e20, st20⟩ := getF X17 hx hZ hown (host := "") (Or.inl (hw _ (List.mem_of_getElem? (i := 17) rfl))) Via.refl e17 F10 (g := (mkF m 15 #[.val (.ref a1)] [(.ref a1), (.int cn)])) rfl rfl (hb hby d3_15)
  have c21 : ∀ t, Steps p.tables e below (T20.setTop (mkF m 18 #[.val (.ref a1)] [(.int ff), (.int cn)])) t → Steps p.tables e below (s₁.setTop (entryFrame m #[(.ref a1)] 1)) t := fun t k => c19 t (st20 _ k)
  have c22 : ∀ t, Steps p.tables e below (T20.setTop (mkF m 23 #[.val (.ref a1)] [(.ref a1), (.ref a1)])) t → Steps p.tables e below (s₁.setTop (entryFrame m #[(.ref a1)] 1)) t := fun t k => c21 t (by
    show Steps p.tables e below (T20.setTop (mkF m 18 #[.val (.ref a1)] [(.int ff), (.int cn)])) _
    refine XS.icmpNo X20.here hx rfl (hb hby d3_18) rfl (XT.ii_lt_f hlt) ?_
    show Steps p.tables e below (T20.setTop (mkF m 21 #[.val (.ref a1)] [])) _
    refine XS.aloadN X20.here hx rfl (hb hby d3_21) rfl rfl ?_
    show Steps p.tables e below (T20.setTop (mkF m 22 #[.val (.ref a1)] [(.ref a1)])) _
    refine XS.aloadN X20.here hx rfl (hb hby d3_22) rfl rfl ?_
    show Steps p.tables e below (T20.setTop (mkF m 23 #[.val (.ref a1)] [(.ref a1), (.ref a1)])) _
    exact k)
  obtain ⟨T23, X23, e23, st23⟩ := getF X20 hx hZ hown (host := "") (Or.inl (hw _ (List.mem_of_getElem? (i := 11) rfl))) Via.refl e20 F6 (g := (mkF m 23 #[.val (.ref a1)] [(.ref a1), (.ref a1)])) rfl rfl (hb hby d3_23)
  have c24 : ∀ t, Steps p.tables e below (T23.setTop (mkF m 26 #[.val (.ref a1)] [(.int cn), (.ref a1)])) t → Steps p.tables e below (s₁.setTop (entryFrame m #[(.ref a1)] 1)) t := fun t k => c22 t (st23 _ k)
  have c25 : ∀ t, Steps p.tables e below (T23.setTop (mkF m 27 #[.val (.ref a1)] [(.ref a1), (.int cn), (.ref a1)])) t → Steps p.tables e below (s₁.setTop (entryFrame m #[(.ref a1)] 1)) t := fun t k => c24 t (by
    show Steps p.tables e below (T23.setTop (mkF m 26 #[.val (.ref a1)] [(.int cn), (.ref a1)])) _
    refine XS.aloadN X23.here hx rfl (hb hby d3_26) rfl rfl ?_
    show Steps p.tables e below (T23.setTop (mkF m 27 #[.val (.ref a1)] [(.ref a1), (.int cn), (.ref a1)])) _
    exact k)
  obtain ⟨T26, X26, e26, st26⟩ := getF X23 hx hZ hown (host := "") (Or.inl (hw _ (List.mem_of_getElem? (i := 15) rfl))) Via.refl e23 F9 (g := (mkF m 27 #[.val (.ref a1)] [(.ref a1), (.int cn), (.ref a1)])) rfl rfl (hb hby d3_27)
  have c27 : ∀ t, Steps p.tables e below (T26.setTop (mkF m 30 #[.val (.ref a1)] [(.int mo), (.int cn), (.ref a1)])) t → Steps p.tables e below (s₁.setTop (entryFrame m #[(.ref a1)] 1)) t := fun t k => c25 t (st26 _ k)
  by_cases q30 : mo < cn
  · skip
    have hq := hhi q30
    have c28 : ∀ t, Steps p.tables e below (T26.setTop (mkF m 51 #[.val (.ref a1)] [(.ref a1), (.ref a1)])) t → Steps p.tables e below (s₁.setTop (entryFrame m #[(.ref a1)] 1)) t := fun t k => c27 t (by
      show Steps p.tables e below (T26.setTop (mkF m 30 #[.val (.ref a1)] [(.int mo), (.int cn), (.ref a1)])) _
      refine XS.icmpYes X26.here hx rfl (pc0 := 30) (pc' := 50) rfl (hb hby d3_30) rfl (XT.ii_gt_t q30) (by decide) (by decide) ?_
      show Steps p.tables e below (T26.setTop (mkF m 50 #[.val (.ref a1)] [(.ref a1)])) _
      refine XS.aloadN X26.here hx rfl (hb hby d3_50) rfl rfl ?_
      show Steps p.tables e below (T26.setTop (mkF m 51 #[.val (.ref a1)] [(.ref a1), (.ref a1)])) _
      exact k)
    obtain ⟨T29, X29, e29, st29⟩ := getF X26 hx hZ hown (host := "") (Or.inl (hw _ (List.mem_of_getElem? (i := 27) rfl))) Via.refl e26 F12 (g := (mkF m 51 #[.val (.ref a1)] [(.ref a1), (.ref a1)])) rfl rfl (hb hby d3_51)
    have c30 : ∀ t, Steps p.tables e below (T29.setTop (mkF m 54 #[.val (.ref a1)] [(.double w0), (.ref a1)])) t → Steps p.tables e below (s₁.setTop (entryFrame m #[(.ref a1)] 1)) t := fun t k => c28 t (st29 _ k)
    have c31 : ∀ t, Steps p.tables e below (T29.setTop (mkF m 55 #[.val (.ref a1)] [(.ref a1), (.double w0), (.ref a1)])) t → Steps p.tables e below (s₁.setTop (entryFrame m #[(.ref a1)] 1)) t := fun t k => c30 t (by
      show Steps p.tables e below (T29.setTop (mkF m 54 #[.val (.ref a1)] [(.double w0), (.ref a1)])) _
      refine XS.aloadN X29.here hx rfl (hb hby d3_54) rfl rfl ?_
      show Steps p.tables e below (T29.setTop (mkF m 55 #[.val (.ref a1)] [(.ref a1), (.double w0), (.ref a1)])) _
      exact k)
    obtain ⟨T32, X32, e32, st32⟩ := getF X29 hx hZ hown (host := "") (Or.inl (hw _ (List.mem_of_getElem? (i := 13) rfl))) Via.refl e29 F8 (g := (mkF m 55 #[.val (.ref a1)] [(.ref a1), (.double w0), (.ref a1)])) rfl rfl (hb hby d3_55)
    have c33 : ∀ t, Steps p.tables e below (T32.setTop (mkF m 58 #[.val (.ref a1)] [(.double pm), (.double w0), (.ref a1)])) t → Steps p.tables e below (s₁.setTop (entryFrame m #[(.ref a1)] 1)) t := fun t k => c31 t (st32 _ k)
    obtain ⟨d58, hd58⟩ : ∃ v : UInt64, FP.dmul w0 pm = v := ⟨_, rfl⟩
    have u64 : ∀ y : UInt64, FP.i2d cn = y → FP.ddiv d58 y = w1 := fun y hy => by rw [← hd58, ← hy]; exact hq.2.2
    have c34 : ∀ t, Steps p.tables e below (T32.setTop (mkF m 60 #[.val (.ref a1)] [(.ref a1), (.double d58), (.ref a1)])) t → Steps p.tables e below (s₁.setTop (entryFrame m #[(.ref a1)] 1)) t := fun t k => c33 t (by
      show Steps p.tables e below (T32.setTop (mkF m 58 #[.val (.ref a1)] [(.double pm), (.double w0), (.ref a1)])) _
      refine XS.dmulS X32.here hx rfl (hb hby d3_58) rfl hq.1 hd58 ?_
      show Steps p.tables e below (T32.setTop (mkF m 59 #[.val (.ref a1)] [(.double d58), (.ref a1)])) _
      refine XS.aloadN X32.here hx rfl (hb hby d3_59) rfl rfl ?_
      show Steps p.tables e below (T32.setTop (mkF m 60 #[.val (.ref a1)] [(.ref a1), (.double d58), (.ref a1)])) _
      exact k)
    obtain ⟨T35, X35, e35, st35⟩ := getF X32 hx hZ hown (host := "") (Or.inl (hw _ (List.mem_of_getElem? (i := 11) rfl))) Via.refl e32 F6 (g := (mkF m 60 #[.val (.ref a1)] [(.ref a1), (.double d58), (.ref a1)])) rfl rfl (hb hby d3_60)
    have c36 : ∀ t, Steps p.tables e below (T35.setTop (mkF m 63 #[.val (.ref a1)] [(.int cn), (.double d58), (.ref a1)])) t → Steps p.tables e below (s₁.setTop (entryFrame m #[(.ref a1)] 1)) t := fun t k => c34 t (st35 _ k)
    obtain ⟨d63, hd63⟩ : ∃ v : UInt64, FP.i2d cn = v := ⟨_, rfl⟩
    have v64 := u64 _ hd63
    have c37 : ∀ t, Steps p.tables e below (T35.setTop (mkF m 65 #[.val (.ref a1)] [(.double w1), (.ref a1)])) t → Steps p.tables e below (s₁.setTop (entryFrame m #[(.ref a1)] 1)) t := fun t k => c36 t (by
      show Steps p.tables e below (T35.setTop (mkF m 63 #[.val (.ref a1)] [(.int cn), (.double d58), (.ref a1)])) _
      refine XS.i2dS X35.here hx rfl (hb hby d3_63) rfl hd63 ?_
      show Steps p.tables e below (T35.setTop (mkF m 64 #[.val (.ref a1)] [(.double d63), (.double d58), (.ref a1)])) _
      refine XS.ddivS X35.here hx rfl (hb hby d3_64) rfl (v64 ▸ hq.2.1) v64 ?_
      show Steps p.tables e below (T35.setTop (mkF m 65 #[.val (.ref a1)] [(.double w1), (.ref a1)])) _
      exact k)
    obtain ⟨T38, h38, X38, e38, W38, st38⟩ := putF X35 hx hZ hown (host := "") (Or.inl (hw _ (List.mem_of_getElem? (i := 27) rfl))) Via.refl e35 F12 F7 (Or.inl (hw _ (List.mem_of_getElem? (i := 28) rfl))) (hw _ (List.mem_of_getElem? (i := 3) rfl)) (ty := .double) (by decide) rfl rfl (g := (mkF m 65 #[.val (.ref a1)] [(.double w1), (.ref a1)])) rfl rfl (hb hby d3_65)
    have F39 : Fld Z h38 a1 "com/example/topple/topple/markov/PoissonWeights" "weight" "D" (.double w1) := F12.same W38
    have F40 : Exa Z h38 a1 "com/example/topple/topple/markov/PoissonWeights" := (F7.wr W38)
    have F41 : Fld Z h38 a1 "com/example/topple/topple/markov/PoissonWeights" "count" "I" (.int cn) := (F6.other W38 (Or.inr (slot_ne (Or.inl (hw _ (List.mem_of_getElem? (i := 12) rfl))) (Or.inl (hw _ (List.mem_of_getElem? (i := 28) rfl))) (by decide) (t := .int) (t' := .double) (by decide) (by decide))))
    have F42 : Fld Z h38 a1 "com/example/topple/topple/markov/PoissonWeights" "mean" "D" (.double pm) := (F8.other W38 (Or.inr (slot_ne (Or.inr (hw _ (List.mem_of_getElem? (i := 14) rfl))) (Or.inl (hw _ (List.mem_of_getElem? (i := 28) rfl))) (by decide) (t := .double) (t' := .double) (by decide) (by decide))))
    have F43 : Fld Z h38 a1 "com/example/topple/topple/markov/PoissonWeights" "mode" "I" (.int mo) := (F9.other W38 (Or.inr (slot_ne (Or.inr (hw _ (List.mem_of_getElem? (i := 16) rfl))) (Or.inl (hw _ (List.mem_of_getElem? (i := 28) rfl))) (by decide) (t := .int) (t' := .double) (by decide) (by decide))))
    have F44 : Fld Z h38 a1 "com/example/topple/topple/markov/PoissonWeights" "fewest" "I" (.int ff) := (F10.other W38 (Or.inr (slot_ne (Or.inr (hw _ (List.mem_of_getElem? (i := 18) rfl))) (Or.inl (hw _ (List.mem_of_getElem? (i := 28) rfl))) (by decide) (t := .int) (t' := .double) (by decide) (by decide))))
    have F45 : Fld Z h38 a1 "com/example/topple/topple/markov/PoissonWeights" "toMode" "[D" (.ref ta) := (F11.other W38 (Or.inr (slot_ne (Or.inr (hw _ (List.mem_of_getElem? (i := 21) rfl))) (Or.inl (hw _ (List.mem_of_getElem? (i := 28) rfl))) (by decide) (t := (.array .double)) (t' := .double) (by decide) (by decide))))
    have F46 : OwnArr.Ag Z h38 ta .double N (fun i => .double (tf i)) := (F13.other W38 hne)
    have N38 := Fr.snoc X38 N5 g_a1
    have K47 : Keep h0 h38 [a1] := K14.wr W38 (Or.inl (List.mem_of_getElem? (i := 0) rfl))
    have c48 : ∀ t, Steps p.tables e below (T38.setTop (mkF m 68 #[.val (.ref a1)] [])) t → Steps p.tables e below (s₁.setTop (entryFrame m #[(.ref a1)] 1)) t := fun t k => c37 t (st38 _ k)
    have c49 : ∀ t, Steps p.tables e below (T38.setTop (mkF m 69 #[.val (.ref a1)] [(.ref a1)])) t → Steps p.tables e below (s₁.setTop (entryFrame m #[(.ref a1)] 1)) t := fun t k => c48 t (by
      show Steps p.tables e below (T38.setTop (mkF m 68 #[.val (.ref a1)] [])) _
      refine XS.aloadN X38.here hx rfl (hb hby d3_68) rfl rfl ?_
      show Steps p.tables e below (T38.setTop (mkF m 69 #[.val (.ref a1)] [(.ref a1)])) _
      exact k)
    obtain ⟨T50, X50, e50, st50⟩ := getF X38 hx hZ hown (host := "") (Or.inl (hw _ (List.mem_of_getElem? (i := 27) rfl))) Via.refl e38 F39 (g := (mkF m 69 #[.val (.ref a1)] [(.ref a1)])) rfl rfl (hb hby d3_69)
    have c51 : ∀ t, Steps p.tables e below (T50.setTop (mkF m 72 #[.val (.ref a1)] [(.double w1)])) t → Steps p.tables e below (s₁.setTop (entryFrame m #[(.ref a1)] 1)) t := fun t k => c49 t (st50 _ k)
    obtain ⟨fs, hr, hrun, hended, hW, hsame⟩ := X50.leave (v := (some (.double w1))) (fun h => by rw [Bd.returns] at h; cases h)
    refine ⟨_, _, pre0 _ (c51 _ (retOut X50 hx (t := .double) (i := .dreturn) Bd.returns rfl (Or.inr (Or.inr (Or.inl ⟨rfl, rfl, _, rfl⟩))) (hb hby d3_72) hr)), hrun, hended, _, _, rfl, ?_, ⟨_, rfl⟩, hW, hsame.mono (by decide) (by decide)⟩
    show Q_nx Z a1 ta pm ci cn mo ff w0 w1 N J tf h0 n0 _ T50.heap _
    rw [e50]
    exact ⟨rfl, N38, K47, F40, F41, F42, F43, F44, F45, F39⟩
  · skip
    have hq := hlo q30
    have c52 : ∀ t, Steps p.tables e below (T26.setTop (mkF m 34 #[.val (.ref a1)] [(.ref a1), (.ref a1)])) t → Steps p.tables e below (s₁.setTop (entryFrame m #[(.ref a1)] 1)) t := fun t k => c27 t (by
      show Steps p.tables e below (T26.setTop (mkF m 30 #[.val (.ref a1)] [(.int mo), (.int cn), (.ref a1)])) _
      refine XS.icmpNo X26.here hx rfl (hb hby d3_30) rfl (XT.ii_gt_f q30) ?_
      show Steps p.tables e below (T26.setTop (mkF m 33 #[.val (.ref a1)] [(.ref a1)])) _
      refine XS.aloadN X26.here hx rfl (hb hby d3_33) rfl rfl ?_
      show Steps p.tables e below (T26.setTop (mkF m 34 #[.val (.ref a1)] [(.ref a1), (.ref a1)])) _
      exact k)
    obtain ⟨T53, X53, e53, st53⟩ := getF X26 hx hZ hown (host := "") (Or.inl (hw _ (List.mem_of_getElem? (i := 20) rfl))) Via.refl e26 F11 (g := (mkF m 34 #[.val (.ref a1)] [(.ref a1), (.ref a1)])) rfl rfl (hb hby d3_34)
    have c54 : ∀ t, Steps p.tables e below (T53.setTop (mkF m 37 #[.val (.ref a1)] [(.ref ta), (.ref a1)])) t → Steps p.tables e below (s₁.setTop (entryFrame m #[(.ref a1)] 1)) t := fun t k => c52 t (st53 _ k)
    have c55 : ∀ t, Steps p.tables e below (T53.setTop (mkF m 38 #[.val (.ref a1)] [(.ref a1), (.ref ta), (.ref a1)])) t → Steps p.tables e below (s₁.setTop (entryFrame m #[(.ref a1)] 1)) t := fun t k => c54 t (by
      show Steps p.tables e below (T53.setTop (mkF m 37 #[.val (.ref a1)] [(.ref ta), (.ref a1)])) _
      refine XS.aloadN X53.here hx rfl (hb hby d3_37) rfl rfl ?_
      show Steps p.tables e below (T53.setTop (mkF m 38 #[.val (.ref a1)] [(.ref a1), (.ref ta), (.ref a1)])) _
      exact k)
    obtain ⟨T56, X56, e56, st56⟩ := getF X53 hx hZ hown (host := "") (Or.inl (hw _ (List.mem_of_getElem? (i := 11) rfl))) Via.refl e53 F6 (g := (mkF m 38 #[.val (.ref a1)] [(.ref a1), (.ref ta), (.ref a1)])) rfl rfl (hb hby d3_38)
    have c57 : ∀ t, Steps p.tables e below (T56.setTop (mkF m 41 #[.val (.ref a1)] [(.int cn), (.ref ta), (.ref a1)])) t → Steps p.tables e below (s₁.setTop (entryFrame m #[(.ref a1)] 1)) t := fun t k => c55 t (st56 _ k)
    have c58 : ∀ t, Steps p.tables e below (T56.setTop (mkF m 42 #[.val (.ref a1)] [(.ref a1), (.int cn), (.ref ta), (.ref a1)])) t → Steps p.tables e below (s₁.setTop (entryFrame m #[(.ref a1)] 1)) t := fun t k => c57 t (by
      show Steps p.tables e below (T56.setTop (mkF m 41 #[.val (.ref a1)] [(.int cn), (.ref ta), (.ref a1)])) _
      refine XS.aloadN X56.here hx rfl (hb hby d3_41) rfl rfl ?_
      show Steps p.tables e below (T56.setTop (mkF m 42 #[.val (.ref a1)] [(.ref a1), (.int cn), (.ref ta), (.ref a1)])) _
      exact k)
    obtain ⟨T59, X59, e59, st59⟩ := getF X56 hx hZ hown (host := "") (Or.inl (hw _ (List.mem_of_getElem? (i := 17) rfl))) Via.refl e56 F10 (g := (mkF m 42 #[.val (.ref a1)] [(.ref a1), (.int cn), (.ref ta), (.ref a1)])) rfl rfl (hb hby d3_42)
    have c60 : ∀ t, Steps p.tables e below (T59.setTop (mkF m 45 #[.val (.ref a1)] [(.int ff), (.int cn), (.ref ta), (.ref a1)])) t → Steps p.tables e below (s₁.setTop (entryFrame m #[(.ref a1)] 1)) t := fun t k => c58 t (st59 _ k)
    have c61 : ∀ t, Steps p.tables e below (T59.setTop (mkF m 65 #[.val (.ref a1)] [(.double w1), (.ref a1)])) t → Steps p.tables e below (s₁.setTop (entryFrame m #[(.ref a1)] 1)) t := fun t k => c60 t (by
      show Steps p.tables e below (T59.setTop (mkF m 45 #[.val (.ref a1)] [(.int ff), (.int cn), (.ref ta), (.ref a1)])) _
      refine XS.isub X59.here hx rfl (hb hby d3_45) rfl ?_
      show Steps p.tables e below (T59.setTop (mkF m 46 #[.val (.ref a1)] [(.int (cn - ff)), (.ref ta), (.ref a1)])) _
      refine OwnArr.ldD X59 hx hZ e59 F13 (j := (cn - ff)) (J := J) hq.1 hq.2.1 (x := w1) (congrArg Value.double hq.2.2) (g := (mkF m 46 #[.val (.ref a1)] [(.int (cn - ff)), (.ref ta), (.ref a1)])) rfl rfl (hb hby d3_46) ?_
      show Steps p.tables e below (T59.setTop (mkF m 47 #[.val (.ref a1)] [(.double w1), (.ref a1)])) _
      refine XS.goto X59.here hx rfl (pc0 := 47) (pc' := 65) rfl (hb hby d3_47) (by decide) (by decide) ?_
      show Steps p.tables e below (T59.setTop (mkF m 65 #[.val (.ref a1)] [(.double w1), (.ref a1)])) _
      exact k)
    obtain ⟨T62, h62, X62, e62, W62, st62⟩ := putF X59 hx hZ hown (host := "") (Or.inl (hw _ (List.mem_of_getElem? (i := 27) rfl))) Via.refl e59 F12 F7 (Or.inl (hw _ (List.mem_of_getElem? (i := 28) rfl))) (hw _ (List.mem_of_getElem? (i := 3) rfl)) (ty := .double) (by decide) rfl rfl (g := (mkF m 65 #[.val (.ref a1)] [(.double w1), (.ref a1)])) rfl rfl (hb hby d3_65)
    have F63 : Fld Z h62 a1 "com/example/topple/topple/markov/PoissonWeights" "weight" "D" (.double w1) := F12.same W62
    have F64 : Exa Z h62 a1 "com/example/topple/topple/markov/PoissonWeights" := (F7.wr W62)
    have F65 : Fld Z h62 a1 "com/example/topple/topple/markov/PoissonWeights" "count" "I" (.int cn) := (F6.other W62 (Or.inr (slot_ne (Or.inl (hw _ (List.mem_of_getElem? (i := 12) rfl))) (Or.inl (hw _ (List.mem_of_getElem? (i := 28) rfl))) (by decide) (t := .int) (t' := .double) (by decide) (by decide))))
    have F66 : Fld Z h62 a1 "com/example/topple/topple/markov/PoissonWeights" "mean" "D" (.double pm) := (F8.other W62 (Or.inr (slot_ne (Or.inr (hw _ (List.mem_of_getElem? (i := 14) rfl))) (Or.inl (hw _ (List.mem_of_getElem? (i := 28) rfl))) (by decide) (t := .double) (t' := .double) (by decide) (by decide))))
    have F67 : Fld Z h62 a1 "com/example/topple/topple/markov/PoissonWeights" "mode" "I" (.int mo) := (F9.other W62 (Or.inr (slot_ne (Or.inr (hw _ (List.mem_of_getElem? (i := 16) rfl))) (Or.inl (hw _ (List.mem_of_getElem? (i := 28) rfl))) (by decide) (t := .int) (t' := .double) (by decide) (by decide))))
    have F68 : Fld Z h62 a1 "com/example/topple/topple/markov/PoissonWeights" "fewest" "I" (.int ff) := (F10.other W62 (Or.inr (slot_ne (Or.inr (hw _ (List.mem_of_getElem? (i := 18) rfl))) (Or.inl (hw _ (List.mem_of_getElem? (i := 28) rfl))) (by decide) (t := .int) (t' := .double) (by decide) (by decide))))
    have F69 : Fld Z h62 a1 "com/example/topple/topple/markov/PoissonWeights" "toMode" "[D" (.ref ta) := (F11.other W62 (Or.inr (slot_ne (Or.inr (hw _ (List.mem_of_getElem? (i := 21) rfl))) (Or.inl (hw _ (List.mem_of_getElem? (i := 28) rfl))) (by decide) (t := (.array .double)) (t' := .double) (by decide) (by decide))))
    have F70 : OwnArr.Ag Z h62 ta .double N (fun i => .double (tf i)) := (F13.other W62 hne)
    have N62 := Fr.snoc X62 N5 g_a1
    have K71 : Keep h0 h62 [a1] := K14.wr W62 (Or.inl (List.mem_of_getElem? (i := 0) rfl))
    have c72 : ∀ t, Steps p.tables e below (T62.setTop (mkF m 68 #[.val (.ref a1)] [])) t → Steps p.tables e below (s₁.setTop (entryFrame m #[(.ref a1)] 1)) t := fun t k => c61 t (st62 _ k)
    have c73 : ∀ t, Steps p.tables e below (T62.setTop (mkF m 69 #[.val (.ref a1)] [(.ref a1)])) t → Steps p.tables e below (s₁.setTop (entryFrame m #[(.ref a1)] 1)) t := fun t k => c72 t (by
      show Steps p.tables e below (T62.setTop (mkF m 68 #[.val (.ref a1)] [])) _
      refine XS.aloadN X62.here hx rfl (hb hby d3_68) rfl rfl ?_
      show Steps p.tables e below (T62.setTop (mkF m 69 #[.val (.ref a1)] [(.ref a1)])) _
      exact k)
    obtain ⟨T74, X74, e74, st74⟩ := getF X62 hx hZ hown (host := "") (Or.inl (hw _ (List.mem_of_getElem? (i := 27) rfl))) Via.refl e62 F63 (g := (mkF m 69 #[.val (.ref a1)] [(.ref a1)])) rfl rfl (hb hby d3_69)
    have c75 : ∀ t, Steps p.tables e below (T74.setTop (mkF m 72 #[.val (.ref a1)] [(.double w1)])) t → Steps p.tables e below (s₁.setTop (entryFrame m #[(.ref a1)] 1)) t := fun t k => c73 t (st74 _ k)
    obtain ⟨fs, hr, hrun, hended, hW, hsame⟩ := X74.leave (v := (some (.double w1))) (fun h => by rw [Bd.returns] at h; cases h)
    refine ⟨_, _, pre0 _ (c75 _ (retOut X74 hx (t := .double) (i := .dreturn) Bd.returns rfl (Or.inr (Or.inr (Or.inl ⟨rfl, rfl, _, rfl⟩))) (hb hby d3_72) hr)), hrun, hended, _, _, rfl, ?_, ⟨_, rfl⟩, hW, hsame.mono (by decide) (by decide)⟩
    show Q_nx Z a1 ta pm ci cn mo ff w0 w1 N J tf h0 n0 _ T74.heap _
    rw [e74]
    exact ⟨rfl, N62, K71, F64, F65, F66, F67, F68, F69, F63⟩
theorem d4_0 : decode prog_39_method_4_code 0 = .ok (.aload_n 0, 1) := by decide +kernel
theorem d4_1 : decode prog_39_method_4_code 1 = .ok (.getfield 7, 3) := by decide +kernel
theorem d4_4 : decode prog_39_method_4_code 4 = .ok (.aload_n 0, 1) := by decide +kernel
theorem d4_5 : decode prog_39_method_4_code 5 = .ok (.getfield 17, 3) := by decide +kernel
theorem d4_8 : decode prog_39_method_4_code 8 = .ok (.if_icmp .ge 7, 3) := by decide +kernel
theorem d4_11 : decode prog_39_method_4_code 11 = .ok (.ldc2_w 34, 3) := by decide +kernel
theorem d4_14 : decode prog_39_method_4_code 14 = .ok (.dreturn, 1) := by decide +kernel
theorem ef_t0 (m : MethodId) (a1 : Addr) (cn : Int32) (mo : Int32) : entryFrame m #[(.ref a1)] 1 = (mkF m 0 #[.val (.ref a1)] []) := by first | (simp [entryFrame, mkF, argsToLocals, Value.category]; done) | rfl
def Q_t0 (Z : State) (a1 : Addr) (cn : Int32) (mo : Int32) (h0 : Heap) (n0 : Nat) (v : Option Value) (h : Heap) (L : List Loc) : Prop := v = some (.double (9218868437227405312 : UInt64)) ∧ Fr n0 L ∧ h = h0
set_option maxRecDepth 65536 in
set_option maxHeartbeats 2000000 in
theorem rm_t0 (l : Launch) (Z : State) (a0 : Array Value) (hw : ∀ d ∈ tables_1, d.before a0 Z = true) (ws : List Jvm.Cond) (a1 : Addr) (cn : Int32) (mo : Int32) (h0 : Heap) (n0 : Nat) (Z0 : n0 ≤ h0.size) (G_0 : Fld Z h0 a1 "com/example/topple/topple/markov/PoissonWeights" "count" "I" (.int cn)) (G_1 : Fld Z h0 a1 "com/example/topple/topple/markov/PoissonWeights" "mode" "I" (.int mo)) (hlt : cn < mo) :
    MetFree l (⟨"com/example/topple/topple/markov/PoissonWeights", "tail", "()D"⟩ : MethodName) (head1 (Jvm.Cond.code (⟨"com/example/topple/topple/markov/PoissonWeights", "tail", "()D"⟩ : MethodName) prog_39_method_4_code 1 (some .double) :: ws) ({ frames := 0, cells := 0, slots := 0, locals := 0 } : Room)) (fun aa UU => aa = #[(.ref a1)] ∧ Z.Warmed39 UU.vm ∧ UU.heap = h0) (fun _ _ _ _ _ => True) (fun _ UU oo UU' => ∃ v L, oo = .returned v ∧ Q_t0 Z a1 cn mo h0 n0 v UU'.heap L ∧ FrameEnd UU oo UU' L ({ frames := 0, cells := 0, slots := 0, locals := 0 } : Room).cells ({ frames := 0, cells := 0, slots := 0, locals := 0 } : Room).slots) := by
  refine MetFree.of_bodySF (plainFor_of_name pn_com_example_topple_topple_markov_PoissonWeights) hisR ?_
  intro p e s m args below meth c s₁ Bd hml0 hP hK
  obtain ⟨rfl, hZ, hh⟩ := hP
  have hx := Bd.exec
  have hby := Bd.bytes
  have hml : c.maxLocals = 1 := hml0
  have hown : s.vm.findClass "com/example/topple/topple/markov/PoissonWeights" = some m.cls := findClass_of_methodNamed Bd.named
  have hnaM := (name_of_methodNamed Bd.named Bd.method).1
  have X0 : Stand p l e ({ frames := 0, cells := 0, slots := 0, locals := 0 } : Room) s m #[(.ref a1)] below meth c s₁ [] 0 0 := Stand.of_body Bd
  have e0 : s₁.heap = h0 := by rw [← hh, Bd.state]; rfl
  have N0 := Fr.nil n0
  have pre0 : ∀ t, Steps p.tables e below (s₁.setTop (entryFrame m #[(.ref a1)] 1)) t → Steps p.tables e below (s₁.setTop (entryFrame m #[(.ref a1)] 1)) t := fun t k => k
  have c0 : ∀ t, Steps p.tables e below (s₁.setTop (mkF m 0 #[.val (.ref a1)] [])) t → Steps p.tables e below (s₁.setTop (entryFrame m #[(.ref a1)] 1)) t := fun t k => castTop (ef_t0 m a1 cn mo) k
  have c1 : ∀ t, Steps p.tables e below (s₁.setTop (mkF m 1 #[.val (.ref a1)] [(.ref a1)])) t → Steps p.tables e below (s₁.setTop (entryFrame m #[(.ref a1)] 1)) t := fun t k => c0 t (by
    show Steps p.tables e below (s₁.setTop (mkF m 0 #[.val (.ref a1)] [])) _
    refine XS.aloadN X0.here hx rfl (hb hby d4_0) rfl rfl ?_
    show Steps p.tables e below (s₁.setTop (mkF m 1 #[.val (.ref a1)] [(.ref a1)])) _
    exact k)
  obtain ⟨T2, X2, e2, st2⟩ := getF X0 hx hZ hown (host := "") (Or.inl (hw _ (List.mem_of_getElem? (i := 11) rfl))) Via.refl e0 G_0 (g := (mkF m 1 #[.val (.ref a1)] [(.ref a1)])) rfl rfl (hb hby d4_1)
  have c3 : ∀ t, Steps p.tables e below (T2.setTop (mkF m 4 #[.val (.ref a1)] [(.int cn)])) t → Steps p.tables e below (s₁.setTop (entryFrame m #[(.ref a1)] 1)) t := fun t k => c1 t (st2 _ k)
  have c4 : ∀ t, Steps p.tables e below (T2.setTop (mkF m 5 #[.val (.ref a1)] [(.ref a1), (.int cn)])) t → Steps p.tables e below (s₁.setTop (entryFrame m #[(.ref a1)] 1)) t := fun t k => c3 t (by
    show Steps p.tables e below (T2.setTop (mkF m 4 #[.val (.ref a1)] [(.int cn)])) _
    refine XS.aloadN X2.here hx rfl (hb hby d4_4) rfl rfl ?_
    show Steps p.tables e below (T2.setTop (mkF m 5 #[.val (.ref a1)] [(.ref a1), (.int cn)])) _
    exact k)
  obtain ⟨T5, X5, e5, st5⟩ := getF X2 hx hZ hown (host := "") (Or.inl (hw _ (List.mem_of_getElem? (i := 15) rfl))) Via.refl e2 G_1 (g := (mkF m 5 #[.val (.ref a1)] [(.ref a1), (.int cn)])) rfl rfl (hb hby d4_5)
  have c6 : ∀ t, Steps p.tables e below (T5.setTop (mkF m 8 #[.val (.ref a1)] [(.int mo), (.int cn)])) t → Steps p.tables e below (s₁.setTop (entryFrame m #[(.ref a1)] 1)) t := fun t k => c4 t (st5 _ k)
  have c7 : ∀ t, Steps p.tables e below (T5.setTop (mkF m 14 #[.val (.ref a1)] [(.double (9218868437227405312 : UInt64))])) t → Steps p.tables e below (s₁.setTop (entryFrame m #[(.ref a1)] 1)) t := fun t k => c6 t (by
    show Steps p.tables e below (T5.setTop (mkF m 8 #[.val (.ref a1)] [(.int mo), (.int cn)])) _
    refine XS.icmpNo X5.here hx rfl (hb hby d4_8) rfl (XT.ii_ge_f hlt) ?_
    show Steps p.tables e below (T5.setTop (mkF m 11 #[.val (.ref a1)] [])) _
    refine Jvm.Stand.ldc2DoubleC X5 hx hown (mvT hZ (hw _ (List.mem_of_getElem? (i := 35) rfl))) (g := (mkF m 11 #[.val (.ref a1)] [])) rfl (hb hby d4_11) _ ?_
    show Steps p.tables e below (T5.setTop (mkF m 14 #[.val (.ref a1)] [(.double (9218868437227405312 : UInt64))])) _
    exact k)
  obtain ⟨fs, hr, hrun, hended, hW, hsame⟩ := X5.leave (v := (some (.double (9218868437227405312 : UInt64)))) (fun h => by rw [Bd.returns] at h; cases h)
  refine ⟨_, _, pre0 _ (c7 _ (retOut X5 hx (t := .double) (i := .dreturn) Bd.returns rfl (Or.inr (Or.inr (Or.inl ⟨rfl, rfl, _, rfl⟩))) (hb hby d4_14) hr)), hrun, hended, _, _, rfl, ?_, ⟨_, rfl⟩, hW, hsame.mono (by decide) (by decide)⟩
  show Q_t0 Z a1 cn mo h0 n0 _ T5.heap _
  rw [e5]
  exact ⟨rfl, N0, rfl⟩
theorem d4_15 : decode prog_39_method_4_code 15 = .ok (.aload_n 0, 1) := by decide +kernel
theorem d4_16 : decode prog_39_method_4_code 16 = .ok (.getfield 29, 3) := by decide +kernel
theorem d4_19 : decode prog_39_method_4_code 19 = .ok (.aload_n 0, 1) := by decide +kernel
theorem d4_20 : decode prog_39_method_4_code 20 = .ok (.getfield 13, 3) := by decide +kernel
theorem d4_23 : decode prog_39_method_4_code 23 = .ok (.dmul, 1) := by decide +kernel
theorem d4_24 : decode prog_39_method_4_code 24 = .ok (.aload_n 0, 1) := by decide +kernel
theorem d4_25 : decode prog_39_method_4_code 25 = .ok (.getfield 7, 3) := by decide +kernel
theorem d4_28 : decode prog_39_method_4_code 28 = .ok (.iconst 1, 1) := by decide +kernel
theorem d4_29 : decode prog_39_method_4_code 29 = .ok (.iadd, 1) := by decide +kernel
theorem d4_30 : decode prog_39_method_4_code 30 = .ok (.i2d, 1) := by decide +kernel
theorem d4_31 : decode prog_39_method_4_code 31 = .ok (.ddiv, 1) := by decide +kernel
theorem d4_32 : decode prog_39_method_4_code 32 = .ok (.dconst 1, 1) := by decide +kernel
theorem d4_33 : decode prog_39_method_4_code 33 = .ok (.aload_n 0, 1) := by decide +kernel
theorem d4_34 : decode prog_39_method_4_code 34 = .ok (.getfield 13, 3) := by decide +kernel
theorem d4_37 : decode prog_39_method_4_code 37 = .ok (.aload_n 0, 1) := by decide +kernel
theorem d4_38 : decode prog_39_method_4_code 38 = .ok (.getfield 7, 3) := by decide +kernel
theorem d4_41 : decode prog_39_method_4_code 41 = .ok (.iconst 2, 1) := by decide +kernel
theorem d4_42 : decode prog_39_method_4_code 42 = .ok (.iadd, 1) := by decide +kernel
theorem d4_43 : decode prog_39_method_4_code 43 = .ok (.i2d, 1) := by decide +kernel
theorem d4_44 : decode prog_39_method_4_code 44 = .ok (.ddiv, 1) := by decide +kernel
theorem d4_45 : decode prog_39_method_4_code 45 = .ok (.dsub, 1) := by decide +kernel
theorem d4_46 : decode prog_39_method_4_code 46 = .ok (.ddiv, 1) := by decide +kernel
theorem d4_47 : decode prog_39_method_4_code 47 = .ok (.dreturn, 1) := by decide +kernel
theorem ef_t1 (m : MethodId) (a1 : Addr) (cn : Int32) (mo : Int32) (pm : UInt64) (w0 : UInt64) : entryFrame m #[(.ref a1)] 1 = (mkF m 0 #[.val (.ref a1)] []) := by first | (simp [entryFrame, mkF, argsToLocals, Value.category]; done) | rfl
def Q_t1 (Z : State) (a1 : Addr) (cn : Int32) (mo : Int32) (pm : UInt64) (w0 : UInt64) (h0 : Heap) (n0 : Nat) (v : Option Value) (h : Heap) (L : List Loc) : Prop := v = some (.double (FP.ddiv (FP.ddiv (FP.dmul w0 pm) (FP.i2d (cn + (1 : Int32)))) (FP.dsub FP.dconst1 (FP.ddiv pm (FP.i2d (cn + (2 : Int32))))))) ∧ Fr n0 L ∧ h = h0
set_option maxRecDepth 65536 in
set_option maxHeartbeats 2000000 in
theorem rm_t1 (l : Launch) (Z : State) (a0 : Array Value) (hw : ∀ d ∈ tables_1, d.before a0 Z = true) (ws : List Jvm.Cond) (a1 : Addr) (cn : Int32) (mo : Int32) (pm : UInt64) (w0 : UInt64) (h0 : Heap) (n0 : Nat) (Z0 : n0 ≤ h0.size) (G_0 : Fld Z h0 a1 "com/example/topple/topple/markov/PoissonWeights" "count" "I" (.int cn)) (G_1 : Fld Z h0 a1 "com/example/topple/topple/markov/PoissonWeights" "mean" "D" (.double pm)) (G_2 : Fld Z h0 a1 "com/example/topple/topple/markov/PoissonWeights" "mode" "I" (.int mo)) (G_3 : Fld Z h0 a1 "com/example/topple/topple/markov/PoissonWeights" "weight" "D" (.double w0)) (hlt : ¬ cn < mo) (y1 : Jvm.Free.Fl.NoNaN64 (FP.dmul w0 pm)) (y2 : Jvm.Free.Fl.NoNaN64 (FP.ddiv (FP.dmul w0 pm) (FP.i2d (cn + (1 : Int32))))) (y3 : Jvm.Free.Fl.NoNaN64 (FP.ddiv pm (FP.i2d (cn + (2 : Int32))))) (y4 : Jvm.Free.Fl.NoNaN64 (FP.dsub FP.dconst1 (FP.ddiv pm (FP.i2d (cn + (2 : Int32)))))) (y5 : Jvm.Free.Fl.NoNaN64 (FP.ddiv (FP.ddiv (FP.dmul w0 pm) (FP.i2d (cn + (1 : Int32)))) (FP.dsub FP.dconst1 (FP.ddiv pm (FP.i2d (cn + (2 : Int32))))))) :
    MetFree l (⟨"com/example/topple/topple/markov/PoissonWeights", "tail", "()D"⟩ : MethodName) (head1 (Jvm.Cond.code (⟨"com/example/topple/topple/markov/PoissonWeights", "tail", "()D"⟩ : MethodName) prog_39_method_4_code 1 (some .double) :: ws) ({ frames := 0, cells := 0, slots := 0, locals := 0 } : Room)) (fun aa UU => aa = #[(.ref a1)] ∧ Z.Warmed39 UU.vm ∧ UU.heap = h0) (fun _ _ _ _ _ => True) (fun _ UU oo UU' => ∃ v L, oo = .returned v ∧ Q_t1 Z a1 cn mo pm w0 h0 n0 v UU'.heap L ∧ FrameEnd UU oo UU' L ({ frames := 0, cells := 0, slots := 0, locals := 0 } : Room).cells ({ frames := 0, cells := 0, slots := 0, locals := 0 } : Room).slots) := by
  refine MetFree.of_bodySF (plainFor_of_name pn_com_example_topple_topple_markov_PoissonWeights) hisR ?_
  intro p e s m args below meth c s₁ Bd hml0 hP hK
  obtain ⟨rfl, hZ, hh⟩ := hP
  have hx := Bd.exec
  have hby := Bd.bytes
  have hml : c.maxLocals = 1 := hml0
  have hown : s.vm.findClass "com/example/topple/topple/markov/PoissonWeights" = some m.cls := findClass_of_methodNamed Bd.named
  have hnaM := (name_of_methodNamed Bd.named Bd.method).1
  have X0 : Stand p l e ({ frames := 0, cells := 0, slots := 0, locals := 0 } : Room) s m #[(.ref a1)] below meth c s₁ [] 0 0 := Stand.of_body Bd
  have e0 : s₁.heap = h0 := by rw [← hh, Bd.state]; rfl
  have N0 := Fr.nil n0
  have pre0 : ∀ t, Steps p.tables e below (s₁.setTop (entryFrame m #[(.ref a1)] 1)) t → Steps p.tables e below (s₁.setTop (entryFrame m #[(.ref a1)] 1)) t := fun t k => k
  have c0 : ∀ t, Steps p.tables e below (s₁.setTop (mkF m 0 #[.val (.ref a1)] [])) t → Steps p.tables e below (s₁.setTop (entryFrame m #[(.ref a1)] 1)) t := fun t k => castTop (ef_t1 m a1 cn mo pm w0) k
  have c1 : ∀ t, Steps p.tables e below (s₁.setTop (mkF m 1 #[.val (.ref a1)] [(.ref a1)])) t → Steps p.tables e below (s₁.setTop (entryFrame m #[(.ref a1)] 1)) t := fun t k => c0 t (by
    show Steps p.tables e below (s₁.setTop (mkF m 0 #[.val (.ref a1)] [])) _
    refine XS.aloadN X0.here hx rfl (hb hby d4_0) rfl rfl ?_
    show Steps p.tables e below (s₁.setTop (mkF m 1 #[.val (.ref a1)] [(.ref a1)])) _
    exact k)
  obtain ⟨T2, X2, e2, st2⟩ := getF X0 hx hZ hown (host := "") (Or.inl (hw _ (List.mem_of_getElem? (i := 11) rfl))) Via.refl e0 G_0 (g := (mkF m 1 #[.val (.ref a1)] [(.ref a1)])) rfl rfl (hb hby d4_1)
  have c3 : ∀ t, Steps p.tables e below (T2.setTop (mkF m 4 #[.val (.ref a1)] [(.int cn)])) t → Steps p.tables e below (s₁.setTop (entryFrame m #[(.ref a1)] 1)) t := fun t k => c1 t (st2 _ k)
  have c4 : ∀ t, Steps p.tables e below (T2.setTop (mkF m 5 #[.val (.ref a1)] [(.ref a1), (.int cn)])) t → Steps p.tables e below (s₁.setTop (entryFrame m #[(.ref a1)] 1)) t := fun t k => c3 t (by
    show Steps p.tables e below (T2.setTop (mkF m 4 #[.val (.ref a1)] [(.int cn)])) _
    refine XS.aloadN X2.here hx rfl (hb hby d4_4) rfl rfl ?_
    show Steps p.tables e below (T2.setTop (mkF m 5 #[.val (.ref a1)] [(.ref a1), (.int cn)])) _
    exact k)
  obtain ⟨T5, X5, e5, st5⟩ := getF X2 hx hZ hown (host := "") (Or.inl (hw _ (List.mem_of_getElem? (i := 15) rfl))) Via.refl e2 G_2 (g := (mkF m 5 #[.val (.ref a1)] [(.ref a1), (.int cn)])) rfl rfl (hb hby d4_5)
  have c6 : ∀ t, Steps p.tables e below (T5.setTop (mkF m 8 #[.val (.ref a1)] [(.int mo), (.int cn)])) t → Steps p.tables e below (s₁.setTop (entryFrame m #[(.ref a1)] 1)) t := fun t k => c4 t (st5 _ k)
  have c7 : ∀ t, Steps p.tables e below (T5.setTop (mkF m 16 #[.val (.ref a1)] [(.ref a1)])) t → Steps p.tables e below (s₁.setTop (entryFrame m #[(.ref a1)] 1)) t := fun t k => c6 t (by
    show Steps p.tables e below (T5.setTop (mkF m 8 #[.val (.ref a1)] [(.int mo), (.int cn)])) _
    refine XS.icmpYes X5.here hx rfl (pc0 := 8) (pc' := 15) rfl (hb hby d4_8) rfl (XT.ii_ge_t hlt) (by decide) (by decide) ?_
    show Steps p.tables e below (T5.setTop (mkF m 15 #[.val (.ref a1)] [])) _
    refine XS.aloadN X5.here hx rfl (hb hby d4_15) rfl rfl ?_
    show Steps p.tables e below (T5.setTop (mkF m 16 #[.val (.ref a1)] [(.ref a1)])) _
    exact k)
  obtain ⟨T8, X8, e8, st8⟩ := getF X5 hx hZ hown (host := "") (Or.inl (hw _ (List.mem_of_getElem? (i := 27) rfl))) Via.refl e5 G_3 (g := (mkF m 16 #[.val (.ref a1)] [(.ref a1)])) rfl rfl (hb hby d4_16)
  have c9 : ∀ t, Steps p.tables e below (T8.setTop (mkF m 19 #[.val (.ref a1)] [(.double w0)])) t → Steps p.tables e below (s₁.setTop (entryFrame m #[(.ref a1)] 1)) t := fun t k => c7 t (st8 _ k)
  have c10 : ∀ t, Steps p.tables e below (T8.setTop (mkF m 20 #[.val (.ref a1)] [(.ref a1), (.double w0)])) t → Steps p.tables e below (s₁.setTop (entryFrame m #[(.ref a1)] 1)) t := fun t k => c9 t (by
    show Steps p.tables e below (T8.setTop (mkF m 19 #[.val (.ref a1)] [(.double w0)])) _
    refine XS.aloadN X8.here hx rfl (hb hby d4_19) rfl rfl ?_
    show Steps p.tables e below (T8.setTop (mkF m 20 #[.val (.ref a1)] [(.ref a1), (.double w0)])) _
    exact k)
  obtain ⟨T11, X11, e11, st11⟩ := getF X8 hx hZ hown (host := "") (Or.inl (hw _ (List.mem_of_getElem? (i := 13) rfl))) Via.refl e8 G_1 (g := (mkF m 20 #[.val (.ref a1)] [(.ref a1), (.double w0)])) rfl rfl (hb hby d4_20)
  have c12 : ∀ t, Steps p.tables e below (T11.setTop (mkF m 23 #[.val (.ref a1)] [(.double pm), (.double w0)])) t → Steps p.tables e below (s₁.setTop (entryFrame m #[(.ref a1)] 1)) t := fun t k => c10 t (st11 _ k)
  obtain ⟨d23, hd23⟩ : ∃ v : UInt64, FP.dmul w0 pm = v := ⟨_, rfl⟩
  have c13 : ∀ t, Steps p.tables e below (T11.setTop (mkF m 25 #[.val (.ref a1)] [(.ref a1), (.double d23)])) t → Steps p.tables e below (s₁.setTop (entryFrame m #[(.ref a1)] 1)) t := fun t k => c12 t (by
    show Steps p.tables e below (T11.setTop (mkF m 23 #[.val (.ref a1)] [(.double pm), (.double w0)])) _
    refine XS.dmulS X11.here hx rfl (hb hby d4_23) rfl y1 hd23 ?_
    show Steps p.tables e below (T11.setTop (mkF m 24 #[.val (.ref a1)] [(.double d23)])) _
    refine XS.aloadN X11.here hx rfl (hb hby d4_24) rfl rfl ?_
    show Steps p.tables e below (T11.setTop (mkF m 25 #[.val (.ref a1)] [(.ref a1), (.double d23)])) _
    exact k)
  obtain ⟨T14, X14, e14, st14⟩ := getF X11 hx hZ hown (host := "") (Or.inl (hw _ (List.mem_of_getElem? (i := 11) rfl))) Via.refl e11 G_0 (g := (mkF m 25 #[.val (.ref a1)] [(.ref a1), (.double d23)])) rfl rfl (hb hby d4_25)
  have c15 : ∀ t, Steps p.tables e below (T14.setTop (mkF m 28 #[.val (.ref a1)] [(.int cn), (.double d23)])) t → Steps p.tables e below (s₁.setTop (entryFrame m #[(.ref a1)] 1)) t := fun t k => c13 t (st14 _ k)
  obtain ⟨d30, hd30⟩ : ∃ v : UInt64, FP.i2d (cn + (1 : Int32)) = v := ⟨_, rfl⟩
  obtain ⟨d31, hd31⟩ : ∃ v : UInt64, FP.ddiv d23 d30 = v := ⟨_, rfl⟩
  have n31 : Jvm.Free.Fl.NoNaN64 (FP.ddiv d23 d30) := by rw [← hd23, ← hd30]; exact y2
  have c16 : ∀ t, Steps p.tables e below (T14.setTop (mkF m 34 #[.val (.ref a1)] [(.ref a1), (.double FP.dconst1), (.double d31)])) t → Steps p.tables e below (s₁.setTop (entryFrame m #[(.ref a1)] 1)) t := fun t k => c15 t (by
    show Steps p.tables e below (T14.setTop (mkF m 28 #[.val (.ref a1)] [(.int cn), (.double d23)])) _
    refine XS.iconst X14.here hx rfl (hb hby d4_28) ?_
    show Steps p.tables e below (T14.setTop (mkF m 29 #[.val (.ref a1)] [(.int (1 : Int32)), (.int cn), (.double d23)])) _
    refine XS.iadd X14.here hx rfl (hb hby d4_29) rfl ?_
    show Steps p.tables e below (T14.setTop (mkF m 30 #[.val (.ref a1)] [(.int (cn + (1 : Int32))), (.double d23)])) _
    refine XS.i2dS X14.here hx rfl (hb hby d4_30) rfl hd30 ?_
    show Steps p.tables e below (T14.setTop (mkF m 31 #[.val (.ref a1)] [(.double d30), (.double d23)])) _
    refine XS.ddivS X14.here hx rfl (hb hby d4_31) rfl n31 hd31 ?_
    show Steps p.tables e below (T14.setTop (mkF m 32 #[.val (.ref a1)] [(.double d31)])) _
    refine XS.dconst1 X14.here hx rfl (hb hby d4_32) rfl ?_
    show Steps p.tables e below (T14.setTop (mkF m 33 #[.val (.ref a1)] [(.double FP.dconst1), (.double d31)])) _
    refine XS.aloadN X14.here hx rfl (hb hby d4_33) rfl rfl ?_
    show Steps p.tables e below (T14.setTop (mkF m 34 #[.val (.ref a1)] [(.ref a1), (.double FP.dconst1), (.double d31)])) _
    exact k)
  obtain ⟨T17, X17, e17, st17⟩ := getF X14 hx hZ hown (host := "") (Or.inl (hw _ (List.mem_of_getElem? (i := 13) rfl))) Via.refl e14 G_1 (g := (mkF m 34 #[.val (.ref a1)] [(.ref a1), (.double FP.dconst1), (.double d31)])) rfl rfl (hb hby d4_34)
  have c18 : ∀ t, Steps p.tables e below (T17.setTop (mkF m 37 #[.val (.ref a1)] [(.double pm), (.double FP.dconst1), (.double d31)])) t → Steps p.tables e below (s₁.setTop (entryFrame m #[(.ref a1)] 1)) t := fun t k => c16 t (st17 _ k)
  have c19 : ∀ t, Steps p.tables e below (T17.setTop (mkF m 38 #[.val (.ref a1)] [(.ref a1), (.double pm), (.double FP.dconst1), (.double d31)])) t → Steps p.tables e below (s₁.setTop (entryFrame m #[(.ref a1)] 1)) t := fun t k => c18 t (by
    show Steps p.tables e below (T17.setTop (mkF m 37 #[.val (.ref a1)] [(.double pm), (.double FP.dconst1), (.double d31)])) _
    refine XS.aloadN X17.here hx rfl (hb hby d4_37) rfl rfl ?_
    show Steps p.tables e below (T17.setTop (mkF m 38 #[.val (.ref a1)] [(.ref a1), (.double pm), (.double FP.dconst1), (.double d31)])) _
    exact k)
  obtain ⟨T20, X20, e20, st20⟩ := getF X17 hx hZ hown (host := "") (Or.inl (hw _ (List.mem_of_getElem? (i := 11) rfl))) Via.refl e17 G_0 (g := (mkF m 38 #[.val (.ref a1)] [(.ref a1), (.double pm), (.double FP.dconst1), (.double d31)])) rfl rfl (hb hby d4_38)
  have c21 : ∀ t, Steps p.tables e below (T20.setTop (mkF m 41 #[.val (.ref a1)] [(.int cn), (.double pm), (.double FP.dconst1), (.double d31)])) t → Steps p.tables e below (s₁.setTop (entryFrame m #[(.ref a1)] 1)) t := fun t k => c19 t (st20 _ k)
  obtain ⟨d43, hd43⟩ : ∃ v : UInt64, FP.i2d (cn + (2 : Int32)) = v := ⟨_, rfl⟩
  obtain ⟨d44, hd44⟩ : ∃ v : UInt64, FP.ddiv pm d43 = v := ⟨_, rfl⟩
  have n44 : Jvm.Free.Fl.NoNaN64 (FP.ddiv pm d43) := by rw [← hd43]; exact y3
  obtain ⟨d45, hd45⟩ : ∃ v : UInt64, FP.dsub FP.dconst1 d44 = v := ⟨_, rfl⟩
  have n45 : Jvm.Free.Fl.NoNaN64 (FP.dsub FP.dconst1 d44) := by rw [← hd44, ← hd43]; exact y4
  obtain ⟨d46, hd46⟩ : ∃ v : UInt64, FP.ddiv d31 d45 = v := ⟨_, rfl⟩
  have n46 : Jvm.Free.Fl.NoNaN64 (FP.ddiv d31 d45) := by rw [← hd31, ← hd45, ← hd23, ← hd30, ← hd44, ← hd43]; exact y5
  have c22 : ∀ t, Steps p.tables e below (T20.setTop (mkF m 47 #[.val (.ref a1)] [(.double d46)])) t → Steps p.tables e below (s₁.setTop (entryFrame m #[(.ref a1)] 1)) t := fun t k => c21 t (by
    show Steps p.tables e below (T20.setTop (mkF m 41 #[.val (.ref a1)] [(.int cn), (.double pm), (.double FP.dconst1), (.double d31)])) _
    refine XS.iconst X20.here hx rfl (hb hby d4_41) ?_
    show Steps p.tables e below (T20.setTop (mkF m 42 #[.val (.ref a1)] [(.int (2 : Int32)), (.int cn), (.double pm), (.double FP.dconst1), (.double d31)])) _
    refine XS.iadd X20.here hx rfl (hb hby d4_42) rfl ?_
    show Steps p.tables e below (T20.setTop (mkF m 43 #[.val (.ref a1)] [(.int (cn + (2 : Int32))), (.double pm), (.double FP.dconst1), (.double d31)])) _
    refine XS.i2dS X20.here hx rfl (hb hby d4_43) rfl hd43 ?_
    show Steps p.tables e below (T20.setTop (mkF m 44 #[.val (.ref a1)] [(.double d43), (.double pm), (.double FP.dconst1), (.double d31)])) _
    refine XS.ddivS X20.here hx rfl (hb hby d4_44) rfl n44 hd44 ?_
    show Steps p.tables e below (T20.setTop (mkF m 45 #[.val (.ref a1)] [(.double d44), (.double FP.dconst1), (.double d31)])) _
    refine XS.dsubS X20.here hx rfl (hb hby d4_45) rfl n45 hd45 ?_
    show Steps p.tables e below (T20.setTop (mkF m 46 #[.val (.ref a1)] [(.double d45), (.double d31)])) _
    refine XS.ddivS X20.here hx rfl (hb hby d4_46) rfl n46 hd46 ?_
    show Steps p.tables e below (T20.setTop (mkF m 47 #[.val (.ref a1)] [(.double d46)])) _
    exact k)
  obtain ⟨fs, hr, hrun, hended, hW, hsame⟩ := X20.leave (v := (some (.double d46))) (fun h => by rw [Bd.returns] at h; cases h)
  refine ⟨_, _, pre0 _ (c22 _ (retOut X20 hx (t := .double) (i := .dreturn) Bd.returns rfl (Or.inr (Or.inr (Or.inl ⟨rfl, rfl, _, rfl⟩))) (hb hby d4_47) hr)), hrun, hended, _, _, rfl, ?_, ⟨_, rfl⟩, hW, hsame.mono (by decide) (by decide)⟩
  show Q_t1 Z a1 cn mo pm w0 h0 n0 _ T20.heap _
  rw [e20]
  exact ⟨by rw [← hd46, ← hd31, ← hd45, ← hd23, ← hd30, ← hd44, ← hd43], N0, rfl⟩
theorem ef_0 (m : MethodId) (p1 : Int32) (p2 : Int32) : entryFrame m #[(.int p1), (.int p2)] maxLocals = (mkF m 0 #[.val (.int p1), .val (.int p2), .unset, .unset, .unset, .unset, .unset, .unset, .unset, .unset, .unset, .unset, .unset, .unset, .unset, .unset, .unset] []) := by first | (simp [entryFrame, mkF, argsToLocals, Value.category, maxLocals]; done) | rfl
def Q_0 (Z : State) (p1 : Int32) (p2 : Int32) (h0 : Heap) (n0 : Nat) (v : Option Value) (h : Heap) (L : List Loc) : Prop := v = some (.int 1) ∧ Fr n0 L
set_option maxRecDepth 65536 in
set_option maxHeartbeats 2000000 in
theorem rm_0 (l : Launch) (Z : State) (a0 : Array Value) (hw : ∀ d ∈ tables_1, d.before a0 Z = true) (ws : List Jvm.Cond) (p1 : Int32) (p2 : Int32) (h0 : Heap) (n0 : Nat) (Z0 : n0 ≤ h0.size)  :
    MetFree l x (head1 (Jvm.Cond.code x code maxLocals ret :: ws) room_1) (fun aa UU => aa = #[(.int p1), (.int p2)] ∧ Z.Warmed39 UU.vm ∧ UU.heap = h0) (fun _ _ _ _ _ => True) (fun _ UU oo UU' => ∃ v L, oo = .returned v ∧ Q_0 Z p1 p2 h0 n0 v UU'.heap L ∧ FrameEnd UU oo UU' L 16 128) := by
  refine MetFree.of_bodySF (plainFor_of_name pn_com_example_topple_topple_markov_PoissonWeightsTailPinLaw) hisR ?_
  intro p e s m args below meth c s₁ Bd hml0 hP hK
  obtain ⟨rfl, hZ, hh⟩ := hP
  have hx := Bd.exec
  have hby := Bd.bytes
  have hml : c.maxLocals = 17 := hml0
  have hown : s.vm.findClass "com/example/topple/topple/markov/PoissonWeightsTailPinLaw" = some m.cls := findClass_of_methodNamed Bd.named
  have hnaM := (name_of_methodNamed Bd.named Bd.method).1
  have X0 : Stand p l e room_1 s m #[(.int p1), (.int p2)] below meth c s₁ [] 0 0 := Stand.of_body Bd
  have e0 : s₁.heap = h0 := by rw [← hh, Bd.state]; rfl
  have N0 := Fr.nil n0
  have pre0 : ∀ t, Steps p.tables e below (s₁.setTop (entryFrame m #[(.int p1), (.int p2)] maxLocals)) t → Steps p.tables e below (s₁.setTop (entryFrame m #[(.int p1), (.int p2)] maxLocals)) t := fun t k => k
  have c0 : ∀ t, Steps p.tables e below (s₁.setTop (mkF m 0 #[.val (.int p1), .val (.int p2), .unset, .unset, .unset, .unset, .unset, .unset, .unset, .unset, .unset, .unset, .unset, .unset, .unset, .unset, .unset] [])) t → Steps p.tables e below (s₁.setTop (entryFrame m #[(.int p1), (.int p2)] maxLocals)) t := fun t k => castTop (ef_0 m p1 p2) k
  obtain ⟨jj, hjj⟩ : ∃ v : Int32, v = (p1 &&& (31 : Int32)) := ⟨_, rfl⟩
  have c1 : ∀ t, Steps p.tables e below (s₁.setTop (mkF m 5 #[.val (.int p1), .val (.int p2), .val (.int jj), .unset, .unset, .unset, .unset, .unset, .unset, .unset, .unset, .unset, .unset, .unset, .unset, .unset, .unset] [])) t → Steps p.tables e below (s₁.setTop (entryFrame m #[(.int p1), (.int p2)] maxLocals)) t := fun t k => c0 t (by
    rw [hjj] at k
    show Steps p.tables e below (s₁.setTop (mkF m 0 #[.val (.int p1), .val (.int p2), .unset, .unset, .unset, .unset, .unset, .unset, .unset, .unset, .unset, .unset, .unset, .unset, .unset, .unset, .unset] [])) _
    refine XS.iloadN X0.here hx rfl (hb hby at_0) rfl ?_
    show Steps p.tables e below (s₁.setTop (mkF m 1 #[.val (.int p1), .val (.int p2), .unset, .unset, .unset, .unset, .unset, .unset, .unset, .unset, .unset, .unset, .unset, .unset, .unset, .unset, .unset] [(.int p1)])) _
    refine XS.bipush X0.here hx rfl (hb hby at_1) ?_
    show Steps p.tables e below (s₁.setTop (mkF m 3 #[.val (.int p1), .val (.int p2), .unset, .unset, .unset, .unset, .unset, .unset, .unset, .unset, .unset, .unset, .unset, .unset, .unset, .unset, .unset] [(.int (31 : Int32)), (.int p1)])) _
    refine XS.iand X0.here hx rfl (hb hby at_3) rfl ?_
    show Steps p.tables e below (s₁.setTop (mkF m 4 #[.val (.int p1), .val (.int p2), .unset, .unset, .unset, .unset, .unset, .unset, .unset, .unset, .unset, .unset, .unset, .unset, .unset, .unset, .unset] [(.int (p1 &&& (31 : Int32)))])) _
    refine XS.istoreN X0.here hx rfl (hb hby at_4) rfl (l' := #[.val (.int p1), .val (.int p2), .val (.int (p1 &&& (31 : Int32))), .unset, .unset, .unset, .unset, .unset, .unset, .unset, .unset, .unset, .unset, .unset, .unset, .unset, .unset]) rfl ?_
    show Steps p.tables e below (s₁.setTop (mkF m 5 #[.val (.int p1), .val (.int p2), .val (.int (p1 &&& (31 : Int32))), .unset, .unset, .unset, .unset, .unset, .unset, .unset, .unset, .unset, .unset, .unset, .unset, .unset, .unset] [])) _
    exact k)
  obtain ⟨j0, hj, ej⟩ := j_k p1
  rw [← hjj] at ej
  obtain ⟨j, rfl⟩ : ∃ j : Fin 32, j0 = j.val := ⟨⟨j0, hj⟩, rfl⟩
  subst ej
  obtain ⟨d6, hd6⟩ : ∃ v : UInt64, FP.i2d (Int32.ofNat j.val) = v := ⟨_, rfl⟩
  have u10 : FP.ddiv d6 (4616189618054758400 : UInt64) = mnF j.val := by rw [← hd6]; rfl
  obtain ⟨md, hmd⟩ : ∃ v : Int32, v = ((Int32.ofNat j.val) / (4 : Int32)) := ⟨_, rfl⟩
  have c2 : ∀ t, Steps p.tables e below (s₁.setTop (mkF m 17 #[.val (.int p1), .val (.int p2), .val (.int (Int32.ofNat j.val)), .val (.double (mnF j.val)), .second, .val (.int md), .unset, .unset, .unset, .unset, .unset, .unset, .unset, .unset, .unset, .unset, .unset] [])) t → Steps p.tables e below (s₁.setTop (entryFrame m #[(.int p1), (.int p2)] maxLocals)) t := fun t k => c1 t (by
    rw [hmd] at k
    show Steps p.tables e below (s₁.setTop (mkF m 5 #[.val (.int p1), .val (.int p2), .val (.int (Int32.ofNat j.val)), .unset, .unset, .unset, .unset, .unset, .unset, .unset, .unset, .unset, .unset, .unset, .unset, .unset, .unset] [])) _
    refine XS.iloadN X0.here hx rfl (hb hby at_5) rfl ?_
    show Steps p.tables e below (s₁.setTop (mkF m 6 #[.val (.int p1), .val (.int p2), .val (.int (Int32.ofNat j.val)), .unset, .unset, .unset, .unset, .unset, .unset, .unset, .unset, .unset, .unset, .unset, .unset, .unset, .unset] [(.int (Int32.ofNat j.val))])) _
    refine XS.i2dS X0.here hx rfl (hb hby at_6) rfl hd6 ?_
    show Steps p.tables e below (s₁.setTop (mkF m 7 #[.val (.int p1), .val (.int p2), .val (.int (Int32.ofNat j.val)), .unset, .unset, .unset, .unset, .unset, .unset, .unset, .unset, .unset, .unset, .unset, .unset, .unset, .unset] [(.double d6)])) _
    refine Jvm.Stand.ldc2DoubleC X0 hx hown (mvT hZ (hw _ (List.mem_of_getElem? (i := 0) rfl))) (g := (mkF m 7 #[.val (.int p1), .val (.int p2), .val (.int (Int32.ofNat j.val)), .unset, .unset, .unset, .unset, .unset, .unset, .unset, .unset, .unset, .unset, .unset, .unset, .unset, .unset] [(.double d6)])) rfl (hb hby at_7) _ ?_
    show Steps p.tables e below (s₁.setTop (mkF m 10 #[.val (.int p1), .val (.int p2), .val (.int (Int32.ofNat j.val)), .unset, .unset, .unset, .unset, .unset, .unset, .unset, .unset, .unset, .unset, .unset, .unset, .unset, .unset] [(.double (4616189618054758400 : UInt64)), (.double d6)])) _
    refine XS.ddivS X0.here hx rfl (hb hby at_10) rfl (u10 ▸ (nn_of (mn_nn j))) u10 ?_
    show Steps p.tables e below (s₁.setTop (mkF m 11 #[.val (.int p1), .val (.int p2), .val (.int (Int32.ofNat j.val)), .unset, .unset, .unset, .unset, .unset, .unset, .unset, .unset, .unset, .unset, .unset, .unset, .unset, .unset] [(.double (mnF j.val))])) _
    refine XS.dstoreN X0.here hx rfl (hb hby at_11) rfl (l' := #[.val (.int p1), .val (.int p2), .val (.int (Int32.ofNat j.val)), .val (.double (mnF j.val)), .second, .unset, .unset, .unset, .unset, .unset, .unset, .unset, .unset, .unset, .unset, .unset, .unset]) rfl ?_
    show Steps p.tables e below (s₁.setTop (mkF m 12 #[.val (.int p1), .val (.int p2), .val (.int (Int32.ofNat j.val)), .val (.double (mnF j.val)), .second, .unset, .unset, .unset, .unset, .unset, .unset, .unset, .unset, .unset, .unset, .unset, .unset] [])) _
    refine XS.iloadN X0.here hx rfl (hb hby at_12) rfl ?_
    show Steps p.tables e below (s₁.setTop (mkF m 13 #[.val (.int p1), .val (.int p2), .val (.int (Int32.ofNat j.val)), .val (.double (mnF j.val)), .second, .unset, .unset, .unset, .unset, .unset, .unset, .unset, .unset, .unset, .unset, .unset, .unset] [(.int (Int32.ofNat j.val))])) _
    refine XS.iconst X0.here hx rfl (hb hby at_13) ?_
    show Steps p.tables e below (s₁.setTop (mkF m 14 #[.val (.int p1), .val (.int p2), .val (.int (Int32.ofNat j.val)), .val (.double (mnF j.val)), .second, .unset, .unset, .unset, .unset, .unset, .unset, .unset, .unset, .unset, .unset, .unset, .unset] [(.int (4 : Int32)), (.int (Int32.ofNat j.val))])) _
    refine XS.idiv X0.here hx rfl (hb hby at_14) rfl (by decide) ?_
    show Steps p.tables e below (s₁.setTop (mkF m 15 #[.val (.int p1), .val (.int p2), .val (.int (Int32.ofNat j.val)), .val (.double (mnF j.val)), .second, .unset, .unset, .unset, .unset, .unset, .unset, .unset, .unset, .unset, .unset, .unset, .unset] [(.int ((Int32.ofNat j.val) / (4 : Int32)))])) _
    refine XS.istore X0.here hx rfl (hb hby at_15) rfl (l' := #[.val (.int p1), .val (.int p2), .val (.int (Int32.ofNat j.val)), .val (.double (mnF j.val)), .second, .val (.int ((Int32.ofNat j.val) / (4 : Int32))), .unset, .unset, .unset, .unset, .unset, .unset, .unset, .unset, .unset, .unset, .unset]) rfl ?_
    show Steps p.tables e below (s₁.setTop (mkF m 17 #[.val (.int p1), .val (.int p2), .val (.int (Int32.ofNat j.val)), .val (.double (mnF j.val)), .second, .val (.int ((Int32.ofNat j.val) / (4 : Int32))), .unset, .unset, .unset, .unset, .unset, .unset, .unset, .unset, .unset, .unset, .unset] [])) _
    exact k)
  have em : md = Int32.ofNat (j.val / 4) := hmd.trans (md_k j)
  subst em
  obtain ⟨kk, hkk⟩ : ∃ v : Int32, v = ((p2 &&& (2147483647 : Int32)) % (7 : Int32)) := ⟨_, rfl⟩
  have c3 : ∀ t, Steps p.tables e below (s₁.setTop (mkF m 26 #[.val (.int p1), .val (.int p2), .val (.int (Int32.ofNat j.val)), .val (.double (mnF j.val)), .second, .val (.int (Int32.ofNat (j.val / 4))), .val (.int kk), .unset, .unset, .unset, .unset, .unset, .unset, .unset, .unset, .unset, .unset] [])) t → Steps p.tables e below (s₁.setTop (entryFrame m #[(.int p1), (.int p2)] maxLocals)) t := fun t k => c2 t (by
    rw [hkk] at k
    show Steps p.tables e below (s₁.setTop (mkF m 17 #[.val (.int p1), .val (.int p2), .val (.int (Int32.ofNat j.val)), .val (.double (mnF j.val)), .second, .val (.int (Int32.ofNat (j.val / 4))), .unset, .unset, .unset, .unset, .unset, .unset, .unset, .unset, .unset, .unset, .unset] [])) _
    refine XS.iloadN X0.here hx rfl (hb hby at_17) rfl ?_
    show Steps p.tables e below (s₁.setTop (mkF m 18 #[.val (.int p1), .val (.int p2), .val (.int (Int32.ofNat j.val)), .val (.double (mnF j.val)), .second, .val (.int (Int32.ofNat (j.val / 4))), .unset, .unset, .unset, .unset, .unset, .unset, .unset, .unset, .unset, .unset, .unset] [(.int p2)])) _
    refine Jvm.Stand.ldcI X0 hx hown (mvT hZ (hw _ (List.mem_of_getElem? (i := 1) rfl))) rfl (hb hby at_18) ?_
    show Steps p.tables e below (s₁.setTop (mkF m 20 #[.val (.int p1), .val (.int p2), .val (.int (Int32.ofNat j.val)), .val (.double (mnF j.val)), .second, .val (.int (Int32.ofNat (j.val / 4))), .unset, .unset, .unset, .unset, .unset, .unset, .unset, .unset, .unset, .unset, .unset] [(.int (2147483647 : Int32)), (.int p2)])) _
    refine XS.iand X0.here hx rfl (hb hby at_20) rfl ?_
    show Steps p.tables e below (s₁.setTop (mkF m 21 #[.val (.int p1), .val (.int p2), .val (.int (Int32.ofNat j.val)), .val (.double (mnF j.val)), .second, .val (.int (Int32.ofNat (j.val / 4))), .unset, .unset, .unset, .unset, .unset, .unset, .unset, .unset, .unset, .unset, .unset] [(.int (p2 &&& (2147483647 : Int32)))])) _
    refine XS.bipush X0.here hx rfl (hb hby at_21) ?_
    show Steps p.tables e below (s₁.setTop (mkF m 23 #[.val (.int p1), .val (.int p2), .val (.int (Int32.ofNat j.val)), .val (.double (mnF j.val)), .second, .val (.int (Int32.ofNat (j.val / 4))), .unset, .unset, .unset, .unset, .unset, .unset, .unset, .unset, .unset, .unset, .unset] [(.int (7 : Int32)), (.int (p2 &&& (2147483647 : Int32)))])) _
    refine iremM X0 hx rfl (hb hby at_23) rfl (by decide) ?_
    show Steps p.tables e below (s₁.setTop (mkF m 24 #[.val (.int p1), .val (.int p2), .val (.int (Int32.ofNat j.val)), .val (.double (mnF j.val)), .second, .val (.int (Int32.ofNat (j.val / 4))), .unset, .unset, .unset, .unset, .unset, .unset, .unset, .unset, .unset, .unset, .unset] [(.int ((p2 &&& (2147483647 : Int32)) % (7 : Int32)))])) _
    refine XS.istore X0.here hx rfl (hb hby at_24) rfl (l' := #[.val (.int p1), .val (.int p2), .val (.int (Int32.ofNat j.val)), .val (.double (mnF j.val)), .second, .val (.int (Int32.ofNat (j.val / 4))), .val (.int ((p2 &&& (2147483647 : Int32)) % (7 : Int32))), .unset, .unset, .unset, .unset, .unset, .unset, .unset, .unset, .unset, .unset]) rfl ?_
    show Steps p.tables e below (s₁.setTop (mkF m 26 #[.val (.int p1), .val (.int p2), .val (.int (Int32.ofNat j.val)), .val (.double (mnF j.val)), .second, .val (.int (Int32.ofNat (j.val / 4))), .val (.int ((p2 &&& (2147483647 : Int32)) % (7 : Int32))), .unset, .unset, .unset, .unset, .unset, .unset, .unset, .unset, .unset, .unset] [])) _
    exact k)
  have nk := k_k p2
  rw [← hkk] at nk
  rcases nk with nk | nk | nk | nk | nk | nk | nk
  · rw [nk] at c3
    obtain ⟨T4, h4, X4, e4, E4, A4, D4, -, st4⟩ := newO X0 hx hZ hown (hw _ (List.mem_of_getElem? (i := 2) rfl)) (hw _ (List.mem_of_getElem? (i := 3) rfl)) (hw _ (List.mem_of_getElem? (i := 4) rfl)) e0 (g := (mkF m 26 #[.val (.int p1), .val (.int p2), .val (.int (Int32.ofNat j.val)), .val (.double (mnF j.val)), .second, .val (.int (Int32.ofNat (j.val / 4))), .val (.int (0 : Int32)), .unset, .unset, .unset, .unset, .unset, .unset, .unset, .unset, .unset, .unset] [])) rfl (hb hby at_26) (by decide) (by decide)
    obtain ⟨ob, g4⟩ : ∃ z, z = h0.size := ⟨_, rfl⟩
    rw [← g4] at A4 D4 st4
    have F5 : Fld Z h4 ob "com/example/topple/topple/markov/PoissonWeights" "count" "I" (.int (0 : Int32)) := (D4 (Or.inl (hw _ (List.mem_of_getElem? (i := 12) rfl))) (ty := .int) (by decide))
    have F6 : Fld Z h4 ob "com/example/topple/topple/markov/PoissonWeights" "mean" "D" (.double (0 : UInt64)) := (D4 (Or.inr (hw _ (List.mem_of_getElem? (i := 14) rfl))) (ty := .double) (by decide))
    have F7 : Fld Z h4 ob "com/example/topple/topple/markov/PoissonWeights" "mode" "I" (.int (0 : Int32)) := (D4 (Or.inr (hw _ (List.mem_of_getElem? (i := 16) rfl))) (ty := .int) (by decide))
    have F8 : Fld Z h4 ob "com/example/topple/topple/markov/PoissonWeights" "fewest" "I" (.int (0 : Int32)) := (D4 (Or.inr (hw _ (List.mem_of_getElem? (i := 18) rfl))) (ty := .int) (by decide))
    have F9 : Fld Z h4 ob "com/example/topple/topple/markov/PoissonWeights" "toMode" "[D" .null := (D4 (Or.inr (hw _ (List.mem_of_getElem? (i := 21) rfl))) (ty := (.array .double)) (by decide))
    have F10 : Fld Z h4 ob "com/example/topple/topple/markov/PoissonWeights" "weight" "D" (.double (0 : UInt64)) := (D4 (Or.inl (hw _ (List.mem_of_getElem? (i := 28) rfl))) (ty := .double) (by decide))
    have c11 : ∀ t, Steps p.tables e below (T4.setTop (mkF m 29 #[.val (.int p1), .val (.int p2), .val (.int (Int32.ofNat j.val)), .val (.double (mnF j.val)), .second, .val (.int (Int32.ofNat (j.val / 4))), .val (.int (0 : Int32)), .unset, .unset, .unset, .unset, .unset, .unset, .unset, .unset, .unset, .unset] [(.ref ob)])) t → Steps p.tables e below (s₁.setTop (entryFrame m #[(.int p1), (.int p2)] maxLocals)) t := fun t k => c3 t (st4 _ k)
    have c12 : ∀ t, Steps p.tables e below (T4.setTop (mkF m 31 #[.val (.int p1), .val (.int p2), .val (.int (Int32.ofNat j.val)), .val (.double (mnF j.val)), .second, .val (.int (Int32.ofNat (j.val / 4))), .val (.int (0 : Int32)), .unset, .unset, .unset, .unset, .unset, .unset, .unset, .unset, .unset, .unset] [(.double (mnF j.val)), (.ref ob), (.ref ob)])) t → Steps p.tables e below (s₁.setTop (entryFrame m #[(.int p1), (.int p2)] maxLocals)) t := fun t k => c11 t (by
      show Steps p.tables e below (T4.setTop (mkF m 29 #[.val (.int p1), .val (.int p2), .val (.int (Int32.ofNat j.val)), .val (.double (mnF j.val)), .second, .val (.int (Int32.ofNat (j.val / 4))), .val (.int (0 : Int32)), .unset, .unset, .unset, .unset, .unset, .unset, .unset, .unset, .unset, .unset] [(.ref ob)])) _
      refine XS.dup X4.here hx rfl (hb hby at_29) rfl rfl ?_
      show Steps p.tables e below (T4.setTop (mkF m 30 #[.val (.int p1), .val (.int p2), .val (.int (Int32.ofNat j.val)), .val (.double (mnF j.val)), .second, .val (.int (Int32.ofNat (j.val / 4))), .val (.int (0 : Int32)), .unset, .unset, .unset, .unset, .unset, .unset, .unset, .unset, .unset, .unset] [(.ref ob), (.ref ob)])) _
      refine XS.dloadN X4.here hx rfl (hb hby at_30) rfl ?_
      show Steps p.tables e below (T4.setTop (mkF m 31 #[.val (.int p1), .val (.int p2), .val (.int (Int32.ofNat j.val)), .val (.double (mnF j.val)), .second, .val (.int (Int32.ofNat (j.val / 4))), .val (.int (0 : Int32)), .unset, .unset, .unset, .unset, .unset, .unset, .unset, .unset, .unset, .unset] [(.double (mnF j.val)), (.ref ob), (.ref ob)])) _
      exact k)
    obtain ⟨_, _, ⟨T13, L13, k13', n13⟩, -, X13, ⟨Lc13, hQ13, l13, y13, z13⟩, st13⟩ := X4.specialBack hx (y := (⟨"com/example/topple/topple/markov/PoissonWeights", "<init>", "(D)V"⟩ : MethodName)) rfl hown (mvT hZ (hw _ (List.mem_of_getElem? (i := 5) rfl))) (mvT hZ (hw _ (List.mem_of_getElem? (i := 6) rfl))) (mvT hZ (hw _ (List.mem_of_getElem? (i := 7) rfl))) (by decide) (backOf (W := 1) (rm_ct l Z a0 hw [] ob (mnF j.val) (j.val / 4) 0 (prF j.val) (tmF j.val) h4 n0 (Nat.le_trans Z0 E4.1) A4 F5 F6 F7 F8 F9 F10 (Nat.le_trans Z0 (Nat.le_of_eq g4.symm)) (by omega) (Nat.zero_le _) (by omega) (mn_md j) rfl (fun k hk => by
          obtain ⟨x1, x2, x3⟩ := hp_c j ⟨k, by omega⟩ hk
          exact ⟨nn_of x1, rfl, nn_of x2, x3⟩) (Or.inl rfl) rfl (fun k hk => by
          obtain ⟨x1, x2⟩ := ht_c j ⟨k, by omega⟩ hk
          exact ⟨nn_of x1, nn_of x2, rfl⟩)) hZ (hw _ (List.mem_of_getElem? (i := 7) rfl)) (hw _ (List.mem_of_getElem? (i := 4) rfl)) (by decide) (by decide)) (g := (mkF m 31 #[.val (.int p1), .val (.int p2), .val (.int (Int32.ofNat j.val)), .val (.double (mnF j.val)), .second, .val (.int (Int32.ofNat (j.val / 4))), .val (.int (0 : Int32)), .unset, .unset, .unset, .unset, .unset, .unset, .unset, .unset, .unset, .unset] [(.double (mnF j.val)), (.ref ob), (.ref ob)])) rfl (by rw [hml]; rfl) (Steps.refl _) (a := ob) (argsL := [(.double (mnF j.val))]) (rest := [(.ref ob)]) (lenOf pd__D_V rfl) rfl (by show 2 * 0 + _ ≤ _; exact Nat.le_of_eq rfl) (hb hby at_31) (fun _ _ => ⟨rfl, e4, (by decide : 1 + 1 ≤ _), (by decide : 6 + 8 ≤ _)⟩)
    dsimp only [Pt.U, Pt.locs, Pt.cells, Pt.slots] at X13 l13 y13 z13 st13 hQ13
    subst l13 y13 z13
    obtain ⟨ta, rfl, N13, K13, ne13, G13_0, G13_1, G13_2, G13_3, G13_4, G13_5, G13_6, G13_7⟩ := hQ13
    have M13 := Fr.app N0 N13
    have F14 : Exa Z T13.heap ob "com/example/topple/topple/markov/PoissonWeights" := (A4.keep K13)
    have c15 : ∀ t, Steps p.tables e below (T13.setTop (mkF m 34 #[.val (.int p1), .val (.int p2), .val (.int (Int32.ofNat j.val)), .val (.double (mnF j.val)), .second, .val (.int (Int32.ofNat (j.val / 4))), .val (.int (0 : Int32)), .unset, .unset, .unset, .unset, .unset, .unset, .unset, .unset, .unset, .unset] [(.ref ob)])) t → Steps p.tables e below (s₁.setTop (entryFrame m #[(.int p1), (.int p2)] maxLocals)) t := fun t k => c12 t (st13.trans k)
    have c16 : ∀ t, Steps p.tables e below (T13.setTop (mkF m 115 #[.val (.int p1), .val (.int p2), .val (.int (Int32.ofNat j.val)), .val (.double (mnF j.val)), .second, .val (.int (Int32.ofNat (j.val / 4))), .val (.int (0 : Int32)), .val (.ref ob), .val (.int (-1 : Int32)), .unset, .unset, .unset, .unset, .unset, .unset, .unset, .unset] [(.ref ob)])) t → Steps p.tables e below (s₁.setTop (entryFrame m #[(.int p1), (.int p2)] maxLocals)) t := fun t k => c15 t (by
      show Steps p.tables e below (T13.setTop (mkF m 34 #[.val (.int p1), .val (.int p2), .val (.int (Int32.ofNat j.val)), .val (.double (mnF j.val)), .second, .val (.int (Int32.ofNat (j.val / 4))), .val (.int (0 : Int32)), .unset, .unset, .unset, .unset, .unset, .unset, .unset, .unset, .unset, .unset] [(.ref ob)])) _
      refine XS.astore X13.here hx rfl (hb hby at_34) rfl rfl (l' := #[.val (.int p1), .val (.int p2), .val (.int (Int32.ofNat j.val)), .val (.double (mnF j.val)), .second, .val (.int (Int32.ofNat (j.val / 4))), .val (.int (0 : Int32)), .val (.ref ob), .unset, .unset, .unset, .unset, .unset, .unset, .unset, .unset, .unset]) rfl ?_
      show Steps p.tables e below (T13.setTop (mkF m 36 #[.val (.int p1), .val (.int p2), .val (.int (Int32.ofNat j.val)), .val (.double (mnF j.val)), .second, .val (.int (Int32.ofNat (j.val / 4))), .val (.int (0 : Int32)), .val (.ref ob), .unset, .unset, .unset, .unset, .unset, .unset, .unset, .unset, .unset] [])) _
      refine XS.iload X13.here hx rfl (hb hby at_36) rfl ?_
      show Steps p.tables e below (T13.setTop (mkF m 38 #[.val (.int p1), .val (.int p2), .val (.int (Int32.ofNat j.val)), .val (.double (mnF j.val)), .second, .val (.int (Int32.ofNat (j.val / 4))), .val (.int (0 : Int32)), .val (.ref ob), .unset, .unset, .unset, .unset, .unset, .unset, .unset, .unset, .unset] [(.int (0 : Int32))])) _
      refine XS.ifYes X13.here hx rfl (pc0 := 38) (pc' := 47) rfl (hb hby at_38) rfl (XT.i0_le_t (by decide)) (by decide) (by decide) ?_
      show Steps p.tables e below (T13.setTop (mkF m 47 #[.val (.int p1), .val (.int p2), .val (.int (Int32.ofNat j.val)), .val (.double (mnF j.val)), .second, .val (.int (Int32.ofNat (j.val / 4))), .val (.int (0 : Int32)), .val (.ref ob), .unset, .unset, .unset, .unset, .unset, .unset, .unset, .unset, .unset] [])) _
      refine XS.iload X13.here hx rfl (hb hby at_47) rfl ?_
      show Steps p.tables e below (T13.setTop (mkF m 49 #[.val (.int p1), .val (.int p2), .val (.int (Int32.ofNat j.val)), .val (.double (mnF j.val)), .second, .val (.int (Int32.ofNat (j.val / 4))), .val (.int (0 : Int32)), .val (.ref ob), .unset, .unset, .unset, .unset, .unset, .unset, .unset, .unset, .unset] [(.int (0 : Int32))])) _
      refine XS.iconst X13.here hx rfl (hb hby at_49) ?_
      show Steps p.tables e below (T13.setTop (mkF m 50 #[.val (.int p1), .val (.int p2), .val (.int (Int32.ofNat j.val)), .val (.double (mnF j.val)), .second, .val (.int (Int32.ofNat (j.val / 4))), .val (.int (0 : Int32)), .val (.ref ob), .unset, .unset, .unset, .unset, .unset, .unset, .unset, .unset, .unset] [(.int (1 : Int32)), (.int (0 : Int32))])) _
      refine XS.icmpYes X13.here hx rfl (pc0 := 50) (pc' := 59) rfl (hb hby at_50) rfl (XT.ii_le_t (by decide)) (by decide) (by decide) ?_
      show Steps p.tables e below (T13.setTop (mkF m 59 #[.val (.int p1), .val (.int p2), .val (.int (Int32.ofNat j.val)), .val (.double (mnF j.val)), .second, .val (.int (Int32.ofNat (j.val / 4))), .val (.int (0 : Int32)), .val (.ref ob), .unset, .unset, .unset, .unset, .unset, .unset, .unset, .unset, .unset] [])) _
      refine XS.iload X13.here hx rfl (hb hby at_59) rfl ?_
      show Steps p.tables e below (T13.setTop (mkF m 61 #[.val (.int p1), .val (.int p2), .val (.int (Int32.ofNat j.val)), .val (.double (mnF j.val)), .second, .val (.int (Int32.ofNat (j.val / 4))), .val (.int (0 : Int32)), .val (.ref ob), .unset, .unset, .unset, .unset, .unset, .unset, .unset, .unset, .unset] [(.int (0 : Int32))])) _
      refine XS.iconst X13.here hx rfl (hb hby at_61) ?_
      show Steps p.tables e below (T13.setTop (mkF m 62 #[.val (.int p1), .val (.int p2), .val (.int (Int32.ofNat j.val)), .val (.double (mnF j.val)), .second, .val (.int (Int32.ofNat (j.val / 4))), .val (.int (0 : Int32)), .val (.ref ob), .unset, .unset, .unset, .unset, .unset, .unset, .unset, .unset, .unset] [(.int (2 : Int32)), (.int (0 : Int32))])) _
      refine XS.icmpYes X13.here hx rfl (pc0 := 62) (pc' := 71) rfl (hb hby at_62) rfl (XT.ii_le_t (by decide)) (by decide) (by decide) ?_
      show Steps p.tables e below (T13.setTop (mkF m 71 #[.val (.int p1), .val (.int p2), .val (.int (Int32.ofNat j.val)), .val (.double (mnF j.val)), .second, .val (.int (Int32.ofNat (j.val / 4))), .val (.int (0 : Int32)), .val (.ref ob), .unset, .unset, .unset, .unset, .unset, .unset, .unset, .unset, .unset] [])) _
      refine XS.iload X13.here hx rfl (hb hby at_71) rfl ?_
      show Steps p.tables e below (T13.setTop (mkF m 73 #[.val (.int p1), .val (.int p2), .val (.int (Int32.ofNat j.val)), .val (.double (mnF j.val)), .second, .val (.int (Int32.ofNat (j.val / 4))), .val (.int (0 : Int32)), .val (.ref ob), .unset, .unset, .unset, .unset, .unset, .unset, .unset, .unset, .unset] [(.int (0 : Int32))])) _
      refine XS.iconst X13.here hx rfl (hb hby at_73) ?_
      show Steps p.tables e below (T13.setTop (mkF m 74 #[.val (.int p1), .val (.int p2), .val (.int (Int32.ofNat j.val)), .val (.double (mnF j.val)), .second, .val (.int (Int32.ofNat (j.val / 4))), .val (.int (0 : Int32)), .val (.ref ob), .unset, .unset, .unset, .unset, .unset, .unset, .unset, .unset, .unset] [(.int (3 : Int32)), (.int (0 : Int32))])) _
      refine XS.icmpYes X13.here hx rfl (pc0 := 74) (pc' := 83) rfl (hb hby at_74) rfl (XT.ii_le_t (by decide)) (by decide) (by decide) ?_
      show Steps p.tables e below (T13.setTop (mkF m 83 #[.val (.int p1), .val (.int p2), .val (.int (Int32.ofNat j.val)), .val (.double (mnF j.val)), .second, .val (.int (Int32.ofNat (j.val / 4))), .val (.int (0 : Int32)), .val (.ref ob), .unset, .unset, .unset, .unset, .unset, .unset, .unset, .unset, .unset] [])) _
      refine XS.iload X13.here hx rfl (hb hby at_83) rfl ?_
      show Steps p.tables e below (T13.setTop (mkF m 85 #[.val (.int p1), .val (.int p2), .val (.int (Int32.ofNat j.val)), .val (.double (mnF j.val)), .second, .val (.int (Int32.ofNat (j.val / 4))), .val (.int (0 : Int32)), .val (.ref ob), .unset, .unset, .unset, .unset, .unset, .unset, .unset, .unset, .unset] [(.int (0 : Int32))])) _
      refine XS.iconst X13.here hx rfl (hb hby at_85) ?_
      show Steps p.tables e below (T13.setTop (mkF m 86 #[.val (.int p1), .val (.int p2), .val (.int (Int32.ofNat j.val)), .val (.double (mnF j.val)), .second, .val (.int (Int32.ofNat (j.val / 4))), .val (.int (0 : Int32)), .val (.ref ob), .unset, .unset, .unset, .unset, .unset, .unset, .unset, .unset, .unset] [(.int (4 : Int32)), (.int (0 : Int32))])) _
      refine XS.icmpYes X13.here hx rfl (pc0 := 86) (pc' := 95) rfl (hb hby at_86) rfl (XT.ii_le_t (by decide)) (by decide) (by decide) ?_
      show Steps p.tables e below (T13.setTop (mkF m 95 #[.val (.int p1), .val (.int p2), .val (.int (Int32.ofNat j.val)), .val (.double (mnF j.val)), .second, .val (.int (Int32.ofNat (j.val / 4))), .val (.int (0 : Int32)), .val (.ref ob), .unset, .unset, .unset, .unset, .unset, .unset, .unset, .unset, .unset] [])) _
      refine XS.iload X13.here hx rfl (hb hby at_95) rfl ?_
      show Steps p.tables e below (T13.setTop (mkF m 97 #[.val (.int p1), .val (.int p2), .val (.int (Int32.ofNat j.val)), .val (.double (mnF j.val)), .second, .val (.int (Int32.ofNat (j.val / 4))), .val (.int (0 : Int32)), .val (.ref ob), .unset, .unset, .unset, .unset, .unset, .unset, .unset, .unset, .unset] [(.int (0 : Int32))])) _
      refine XS.iconst X13.here hx rfl (hb hby at_97) ?_
      show Steps p.tables e below (T13.setTop (mkF m 98 #[.val (.int p1), .val (.int p2), .val (.int (Int32.ofNat j.val)), .val (.double (mnF j.val)), .second, .val (.int (Int32.ofNat (j.val / 4))), .val (.int (0 : Int32)), .val (.ref ob), .unset, .unset, .unset, .unset, .unset, .unset, .unset, .unset, .unset] [(.int (5 : Int32)), (.int (0 : Int32))])) _
      refine XS.icmpYes X13.here hx rfl (pc0 := 98) (pc' := 107) rfl (hb hby at_98) rfl (XT.ii_le_t (by decide)) (by decide) (by decide) ?_
      show Steps p.tables e below (T13.setTop (mkF m 107 #[.val (.int p1), .val (.int p2), .val (.int (Int32.ofNat j.val)), .val (.double (mnF j.val)), .second, .val (.int (Int32.ofNat (j.val / 4))), .val (.int (0 : Int32)), .val (.ref ob), .unset, .unset, .unset, .unset, .unset, .unset, .unset, .unset, .unset] [])) _
      refine XS.iload X13.here hx rfl (hb hby at_107) rfl ?_
      show Steps p.tables e below (T13.setTop (mkF m 109 #[.val (.int p1), .val (.int p2), .val (.int (Int32.ofNat j.val)), .val (.double (mnF j.val)), .second, .val (.int (Int32.ofNat (j.val / 4))), .val (.int (0 : Int32)), .val (.ref ob), .unset, .unset, .unset, .unset, .unset, .unset, .unset, .unset, .unset] [(.int (0 : Int32))])) _
      refine XS.iconst X13.here hx rfl (hb hby at_109) ?_
      show Steps p.tables e below (T13.setTop (mkF m 110 #[.val (.int p1), .val (.int p2), .val (.int (Int32.ofNat j.val)), .val (.double (mnF j.val)), .second, .val (.int (Int32.ofNat (j.val / 4))), .val (.int (0 : Int32)), .val (.ref ob), .unset, .unset, .unset, .unset, .unset, .unset, .unset, .unset, .unset] [(.int (1 : Int32)), (.int (0 : Int32))])) _
      refine XS.isub X13.here hx rfl (hb hby at_110) rfl ?_
      show Steps p.tables e below (T13.setTop (mkF m 111 #[.val (.int p1), .val (.int p2), .val (.int (Int32.ofNat j.val)), .val (.double (mnF j.val)), .second, .val (.int (Int32.ofNat (j.val / 4))), .val (.int (0 : Int32)), .val (.ref ob), .unset, .unset, .unset, .unset, .unset, .unset, .unset, .unset, .unset] [(.int (-1 : Int32))])) _
      refine XS.istore X13.here hx rfl (hb hby at_111) rfl (l' := #[.val (.int p1), .val (.int p2), .val (.int (Int32.ofNat j.val)), .val (.double (mnF j.val)), .second, .val (.int (Int32.ofNat (j.val / 4))), .val (.int (0 : Int32)), .val (.ref ob), .val (.int (-1 : Int32)), .unset, .unset, .unset, .unset, .unset, .unset, .unset, .unset]) rfl ?_
      show Steps p.tables e below (T13.setTop (mkF m 113 #[.val (.int p1), .val (.int p2), .val (.int (Int32.ofNat j.val)), .val (.double (mnF j.val)), .second, .val (.int (Int32.ofNat (j.val / 4))), .val (.int (0 : Int32)), .val (.ref ob), .val (.int (-1 : Int32)), .unset, .unset, .unset, .unset, .unset, .unset, .unset, .unset] [])) _
      refine XS.aload X13.here hx rfl (hb hby at_113) rfl rfl ?_
      show Steps p.tables e below (T13.setTop (mkF m 115 #[.val (.int p1), .val (.int p2), .val (.int (Int32.ofNat j.val)), .val (.double (mnF j.val)), .second, .val (.int (Int32.ofNat (j.val / 4))), .val (.int (0 : Int32)), .val (.ref ob), .val (.int (-1 : Int32)), .unset, .unset, .unset, .unset, .unset, .unset, .unset, .unset] [(.ref ob)])) _
      exact k)
    obtain ⟨cq17, kq17, q17a, q17b, q17c⟩ := isOf hZ rfl G13_0
    obtain ⟨_, _, ⟨T17, L17, k17', n17⟩, -, X17, ⟨Lc17, hQ17, l17, y17, z17⟩, st17⟩ := X13.virtualBack hx (y := (⟨"com/example/topple/topple/markov/PoissonWeights", "tail", "()D"⟩ : MethodName)) (z := (⟨"com/example/topple/topple/markov/PoissonWeights", "tail", "()D"⟩ : MethodName)) hown (mvT hZ (hw _ (List.mem_of_getElem? (i := 29) rfl))) (mvT hZ (hw _ (List.mem_of_getElem? (i := 30) rfl))) (notFace_of_selects (args := #[]) (mvT hZ (hw _ (List.mem_of_getElem? (i := 32) rfl)))) (mvT hZ (hw _ (List.mem_of_getElem? (i := 32) rfl))) (mvT hZ (hw _ (List.mem_of_getElem? (i := 31) rfl))) (by decide) (backOf (W := 0) (rm_t0 l Z a0 hw [] ob (-1 : Int32) (Int32.ofNat (j.val / 4)) T13.heap n0 (Nat.le_trans (Nat.le_trans Z0 E4.1) K13.1) G13_1 G13_3 (neg_c j)) hZ (hw _ (List.mem_of_getElem? (i := 33) rfl)) (hw _ (List.mem_of_getElem? (i := 4) rfl)) (by decide) (by decide)) q17a q17c (g := (mkF m 115 #[.val (.int p1), .val (.int p2), .val (.int (Int32.ofNat j.val)), .val (.double (mnF j.val)), .second, .val (.int (Int32.ofNat (j.val / 4))), .val (.int (0 : Int32)), .val (.ref ob), .val (.int (-1 : Int32)), .unset, .unset, .unset, .unset, .unset, .unset, .unset, .unset] [(.ref ob)])) rfl (by rw [hml]; rfl) (Steps.refl _) (argsL := []) (rest := []) (lenOf pd___D rfl) rfl (by show 2 * 0 + _ ≤ _; exact Nat.le_of_eq rfl) (hb hby at_115) (fun _ _ => ⟨rfl, rfl, (by decide : 2 + 0 ≤ _), (by decide : 14 + 0 ≤ _)⟩)
    dsimp only [Pt.U, Pt.locs, Pt.cells, Pt.slots] at X17 l17 y17 z17 st17 hQ17
    subst l17 y17 z17
    obtain ⟨rfl, N17, e17⟩ := hQ17
    have M17 := Fr.app M13 N17
    have c18 : ∀ t, Steps p.tables e below (T17.setTop (mkF m 118 #[.val (.int p1), .val (.int p2), .val (.int (Int32.ofNat j.val)), .val (.double (mnF j.val)), .second, .val (.int (Int32.ofNat (j.val / 4))), .val (.int (0 : Int32)), .val (.ref ob), .val (.int (-1 : Int32)), .unset, .unset, .unset, .unset, .unset, .unset, .unset, .unset] [(.double (9218868437227405312 : UInt64))])) t → Steps p.tables e below (s₁.setTop (entryFrame m #[(.int p1), (.int p2)] maxLocals)) t := fun t k => c16 t (st17.trans k)
    obtain ⟨k132, hk132⟩ : ∃ v : Int32, cmpValue (FP.dcmp (9218868437227405312 : UInt64) (9218868437227405312 : UInt64)) .l = v := ⟨_, rfl⟩
    have e132 : k132 = 0 := hk132.symm.trans inf_c
    have c19 : ∀ t, Steps p.tables e below (T17.setTop (mkF m 141 #[.val (.int p1), .val (.int p2), .val (.int (Int32.ofNat j.val)), .val (.double (mnF j.val)), .second, .val (.int (Int32.ofNat (j.val / 4))), .val (.int (0 : Int32)), .val (.ref ob), .val (.int (-1 : Int32)), .val (.double (9218868437227405312 : UInt64)), .second, .unset, .unset, .unset, .unset, .unset, .unset] [(.int (1 : Int32))])) t → Steps p.tables e below (s₁.setTop (entryFrame m #[(.int p1), (.int p2)] maxLocals)) t := fun t k => c18 t (by
      show Steps p.tables e below (T17.setTop (mkF m 118 #[.val (.int p1), .val (.int p2), .val (.int (Int32.ofNat j.val)), .val (.double (mnF j.val)), .second, .val (.int (Int32.ofNat (j.val / 4))), .val (.int (0 : Int32)), .val (.ref ob), .val (.int (-1 : Int32)), .unset, .unset, .unset, .unset, .unset, .unset, .unset, .unset] [(.double (9218868437227405312 : UInt64))])) _
      refine XS.dstore X17.here hx rfl (hb hby at_118) rfl (l' := #[.val (.int p1), .val (.int p2), .val (.int (Int32.ofNat j.val)), .val (.double (mnF j.val)), .second, .val (.int (Int32.ofNat (j.val / 4))), .val (.int (0 : Int32)), .val (.ref ob), .val (.int (-1 : Int32)), .val (.double (9218868437227405312 : UInt64)), .second, .unset, .unset, .unset, .unset, .unset, .unset]) rfl ?_
      show Steps p.tables e below (T17.setTop (mkF m 120 #[.val (.int p1), .val (.int p2), .val (.int (Int32.ofNat j.val)), .val (.double (mnF j.val)), .second, .val (.int (Int32.ofNat (j.val / 4))), .val (.int (0 : Int32)), .val (.ref ob), .val (.int (-1 : Int32)), .val (.double (9218868437227405312 : UInt64)), .second, .unset, .unset, .unset, .unset, .unset, .unset] [])) _
      refine XS.iload X17.here hx rfl (hb hby at_120) rfl ?_
      show Steps p.tables e below (T17.setTop (mkF m 122 #[.val (.int p1), .val (.int p2), .val (.int (Int32.ofNat j.val)), .val (.double (mnF j.val)), .second, .val (.int (Int32.ofNat (j.val / 4))), .val (.int (0 : Int32)), .val (.ref ob), .val (.int (-1 : Int32)), .val (.double (9218868437227405312 : UInt64)), .second, .unset, .unset, .unset, .unset, .unset, .unset] [(.int (-1 : Int32))])) _
      refine XS.iload X17.here hx rfl (hb hby at_122) rfl ?_
      show Steps p.tables e below (T17.setTop (mkF m 124 #[.val (.int p1), .val (.int p2), .val (.int (Int32.ofNat j.val)), .val (.double (mnF j.val)), .second, .val (.int (Int32.ofNat (j.val / 4))), .val (.int (0 : Int32)), .val (.ref ob), .val (.int (-1 : Int32)), .val (.double (9218868437227405312 : UInt64)), .second, .unset, .unset, .unset, .unset, .unset, .unset] [(.int (Int32.ofNat (j.val / 4))), (.int (-1 : Int32))])) _
      refine XS.icmpNo X17.here hx rfl (hb hby at_124) rfl (XT.ii_ge_f (neg_c j)) ?_
      show Steps p.tables e below (T17.setTop (mkF m 127 #[.val (.int p1), .val (.int p2), .val (.int (Int32.ofNat j.val)), .val (.double (mnF j.val)), .second, .val (.int (Int32.ofNat (j.val / 4))), .val (.int (0 : Int32)), .val (.ref ob), .val (.int (-1 : Int32)), .val (.double (9218868437227405312 : UInt64)), .second, .unset, .unset, .unset, .unset, .unset, .unset] [])) _
      refine XS.dload X17.here hx rfl (hb hby at_127) rfl ?_
      show Steps p.tables e below (T17.setTop (mkF m 129 #[.val (.int p1), .val (.int p2), .val (.int (Int32.ofNat j.val)), .val (.double (mnF j.val)), .second, .val (.int (Int32.ofNat (j.val / 4))), .val (.int (0 : Int32)), .val (.ref ob), .val (.int (-1 : Int32)), .val (.double (9218868437227405312 : UInt64)), .second, .unset, .unset, .unset, .unset, .unset, .unset] [(.double (9218868437227405312 : UInt64))])) _
      refine Jvm.Stand.ldc2DoubleC X17 hx hown (mvT hZ (hw _ (List.mem_of_getElem? (i := 36) rfl))) (g := (mkF m 129 #[.val (.int p1), .val (.int p2), .val (.int (Int32.ofNat j.val)), .val (.double (mnF j.val)), .second, .val (.int (Int32.ofNat (j.val / 4))), .val (.int (0 : Int32)), .val (.ref ob), .val (.int (-1 : Int32)), .val (.double (9218868437227405312 : UInt64)), .second, .unset, .unset, .unset, .unset, .unset, .unset] [(.double (9218868437227405312 : UInt64))])) rfl (hb hby at_129) _ ?_
      show Steps p.tables e below (T17.setTop (mkF m 132 #[.val (.int p1), .val (.int p2), .val (.int (Int32.ofNat j.val)), .val (.double (mnF j.val)), .second, .val (.int (Int32.ofNat (j.val / 4))), .val (.int (0 : Int32)), .val (.ref ob), .val (.int (-1 : Int32)), .val (.double (9218868437227405312 : UInt64)), .second, .unset, .unset, .unset, .unset, .unset, .unset] [(.double (9218868437227405312 : UInt64)), (.double (9218868437227405312 : UInt64))])) _
      refine XS.dcmpS X17.here hx rfl (hb hby at_132) rfl hk132 ?_
      show Steps p.tables e below (T17.setTop (mkF m 133 #[.val (.int p1), .val (.int p2), .val (.int (Int32.ofNat j.val)), .val (.double (mnF j.val)), .second, .val (.int (Int32.ofNat (j.val / 4))), .val (.int (0 : Int32)), .val (.ref ob), .val (.int (-1 : Int32)), .val (.double (9218868437227405312 : UInt64)), .second, .unset, .unset, .unset, .unset, .unset, .unset] [(.int k132)])) _
      refine XS.ifNo X17.here hx rfl (hb hby at_133) rfl (XT.i0_ne_f e132) ?_
      show Steps p.tables e below (T17.setTop (mkF m 136 #[.val (.int p1), .val (.int p2), .val (.int (Int32.ofNat j.val)), .val (.double (mnF j.val)), .second, .val (.int (Int32.ofNat (j.val / 4))), .val (.int (0 : Int32)), .val (.ref ob), .val (.int (-1 : Int32)), .val (.double (9218868437227405312 : UInt64)), .second, .unset, .unset, .unset, .unset, .unset, .unset] [])) _
      refine XS.iconst X17.here hx rfl (hb hby at_136) ?_
      show Steps p.tables e below (T17.setTop (mkF m 137 #[.val (.int p1), .val (.int p2), .val (.int (Int32.ofNat j.val)), .val (.double (mnF j.val)), .second, .val (.int (Int32.ofNat (j.val / 4))), .val (.int (0 : Int32)), .val (.ref ob), .val (.int (-1 : Int32)), .val (.double (9218868437227405312 : UInt64)), .second, .unset, .unset, .unset, .unset, .unset, .unset] [(.int (1 : Int32))])) _
      refine XS.goto X17.here hx rfl (pc0 := 137) (pc' := 141) rfl (hb hby at_137) (by decide) (by decide) ?_
      show Steps p.tables e below (T17.setTop (mkF m 141 #[.val (.int p1), .val (.int p2), .val (.int (Int32.ofNat j.val)), .val (.double (mnF j.val)), .second, .val (.int (Int32.ofNat (j.val / 4))), .val (.int (0 : Int32)), .val (.ref ob), .val (.int (-1 : Int32)), .val (.double (9218868437227405312 : UInt64)), .second, .unset, .unset, .unset, .unset, .unset, .unset] [(.int (1 : Int32))])) _
      exact k)
    obtain ⟨fs, hr, hrun, hended, hW, hsame⟩ := X17.leave (v := (some (.int (1 : Int32)))) (fun h => by rw [Bd.returns] at h; cases h)
    refine ⟨_, _, pre0 _ (c19 _ (retN X17 hx (t := .boolean) Bd.returns (by simp) (hb hby at_141) hr)), hrun, hended, _, _, rfl, ?_, ⟨_, rfl⟩, hW, hsame.mono (by decide) (by decide)⟩
    show Q_0 Z p1 p2 h0 n0 _ T17.heap _
    rw [e17]
    exact ⟨rfl, M17⟩
  · rw [nk] at c3
    obtain ⟨T20, h20, X20, e20, E20, A20, D20, -, st20⟩ := newO X0 hx hZ hown (hw _ (List.mem_of_getElem? (i := 2) rfl)) (hw _ (List.mem_of_getElem? (i := 3) rfl)) (hw _ (List.mem_of_getElem? (i := 4) rfl)) e0 (g := (mkF m 26 #[.val (.int p1), .val (.int p2), .val (.int (Int32.ofNat j.val)), .val (.double (mnF j.val)), .second, .val (.int (Int32.ofNat (j.val / 4))), .val (.int (1 : Int32)), .unset, .unset, .unset, .unset, .unset, .unset, .unset, .unset, .unset, .unset] [])) rfl (hb hby at_26) (by decide) (by decide)
    obtain ⟨ob, g20⟩ : ∃ z, z = h0.size := ⟨_, rfl⟩
    rw [← g20] at A20 D20 st20
    have F21 : Fld Z h20 ob "com/example/topple/topple/markov/PoissonWeights" "count" "I" (.int (0 : Int32)) := (D20 (Or.inl (hw _ (List.mem_of_getElem? (i := 12) rfl))) (ty := .int) (by decide))
    have F22 : Fld Z h20 ob "com/example/topple/topple/markov/PoissonWeights" "mean" "D" (.double (0 : UInt64)) := (D20 (Or.inr (hw _ (List.mem_of_getElem? (i := 14) rfl))) (ty := .double) (by decide))
    have F23 : Fld Z h20 ob "com/example/topple/topple/markov/PoissonWeights" "mode" "I" (.int (0 : Int32)) := (D20 (Or.inr (hw _ (List.mem_of_getElem? (i := 16) rfl))) (ty := .int) (by decide))
    have F24 : Fld Z h20 ob "com/example/topple/topple/markov/PoissonWeights" "fewest" "I" (.int (0 : Int32)) := (D20 (Or.inr (hw _ (List.mem_of_getElem? (i := 18) rfl))) (ty := .int) (by decide))
    have F25 : Fld Z h20 ob "com/example/topple/topple/markov/PoissonWeights" "toMode" "[D" .null := (D20 (Or.inr (hw _ (List.mem_of_getElem? (i := 21) rfl))) (ty := (.array .double)) (by decide))
    have F26 : Fld Z h20 ob "com/example/topple/topple/markov/PoissonWeights" "weight" "D" (.double (0 : UInt64)) := (D20 (Or.inl (hw _ (List.mem_of_getElem? (i := 28) rfl))) (ty := .double) (by decide))
    have c27 : ∀ t, Steps p.tables e below (T20.setTop (mkF m 29 #[.val (.int p1), .val (.int p2), .val (.int (Int32.ofNat j.val)), .val (.double (mnF j.val)), .second, .val (.int (Int32.ofNat (j.val / 4))), .val (.int (1 : Int32)), .unset, .unset, .unset, .unset, .unset, .unset, .unset, .unset, .unset, .unset] [(.ref ob)])) t → Steps p.tables e below (s₁.setTop (entryFrame m #[(.int p1), (.int p2)] maxLocals)) t := fun t k => c3 t (st20 _ k)
    have c28 : ∀ t, Steps p.tables e below (T20.setTop (mkF m 31 #[.val (.int p1), .val (.int p2), .val (.int (Int32.ofNat j.val)), .val (.double (mnF j.val)), .second, .val (.int (Int32.ofNat (j.val / 4))), .val (.int (1 : Int32)), .unset, .unset, .unset, .unset, .unset, .unset, .unset, .unset, .unset, .unset] [(.double (mnF j.val)), (.ref ob), (.ref ob)])) t → Steps p.tables e below (s₁.setTop (entryFrame m #[(.int p1), (.int p2)] maxLocals)) t := fun t k => c27 t (by
      show Steps p.tables e below (T20.setTop (mkF m 29 #[.val (.int p1), .val (.int p2), .val (.int (Int32.ofNat j.val)), .val (.double (mnF j.val)), .second, .val (.int (Int32.ofNat (j.val / 4))), .val (.int (1 : Int32)), .unset, .unset, .unset, .unset, .unset, .unset, .unset, .unset, .unset, .unset] [(.ref ob)])) _
      refine XS.dup X20.here hx rfl (hb hby at_29) rfl rfl ?_
      show Steps p.tables e below (T20.setTop (mkF m 30 #[.val (.int p1), .val (.int p2), .val (.int (Int32.ofNat j.val)), .val (.double (mnF j.val)), .second, .val (.int (Int32.ofNat (j.val / 4))), .val (.int (1 : Int32)), .unset, .unset, .unset, .unset, .unset, .unset, .unset, .unset, .unset, .unset] [(.ref ob), (.ref ob)])) _
      refine XS.dloadN X20.here hx rfl (hb hby at_30) rfl ?_
      show Steps p.tables e below (T20.setTop (mkF m 31 #[.val (.int p1), .val (.int p2), .val (.int (Int32.ofNat j.val)), .val (.double (mnF j.val)), .second, .val (.int (Int32.ofNat (j.val / 4))), .val (.int (1 : Int32)), .unset, .unset, .unset, .unset, .unset, .unset, .unset, .unset, .unset, .unset] [(.double (mnF j.val)), (.ref ob), (.ref ob)])) _
      exact k)
    obtain ⟨_, _, ⟨T29, L29, k29', n29⟩, -, X29, ⟨Lc29, hQ29, l29, y29, z29⟩, st29⟩ := X20.specialBack hx (y := (⟨"com/example/topple/topple/markov/PoissonWeights", "<init>", "(D)V"⟩ : MethodName)) rfl hown (mvT hZ (hw _ (List.mem_of_getElem? (i := 5) rfl))) (mvT hZ (hw _ (List.mem_of_getElem? (i := 6) rfl))) (mvT hZ (hw _ (List.mem_of_getElem? (i := 7) rfl))) (by decide) (backOf (W := 1) (rm_ct l Z a0 hw [] ob (mnF j.val) (j.val / 4) 0 (prF j.val) (tmF j.val) h20 n0 (Nat.le_trans Z0 E20.1) A20 F21 F22 F23 F24 F25 F26 (Nat.le_trans Z0 (Nat.le_of_eq g20.symm)) (by omega) (Nat.zero_le _) (by omega) (mn_md j) rfl (fun k hk => by
          obtain ⟨x1, x2, x3⟩ := hp_c j ⟨k, by omega⟩ hk
          exact ⟨nn_of x1, rfl, nn_of x2, x3⟩) (Or.inl rfl) rfl (fun k hk => by
          obtain ⟨x1, x2⟩ := ht_c j ⟨k, by omega⟩ hk
          exact ⟨nn_of x1, nn_of x2, rfl⟩)) hZ (hw _ (List.mem_of_getElem? (i := 7) rfl)) (hw _ (List.mem_of_getElem? (i := 4) rfl)) (by decide) (by decide)) (g := (mkF m 31 #[.val (.int p1), .val (.int p2), .val (.int (Int32.ofNat j.val)), .val (.double (mnF j.val)), .second, .val (.int (Int32.ofNat (j.val / 4))), .val (.int (1 : Int32)), .unset, .unset, .unset, .unset, .unset, .unset, .unset, .unset, .unset, .unset] [(.double (mnF j.val)), (.ref ob), (.ref ob)])) rfl (by rw [hml]; rfl) (Steps.refl _) (a := ob) (argsL := [(.double (mnF j.val))]) (rest := [(.ref ob)]) (lenOf pd__D_V rfl) rfl (by show 2 * 0 + _ ≤ _; exact Nat.le_of_eq rfl) (hb hby at_31) (fun _ _ => ⟨rfl, e20, (by decide : 1 + 1 ≤ _), (by decide : 6 + 8 ≤ _)⟩)
    dsimp only [Pt.U, Pt.locs, Pt.cells, Pt.slots] at X29 l29 y29 z29 st29 hQ29
    subst l29 y29 z29
    obtain ⟨ta, rfl, N29, K29, ne29, G29_0, G29_1, G29_2, G29_3, G29_4, G29_5, G29_6, G29_7⟩ := hQ29
    have M29 := Fr.app N0 N29
    have F30 : Exa Z T29.heap ob "com/example/topple/topple/markov/PoissonWeights" := (A20.keep K29)
    have c31 : ∀ t, Steps p.tables e below (T29.setTop (mkF m 34 #[.val (.int p1), .val (.int p2), .val (.int (Int32.ofNat j.val)), .val (.double (mnF j.val)), .second, .val (.int (Int32.ofNat (j.val / 4))), .val (.int (1 : Int32)), .unset, .unset, .unset, .unset, .unset, .unset, .unset, .unset, .unset, .unset] [(.ref ob)])) t → Steps p.tables e below (s₁.setTop (entryFrame m #[(.int p1), (.int p2)] maxLocals)) t := fun t k => c28 t (st29.trans k)
    have c32 : ∀ t, Steps p.tables e below (T29.setTop (mkF m 43 #[.val (.int p1), .val (.int p2), .val (.int (Int32.ofNat j.val)), .val (.double (mnF j.val)), .second, .val (.int (Int32.ofNat (j.val / 4))), .val (.int (1 : Int32)), .val (.ref ob), .unset, .unset, .unset, .unset, .unset, .unset, .unset, .unset, .unset] [(.ref ob)])) t → Steps p.tables e below (s₁.setTop (entryFrame m #[(.int p1), (.int p2)] maxLocals)) t := fun t k => c31 t (by
      show Steps p.tables e below (T29.setTop (mkF m 34 #[.val (.int p1), .val (.int p2), .val (.int (Int32.ofNat j.val)), .val (.double (mnF j.val)), .second, .val (.int (Int32.ofNat (j.val / 4))), .val (.int (1 : Int32)), .unset, .unset, .unset, .unset, .unset, .unset, .unset, .unset, .unset, .unset] [(.ref ob)])) _
      refine XS.astore X29.here hx rfl (hb hby at_34) rfl rfl (l' := #[.val (.int p1), .val (.int p2), .val (.int (Int32.ofNat j.val)), .val (.double (mnF j.val)), .second, .val (.int (Int32.ofNat (j.val / 4))), .val (.int (1 : Int32)), .val (.ref ob), .unset, .unset, .unset, .unset, .unset, .unset, .unset, .unset, .unset]) rfl ?_
      show Steps p.tables e below (T29.setTop (mkF m 36 #[.val (.int p1), .val (.int p2), .val (.int (Int32.ofNat j.val)), .val (.double (mnF j.val)), .second, .val (.int (Int32.ofNat (j.val / 4))), .val (.int (1 : Int32)), .val (.ref ob), .unset, .unset, .unset, .unset, .unset, .unset, .unset, .unset, .unset] [])) _
      refine XS.iload X29.here hx rfl (hb hby at_36) rfl ?_
      show Steps p.tables e below (T29.setTop (mkF m 38 #[.val (.int p1), .val (.int p2), .val (.int (Int32.ofNat j.val)), .val (.double (mnF j.val)), .second, .val (.int (Int32.ofNat (j.val / 4))), .val (.int (1 : Int32)), .val (.ref ob), .unset, .unset, .unset, .unset, .unset, .unset, .unset, .unset, .unset] [(.int (1 : Int32))])) _
      refine XS.ifNo X29.here hx rfl (hb hby at_38) rfl (XT.i0_le_f (by decide)) ?_
      show Steps p.tables e below (T29.setTop (mkF m 41 #[.val (.int p1), .val (.int p2), .val (.int (Int32.ofNat j.val)), .val (.double (mnF j.val)), .second, .val (.int (Int32.ofNat (j.val / 4))), .val (.int (1 : Int32)), .val (.ref ob), .unset, .unset, .unset, .unset, .unset, .unset, .unset, .unset, .unset] [])) _
      refine XS.aload X29.here hx rfl (hb hby at_41) rfl rfl ?_
      show Steps p.tables e below (T29.setTop (mkF m 43 #[.val (.int p1), .val (.int p2), .val (.int (Int32.ofNat j.val)), .val (.double (mnF j.val)), .second, .val (.int (Int32.ofNat (j.val / 4))), .val (.int (1 : Int32)), .val (.ref ob), .unset, .unset, .unset, .unset, .unset, .unset, .unset, .unset, .unset] [(.ref ob)])) _
      exact k)
    obtain ⟨cq33, kq33, q33a, q33b, q33c⟩ := isOf hZ rfl G29_0
    obtain ⟨_, _, ⟨T33, L33, k33', n33⟩, -, X33, ⟨Lc33, hQ33, l33, y33, z33⟩, st33⟩ := X29.virtualBack hx (y := (⟨"com/example/topple/topple/markov/PoissonWeights", "next", "()D"⟩ : MethodName)) (z := (⟨"com/example/topple/topple/markov/PoissonWeights", "next", "()D"⟩ : MethodName)) hown (mvT hZ (hw _ (List.mem_of_getElem? (i := 22) rfl))) (mvT hZ (hw _ (List.mem_of_getElem? (i := 23) rfl))) (notFace_of_selects (args := #[]) (mvT hZ (hw _ (List.mem_of_getElem? (i := 25) rfl)))) (mvT hZ (hw _ (List.mem_of_getElem? (i := 25) rfl))) (mvT hZ (hw _ (List.mem_of_getElem? (i := 24) rfl))) (by decide) (backOf (W := 0) (rm_nx l Z a0 hw [] ob ta (mnF j.val) (-1 : Int32) (0 : Int32) (Int32.ofNat (j.val / 4)) (Int32.ofNat 0) (0 : UInt64) (WF j.val 0) (j.val / 4 - 0 + 1) 0 (fun i => tmF j.val (j.val / 4 - 0 - i)) T29.heap n0 (Nat.le_trans (Nat.le_trans Z0 E20.1) K29.1) G29_0 G29_1 G29_2 G29_3 G29_4 G29_5 G29_6 (Nat.le_trans Z0 (Nat.le_of_eq g20.symm)) (by decide) ne29 G29_7 (by decide) (nlo_0 j) (fun q => by
          obtain ⟨x1, x2, x3⟩ := nhi_0 j q
          exact ⟨nn_of x1, nn_of x2, x3⟩)) hZ (hw _ (List.mem_of_getElem? (i := 26) rfl)) (hw _ (List.mem_of_getElem? (i := 4) rfl)) (by decide) (by decide)) q33a q33c (g := (mkF m 43 #[.val (.int p1), .val (.int p2), .val (.int (Int32.ofNat j.val)), .val (.double (mnF j.val)), .second, .val (.int (Int32.ofNat (j.val / 4))), .val (.int (1 : Int32)), .val (.ref ob), .unset, .unset, .unset, .unset, .unset, .unset, .unset, .unset, .unset] [(.ref ob)])) rfl (by rw [hml]; rfl) (Steps.refl _) (argsL := []) (rest := []) (lenOf pd___D rfl) rfl (by show 2 * 0 + _ ≤ _; exact Nat.le_of_eq rfl) (hb hby at_43) (fun _ _ => ⟨rfl, rfl, (by decide : 2 + 0 ≤ _), (by decide : 14 + 0 ≤ _)⟩)
    dsimp only [Pt.U, Pt.locs, Pt.cells, Pt.slots] at X33 l33 y33 z33 st33 hQ33
    subst l33 y33 z33
    obtain ⟨rfl, N33, K33, G33_0, G33_1, G33_2, G33_3, G33_4, G33_5, G33_6⟩ := hQ33
    have M33 := Fr.app M29 N33
    have F34 : Exa Z T33.heap ob "com/example/topple/topple/markov/PoissonWeights" := (G29_0.keep K33)
    have F35 : OwnArr.Ag Z T33.heap ta .double (j.val / 4 - 0 + 1) (fun i => .double (tmF j.val (j.val / 4 - 0 - i))) := (G29_7.keep K33 (ninS ne29 nin0))
    have c36 : ∀ t, Steps p.tables e below (T33.setTop (mkF m 46 #[.val (.int p1), .val (.int p2), .val (.int (Int32.ofNat j.val)), .val (.double (mnF j.val)), .second, .val (.int (Int32.ofNat (j.val / 4))), .val (.int (1 : Int32)), .val (.ref ob), .unset, .unset, .unset, .unset, .unset, .unset, .unset, .unset, .unset] [(.double (WF j.val 0))])) t → Steps p.tables e below (s₁.setTop (entryFrame m #[(.int p1), (.int p2)] maxLocals)) t := fun t k => c32 t (st33.trans k)
    have c37 : ∀ t, Steps p.tables e below (T33.setTop (mkF m 115 #[.val (.int p1), .val (.int p2), .val (.int (Int32.ofNat j.val)), .val (.double (mnF j.val)), .second, .val (.int (Int32.ofNat (j.val / 4))), .val (.int (1 : Int32)), .val (.ref ob), .val (.int (0 : Int32)), .unset, .unset, .unset, .unset, .unset, .unset, .unset, .unset] [(.ref ob)])) t → Steps p.tables e below (s₁.setTop (entryFrame m #[(.int p1), (.int p2)] maxLocals)) t := fun t k => c36 t (by
      show Steps p.tables e below (T33.setTop (mkF m 46 #[.val (.int p1), .val (.int p2), .val (.int (Int32.ofNat j.val)), .val (.double (mnF j.val)), .second, .val (.int (Int32.ofNat (j.val / 4))), .val (.int (1 : Int32)), .val (.ref ob), .unset, .unset, .unset, .unset, .unset, .unset, .unset, .unset, .unset] [(.double (WF j.val 0))])) _
      refine Jvm.OwnP2.pop2D X33.here hx rfl (hb hby at_46) rfl ?_
      show Steps p.tables e below (T33.setTop (mkF m 47 #[.val (.int p1), .val (.int p2), .val (.int (Int32.ofNat j.val)), .val (.double (mnF j.val)), .second, .val (.int (Int32.ofNat (j.val / 4))), .val (.int (1 : Int32)), .val (.ref ob), .unset, .unset, .unset, .unset, .unset, .unset, .unset, .unset, .unset] [])) _
      refine XS.iload X33.here hx rfl (hb hby at_47) rfl ?_
      show Steps p.tables e below (T33.setTop (mkF m 49 #[.val (.int p1), .val (.int p2), .val (.int (Int32.ofNat j.val)), .val (.double (mnF j.val)), .second, .val (.int (Int32.ofNat (j.val / 4))), .val (.int (1 : Int32)), .val (.ref ob), .unset, .unset, .unset, .unset, .unset, .unset, .unset, .unset, .unset] [(.int (1 : Int32))])) _
      refine XS.iconst X33.here hx rfl (hb hby at_49) ?_
      show Steps p.tables e below (T33.setTop (mkF m 50 #[.val (.int p1), .val (.int p2), .val (.int (Int32.ofNat j.val)), .val (.double (mnF j.val)), .second, .val (.int (Int32.ofNat (j.val / 4))), .val (.int (1 : Int32)), .val (.ref ob), .unset, .unset, .unset, .unset, .unset, .unset, .unset, .unset, .unset] [(.int (1 : Int32)), (.int (1 : Int32))])) _
      refine XS.icmpYes X33.here hx rfl (pc0 := 50) (pc' := 59) rfl (hb hby at_50) rfl (XT.ii_le_t (by decide)) (by decide) (by decide) ?_
      show Steps p.tables e below (T33.setTop (mkF m 59 #[.val (.int p1), .val (.int p2), .val (.int (Int32.ofNat j.val)), .val (.double (mnF j.val)), .second, .val (.int (Int32.ofNat (j.val / 4))), .val (.int (1 : Int32)), .val (.ref ob), .unset, .unset, .unset, .unset, .unset, .unset, .unset, .unset, .unset] [])) _
      refine XS.iload X33.here hx rfl (hb hby at_59) rfl ?_
      show Steps p.tables e below (T33.setTop (mkF m 61 #[.val (.int p1), .val (.int p2), .val (.int (Int32.ofNat j.val)), .val (.double (mnF j.val)), .second, .val (.int (Int32.ofNat (j.val / 4))), .val (.int (1 : Int32)), .val (.ref ob), .unset, .unset, .unset, .unset, .unset, .unset, .unset, .unset, .unset] [(.int (1 : Int32))])) _
      refine XS.iconst X33.here hx rfl (hb hby at_61) ?_
      show Steps p.tables e below (T33.setTop (mkF m 62 #[.val (.int p1), .val (.int p2), .val (.int (Int32.ofNat j.val)), .val (.double (mnF j.val)), .second, .val (.int (Int32.ofNat (j.val / 4))), .val (.int (1 : Int32)), .val (.ref ob), .unset, .unset, .unset, .unset, .unset, .unset, .unset, .unset, .unset] [(.int (2 : Int32)), (.int (1 : Int32))])) _
      refine XS.icmpYes X33.here hx rfl (pc0 := 62) (pc' := 71) rfl (hb hby at_62) rfl (XT.ii_le_t (by decide)) (by decide) (by decide) ?_
      show Steps p.tables e below (T33.setTop (mkF m 71 #[.val (.int p1), .val (.int p2), .val (.int (Int32.ofNat j.val)), .val (.double (mnF j.val)), .second, .val (.int (Int32.ofNat (j.val / 4))), .val (.int (1 : Int32)), .val (.ref ob), .unset, .unset, .unset, .unset, .unset, .unset, .unset, .unset, .unset] [])) _
      refine XS.iload X33.here hx rfl (hb hby at_71) rfl ?_
      show Steps p.tables e below (T33.setTop (mkF m 73 #[.val (.int p1), .val (.int p2), .val (.int (Int32.ofNat j.val)), .val (.double (mnF j.val)), .second, .val (.int (Int32.ofNat (j.val / 4))), .val (.int (1 : Int32)), .val (.ref ob), .unset, .unset, .unset, .unset, .unset, .unset, .unset, .unset, .unset] [(.int (1 : Int32))])) _
      refine XS.iconst X33.here hx rfl (hb hby at_73) ?_
      show Steps p.tables e below (T33.setTop (mkF m 74 #[.val (.int p1), .val (.int p2), .val (.int (Int32.ofNat j.val)), .val (.double (mnF j.val)), .second, .val (.int (Int32.ofNat (j.val / 4))), .val (.int (1 : Int32)), .val (.ref ob), .unset, .unset, .unset, .unset, .unset, .unset, .unset, .unset, .unset] [(.int (3 : Int32)), (.int (1 : Int32))])) _
      refine XS.icmpYes X33.here hx rfl (pc0 := 74) (pc' := 83) rfl (hb hby at_74) rfl (XT.ii_le_t (by decide)) (by decide) (by decide) ?_
      show Steps p.tables e below (T33.setTop (mkF m 83 #[.val (.int p1), .val (.int p2), .val (.int (Int32.ofNat j.val)), .val (.double (mnF j.val)), .second, .val (.int (Int32.ofNat (j.val / 4))), .val (.int (1 : Int32)), .val (.ref ob), .unset, .unset, .unset, .unset, .unset, .unset, .unset, .unset, .unset] [])) _
      refine XS.iload X33.here hx rfl (hb hby at_83) rfl ?_
      show Steps p.tables e below (T33.setTop (mkF m 85 #[.val (.int p1), .val (.int p2), .val (.int (Int32.ofNat j.val)), .val (.double (mnF j.val)), .second, .val (.int (Int32.ofNat (j.val / 4))), .val (.int (1 : Int32)), .val (.ref ob), .unset, .unset, .unset, .unset, .unset, .unset, .unset, .unset, .unset] [(.int (1 : Int32))])) _
      refine XS.iconst X33.here hx rfl (hb hby at_85) ?_
      show Steps p.tables e below (T33.setTop (mkF m 86 #[.val (.int p1), .val (.int p2), .val (.int (Int32.ofNat j.val)), .val (.double (mnF j.val)), .second, .val (.int (Int32.ofNat (j.val / 4))), .val (.int (1 : Int32)), .val (.ref ob), .unset, .unset, .unset, .unset, .unset, .unset, .unset, .unset, .unset] [(.int (4 : Int32)), (.int (1 : Int32))])) _
      refine XS.icmpYes X33.here hx rfl (pc0 := 86) (pc' := 95) rfl (hb hby at_86) rfl (XT.ii_le_t (by decide)) (by decide) (by decide) ?_
      show Steps p.tables e below (T33.setTop (mkF m 95 #[.val (.int p1), .val (.int p2), .val (.int (Int32.ofNat j.val)), .val (.double (mnF j.val)), .second, .val (.int (Int32.ofNat (j.val / 4))), .val (.int (1 : Int32)), .val (.ref ob), .unset, .unset, .unset, .unset, .unset, .unset, .unset, .unset, .unset] [])) _
      refine XS.iload X33.here hx rfl (hb hby at_95) rfl ?_
      show Steps p.tables e below (T33.setTop (mkF m 97 #[.val (.int p1), .val (.int p2), .val (.int (Int32.ofNat j.val)), .val (.double (mnF j.val)), .second, .val (.int (Int32.ofNat (j.val / 4))), .val (.int (1 : Int32)), .val (.ref ob), .unset, .unset, .unset, .unset, .unset, .unset, .unset, .unset, .unset] [(.int (1 : Int32))])) _
      refine XS.iconst X33.here hx rfl (hb hby at_97) ?_
      show Steps p.tables e below (T33.setTop (mkF m 98 #[.val (.int p1), .val (.int p2), .val (.int (Int32.ofNat j.val)), .val (.double (mnF j.val)), .second, .val (.int (Int32.ofNat (j.val / 4))), .val (.int (1 : Int32)), .val (.ref ob), .unset, .unset, .unset, .unset, .unset, .unset, .unset, .unset, .unset] [(.int (5 : Int32)), (.int (1 : Int32))])) _
      refine XS.icmpYes X33.here hx rfl (pc0 := 98) (pc' := 107) rfl (hb hby at_98) rfl (XT.ii_le_t (by decide)) (by decide) (by decide) ?_
      show Steps p.tables e below (T33.setTop (mkF m 107 #[.val (.int p1), .val (.int p2), .val (.int (Int32.ofNat j.val)), .val (.double (mnF j.val)), .second, .val (.int (Int32.ofNat (j.val / 4))), .val (.int (1 : Int32)), .val (.ref ob), .unset, .unset, .unset, .unset, .unset, .unset, .unset, .unset, .unset] [])) _
      refine XS.iload X33.here hx rfl (hb hby at_107) rfl ?_
      show Steps p.tables e below (T33.setTop (mkF m 109 #[.val (.int p1), .val (.int p2), .val (.int (Int32.ofNat j.val)), .val (.double (mnF j.val)), .second, .val (.int (Int32.ofNat (j.val / 4))), .val (.int (1 : Int32)), .val (.ref ob), .unset, .unset, .unset, .unset, .unset, .unset, .unset, .unset, .unset] [(.int (1 : Int32))])) _
      refine XS.iconst X33.here hx rfl (hb hby at_109) ?_
      show Steps p.tables e below (T33.setTop (mkF m 110 #[.val (.int p1), .val (.int p2), .val (.int (Int32.ofNat j.val)), .val (.double (mnF j.val)), .second, .val (.int (Int32.ofNat (j.val / 4))), .val (.int (1 : Int32)), .val (.ref ob), .unset, .unset, .unset, .unset, .unset, .unset, .unset, .unset, .unset] [(.int (1 : Int32)), (.int (1 : Int32))])) _
      refine XS.isub X33.here hx rfl (hb hby at_110) rfl ?_
      show Steps p.tables e below (T33.setTop (mkF m 111 #[.val (.int p1), .val (.int p2), .val (.int (Int32.ofNat j.val)), .val (.double (mnF j.val)), .second, .val (.int (Int32.ofNat (j.val / 4))), .val (.int (1 : Int32)), .val (.ref ob), .unset, .unset, .unset, .unset, .unset, .unset, .unset, .unset, .unset] [(.int (0 : Int32))])) _
      refine XS.istore X33.here hx rfl (hb hby at_111) rfl (l' := #[.val (.int p1), .val (.int p2), .val (.int (Int32.ofNat j.val)), .val (.double (mnF j.val)), .second, .val (.int (Int32.ofNat (j.val / 4))), .val (.int (1 : Int32)), .val (.ref ob), .val (.int (0 : Int32)), .unset, .unset, .unset, .unset, .unset, .unset, .unset, .unset]) rfl ?_
      show Steps p.tables e below (T33.setTop (mkF m 113 #[.val (.int p1), .val (.int p2), .val (.int (Int32.ofNat j.val)), .val (.double (mnF j.val)), .second, .val (.int (Int32.ofNat (j.val / 4))), .val (.int (1 : Int32)), .val (.ref ob), .val (.int (0 : Int32)), .unset, .unset, .unset, .unset, .unset, .unset, .unset, .unset] [])) _
      refine XS.aload X33.here hx rfl (hb hby at_113) rfl rfl ?_
      show Steps p.tables e below (T33.setTop (mkF m 115 #[.val (.int p1), .val (.int p2), .val (.int (Int32.ofNat j.val)), .val (.double (mnF j.val)), .second, .val (.int (Int32.ofNat (j.val / 4))), .val (.int (1 : Int32)), .val (.ref ob), .val (.int (0 : Int32)), .unset, .unset, .unset, .unset, .unset, .unset, .unset, .unset] [(.ref ob)])) _
      exact k)
    by_cases qt : (0 : Int32) < (Int32.ofNat (j.val / 4))
    · skip
      obtain ⟨cq38, kq38, q38a, q38b, q38c⟩ := isOf hZ rfl G33_0
      obtain ⟨_, _, ⟨T38, L38, k38', n38⟩, -, X38, ⟨Lc38, hQ38, l38, y38, z38⟩, st38⟩ := X33.virtualBack hx (y := (⟨"com/example/topple/topple/markov/PoissonWeights", "tail", "()D"⟩ : MethodName)) (z := (⟨"com/example/topple/topple/markov/PoissonWeights", "tail", "()D"⟩ : MethodName)) hown (mvT hZ (hw _ (List.mem_of_getElem? (i := 29) rfl))) (mvT hZ (hw _ (List.mem_of_getElem? (i := 30) rfl))) (notFace_of_selects (args := #[]) (mvT hZ (hw _ (List.mem_of_getElem? (i := 32) rfl)))) (mvT hZ (hw _ (List.mem_of_getElem? (i := 32) rfl))) (mvT hZ (hw _ (List.mem_of_getElem? (i := 31) rfl))) (by decide) (backOf (W := 0) (rm_t0 l Z a0 hw [] ob (0 : Int32) (Int32.ofNat (j.val / 4)) T33.heap n0 (Nat.le_trans (Nat.le_trans (Nat.le_trans Z0 E20.1) K29.1) K33.1) G33_1 G33_3 qt) hZ (hw _ (List.mem_of_getElem? (i := 33) rfl)) (hw _ (List.mem_of_getElem? (i := 4) rfl)) (by decide) (by decide)) q38a q38c (g := (mkF m 115 #[.val (.int p1), .val (.int p2), .val (.int (Int32.ofNat j.val)), .val (.double (mnF j.val)), .second, .val (.int (Int32.ofNat (j.val / 4))), .val (.int (1 : Int32)), .val (.ref ob), .val (.int (0 : Int32)), .unset, .unset, .unset, .unset, .unset, .unset, .unset, .unset] [(.ref ob)])) rfl (by rw [hml]; rfl) (Steps.refl _) (argsL := []) (rest := []) (lenOf pd___D rfl) rfl (by show 2 * 0 + _ ≤ _; exact Nat.le_of_eq rfl) (hb hby at_115) (fun _ _ => ⟨rfl, rfl, (by decide : 2 + 0 ≤ _), (by decide : 14 + 0 ≤ _)⟩)
      dsimp only [Pt.U, Pt.locs, Pt.cells, Pt.slots] at X38 l38 y38 z38 st38 hQ38
      subst l38 y38 z38
      obtain ⟨rfl, N38, e38⟩ := hQ38
      have M38 := Fr.app M33 N38
      have c39 : ∀ t, Steps p.tables e below (T38.setTop (mkF m 118 #[.val (.int p1), .val (.int p2), .val (.int (Int32.ofNat j.val)), .val (.double (mnF j.val)), .second, .val (.int (Int32.ofNat (j.val / 4))), .val (.int (1 : Int32)), .val (.ref ob), .val (.int (0 : Int32)), .unset, .unset, .unset, .unset, .unset, .unset, .unset, .unset] [(.double (9218868437227405312 : UInt64))])) t → Steps p.tables e below (s₁.setTop (entryFrame m #[(.int p1), (.int p2)] maxLocals)) t := fun t k => c37 t (st38.trans k)
      obtain ⟨k132, hk132⟩ : ∃ v : Int32, cmpValue (FP.dcmp (9218868437227405312 : UInt64) (9218868437227405312 : UInt64)) .l = v := ⟨_, rfl⟩
      have e132 : k132 = 0 := hk132.symm.trans inf_c
      have c40 : ∀ t, Steps p.tables e below (T38.setTop (mkF m 141 #[.val (.int p1), .val (.int p2), .val (.int (Int32.ofNat j.val)), .val (.double (mnF j.val)), .second, .val (.int (Int32.ofNat (j.val / 4))), .val (.int (1 : Int32)), .val (.ref ob), .val (.int (0 : Int32)), .val (.double (9218868437227405312 : UInt64)), .second, .unset, .unset, .unset, .unset, .unset, .unset] [(.int (1 : Int32))])) t → Steps p.tables e below (s₁.setTop (entryFrame m #[(.int p1), (.int p2)] maxLocals)) t := fun t k => c39 t (by
        show Steps p.tables e below (T38.setTop (mkF m 118 #[.val (.int p1), .val (.int p2), .val (.int (Int32.ofNat j.val)), .val (.double (mnF j.val)), .second, .val (.int (Int32.ofNat (j.val / 4))), .val (.int (1 : Int32)), .val (.ref ob), .val (.int (0 : Int32)), .unset, .unset, .unset, .unset, .unset, .unset, .unset, .unset] [(.double (9218868437227405312 : UInt64))])) _
        refine XS.dstore X38.here hx rfl (hb hby at_118) rfl (l' := #[.val (.int p1), .val (.int p2), .val (.int (Int32.ofNat j.val)), .val (.double (mnF j.val)), .second, .val (.int (Int32.ofNat (j.val / 4))), .val (.int (1 : Int32)), .val (.ref ob), .val (.int (0 : Int32)), .val (.double (9218868437227405312 : UInt64)), .second, .unset, .unset, .unset, .unset, .unset, .unset]) rfl ?_
        show Steps p.tables e below (T38.setTop (mkF m 120 #[.val (.int p1), .val (.int p2), .val (.int (Int32.ofNat j.val)), .val (.double (mnF j.val)), .second, .val (.int (Int32.ofNat (j.val / 4))), .val (.int (1 : Int32)), .val (.ref ob), .val (.int (0 : Int32)), .val (.double (9218868437227405312 : UInt64)), .second, .unset, .unset, .unset, .unset, .unset, .unset] [])) _
        refine XS.iload X38.here hx rfl (hb hby at_120) rfl ?_
        show Steps p.tables e below (T38.setTop (mkF m 122 #[.val (.int p1), .val (.int p2), .val (.int (Int32.ofNat j.val)), .val (.double (mnF j.val)), .second, .val (.int (Int32.ofNat (j.val / 4))), .val (.int (1 : Int32)), .val (.ref ob), .val (.int (0 : Int32)), .val (.double (9218868437227405312 : UInt64)), .second, .unset, .unset, .unset, .unset, .unset, .unset] [(.int (0 : Int32))])) _
        refine XS.iload X38.here hx rfl (hb hby at_122) rfl ?_
        show Steps p.tables e below (T38.setTop (mkF m 124 #[.val (.int p1), .val (.int p2), .val (.int (Int32.ofNat j.val)), .val (.double (mnF j.val)), .second, .val (.int (Int32.ofNat (j.val / 4))), .val (.int (1 : Int32)), .val (.ref ob), .val (.int (0 : Int32)), .val (.double (9218868437227405312 : UInt64)), .second, .unset, .unset, .unset, .unset, .unset, .unset] [(.int (Int32.ofNat (j.val / 4))), (.int (0 : Int32))])) _
        refine XS.icmpNo X38.here hx rfl (hb hby at_124) rfl (XT.ii_ge_f qt) ?_
        show Steps p.tables e below (T38.setTop (mkF m 127 #[.val (.int p1), .val (.int p2), .val (.int (Int32.ofNat j.val)), .val (.double (mnF j.val)), .second, .val (.int (Int32.ofNat (j.val / 4))), .val (.int (1 : Int32)), .val (.ref ob), .val (.int (0 : Int32)), .val (.double (9218868437227405312 : UInt64)), .second, .unset, .unset, .unset, .unset, .unset, .unset] [])) _
        refine XS.dload X38.here hx rfl (hb hby at_127) rfl ?_
        show Steps p.tables e below (T38.setTop (mkF m 129 #[.val (.int p1), .val (.int p2), .val (.int (Int32.ofNat j.val)), .val (.double (mnF j.val)), .second, .val (.int (Int32.ofNat (j.val / 4))), .val (.int (1 : Int32)), .val (.ref ob), .val (.int (0 : Int32)), .val (.double (9218868437227405312 : UInt64)), .second, .unset, .unset, .unset, .unset, .unset, .unset] [(.double (9218868437227405312 : UInt64))])) _
        refine Jvm.Stand.ldc2DoubleC X38 hx hown (mvT hZ (hw _ (List.mem_of_getElem? (i := 36) rfl))) (g := (mkF m 129 #[.val (.int p1), .val (.int p2), .val (.int (Int32.ofNat j.val)), .val (.double (mnF j.val)), .second, .val (.int (Int32.ofNat (j.val / 4))), .val (.int (1 : Int32)), .val (.ref ob), .val (.int (0 : Int32)), .val (.double (9218868437227405312 : UInt64)), .second, .unset, .unset, .unset, .unset, .unset, .unset] [(.double (9218868437227405312 : UInt64))])) rfl (hb hby at_129) _ ?_
        show Steps p.tables e below (T38.setTop (mkF m 132 #[.val (.int p1), .val (.int p2), .val (.int (Int32.ofNat j.val)), .val (.double (mnF j.val)), .second, .val (.int (Int32.ofNat (j.val / 4))), .val (.int (1 : Int32)), .val (.ref ob), .val (.int (0 : Int32)), .val (.double (9218868437227405312 : UInt64)), .second, .unset, .unset, .unset, .unset, .unset, .unset] [(.double (9218868437227405312 : UInt64)), (.double (9218868437227405312 : UInt64))])) _
        refine XS.dcmpS X38.here hx rfl (hb hby at_132) rfl hk132 ?_
        show Steps p.tables e below (T38.setTop (mkF m 133 #[.val (.int p1), .val (.int p2), .val (.int (Int32.ofNat j.val)), .val (.double (mnF j.val)), .second, .val (.int (Int32.ofNat (j.val / 4))), .val (.int (1 : Int32)), .val (.ref ob), .val (.int (0 : Int32)), .val (.double (9218868437227405312 : UInt64)), .second, .unset, .unset, .unset, .unset, .unset, .unset] [(.int k132)])) _
        refine XS.ifNo X38.here hx rfl (hb hby at_133) rfl (XT.i0_ne_f e132) ?_
        show Steps p.tables e below (T38.setTop (mkF m 136 #[.val (.int p1), .val (.int p2), .val (.int (Int32.ofNat j.val)), .val (.double (mnF j.val)), .second, .val (.int (Int32.ofNat (j.val / 4))), .val (.int (1 : Int32)), .val (.ref ob), .val (.int (0 : Int32)), .val (.double (9218868437227405312 : UInt64)), .second, .unset, .unset, .unset, .unset, .unset, .unset] [])) _
        refine XS.iconst X38.here hx rfl (hb hby at_136) ?_
        show Steps p.tables e below (T38.setTop (mkF m 137 #[.val (.int p1), .val (.int p2), .val (.int (Int32.ofNat j.val)), .val (.double (mnF j.val)), .second, .val (.int (Int32.ofNat (j.val / 4))), .val (.int (1 : Int32)), .val (.ref ob), .val (.int (0 : Int32)), .val (.double (9218868437227405312 : UInt64)), .second, .unset, .unset, .unset, .unset, .unset, .unset] [(.int (1 : Int32))])) _
        refine XS.goto X38.here hx rfl (pc0 := 137) (pc' := 141) rfl (hb hby at_137) (by decide) (by decide) ?_
        show Steps p.tables e below (T38.setTop (mkF m 141 #[.val (.int p1), .val (.int p2), .val (.int (Int32.ofNat j.val)), .val (.double (mnF j.val)), .second, .val (.int (Int32.ofNat (j.val / 4))), .val (.int (1 : Int32)), .val (.ref ob), .val (.int (0 : Int32)), .val (.double (9218868437227405312 : UInt64)), .second, .unset, .unset, .unset, .unset, .unset, .unset] [(.int (1 : Int32))])) _
        exact k)
      obtain ⟨fs, hr, hrun, hended, hW, hsame⟩ := X38.leave (v := (some (.int (1 : Int32)))) (fun h => by rw [Bd.returns] at h; cases h)
      refine ⟨_, _, pre0 _ (c40 _ (retN X38 hx (t := .boolean) Bd.returns (by simp) (hb hby at_141) hr)), hrun, hended, _, _, rfl, ?_, ⟨_, rfl⟩, hW, hsame.mono (by decide) (by decide)⟩
      show Q_0 Z p1 p2 h0 n0 _ T38.heap _
      rw [e38]
      exact ⟨rfl, M38⟩
    · skip
      obtain ⟨z1, z2, z3, z4, z5⟩ := tl_1 j qt
      obtain ⟨l1, l2, l3, l4, l5, l6⟩ := lw_1 j qt
      obtain ⟨cq41, kq41, q41a, q41b, q41c⟩ := isOf hZ rfl G33_0
      obtain ⟨_, _, ⟨T41, L41, k41', n41⟩, -, X41, ⟨Lc41, hQ41, l41, y41, z41⟩, st41⟩ := X33.virtualBack hx (y := (⟨"com/example/topple/topple/markov/PoissonWeights", "tail", "()D"⟩ : MethodName)) (z := (⟨"com/example/topple/topple/markov/PoissonWeights", "tail", "()D"⟩ : MethodName)) hown (mvT hZ (hw _ (List.mem_of_getElem? (i := 29) rfl))) (mvT hZ (hw _ (List.mem_of_getElem? (i := 30) rfl))) (notFace_of_selects (args := #[]) (mvT hZ (hw _ (List.mem_of_getElem? (i := 32) rfl)))) (mvT hZ (hw _ (List.mem_of_getElem? (i := 32) rfl))) (mvT hZ (hw _ (List.mem_of_getElem? (i := 31) rfl))) (by decide) (backOf (W := 0) (rm_t1 l Z a0 hw [] ob (0 : Int32) (Int32.ofNat (j.val / 4)) (mnF j.val) (WF j.val 0) T33.heap n0 (Nat.le_trans (Nat.le_trans (Nat.le_trans Z0 E20.1) K29.1) K33.1) G33_1 G33_2 G33_3 G33_6 qt (nn_of z1) (nn_of z2) (nn_of z3) (nn_of z4) (nn_of z5)) hZ (hw _ (List.mem_of_getElem? (i := 33) rfl)) (hw _ (List.mem_of_getElem? (i := 4) rfl)) (by decide) (by decide)) q41a q41c (g := (mkF m 115 #[.val (.int p1), .val (.int p2), .val (.int (Int32.ofNat j.val)), .val (.double (mnF j.val)), .second, .val (.int (Int32.ofNat (j.val / 4))), .val (.int (1 : Int32)), .val (.ref ob), .val (.int (0 : Int32)), .unset, .unset, .unset, .unset, .unset, .unset, .unset, .unset] [(.ref ob)])) rfl (by rw [hml]; rfl) (Steps.refl _) (argsL := []) (rest := []) (lenOf pd___D rfl) rfl (by show 2 * 0 + _ ≤ _; exact Nat.le_of_eq rfl) (hb hby at_115) (fun _ _ => ⟨rfl, rfl, (by decide : 2 + 0 ≤ _), (by decide : 14 + 0 ≤ _)⟩)
      dsimp only [Pt.U, Pt.locs, Pt.cells, Pt.slots] at X41 l41 y41 z41 st41 hQ41
      subst l41 y41 z41
      obtain ⟨rfl, N41, e41⟩ := hQ41
      have M41 := Fr.app M33 N41
      have c42 : ∀ t, Steps p.tables e below (T41.setTop (mkF m 118 #[.val (.int p1), .val (.int p2), .val (.int (Int32.ofNat j.val)), .val (.double (mnF j.val)), .second, .val (.int (Int32.ofNat (j.val / 4))), .val (.int (1 : Int32)), .val (.ref ob), .val (.int (0 : Int32)), .unset, .unset, .unset, .unset, .unset, .unset, .unset, .unset] [(.double (FP.ddiv (FP.ddiv (FP.dmul (WF j.val 0) (mnF j.val)) (FP.i2d ((0 : Int32) + (1 : Int32)))) (FP.dsub FP.dconst1 (FP.ddiv (mnF j.val) (FP.i2d ((0 : Int32) + (2 : Int32)))))))])) t → Steps p.tables e below (s₁.setTop (entryFrame m #[(.int p1), (.int p2)] maxLocals)) t := fun t k => c37 t (st41.trans k)
      have c43 : ∀ t, Steps p.tables e below (T41.setTop (mkF m 144 #[.val (.int p1), .val (.int p2), .val (.int (Int32.ofNat j.val)), .val (.double (mnF j.val)), .second, .val (.int (Int32.ofNat (j.val / 4))), .val (.int (1 : Int32)), .val (.ref ob), .val (.int (0 : Int32)), .val (.double (FP.ddiv (FP.ddiv (FP.dmul (WF j.val 0) (mnF j.val)) (FP.i2d ((0 : Int32) + (1 : Int32)))) (FP.dsub FP.dconst1 (FP.ddiv (mnF j.val) (FP.i2d ((0 : Int32) + (2 : Int32))))))), .second, .unset, .unset, .unset, .unset, .unset, .unset] [(.ref ob)])) t → Steps p.tables e below (s₁.setTop (entryFrame m #[(.int p1), (.int p2)] maxLocals)) t := fun t k => c42 t (by
        show Steps p.tables e below (T41.setTop (mkF m 118 #[.val (.int p1), .val (.int p2), .val (.int (Int32.ofNat j.val)), .val (.double (mnF j.val)), .second, .val (.int (Int32.ofNat (j.val / 4))), .val (.int (1 : Int32)), .val (.ref ob), .val (.int (0 : Int32)), .unset, .unset, .unset, .unset, .unset, .unset, .unset, .unset] [(.double (FP.ddiv (FP.ddiv (FP.dmul (WF j.val 0) (mnF j.val)) (FP.i2d ((0 : Int32) + (1 : Int32)))) (FP.dsub FP.dconst1 (FP.ddiv (mnF j.val) (FP.i2d ((0 : Int32) + (2 : Int32)))))))])) _
        refine XS.dstore X41.here hx rfl (hb hby at_118) rfl (l' := #[.val (.int p1), .val (.int p2), .val (.int (Int32.ofNat j.val)), .val (.double (mnF j.val)), .second, .val (.int (Int32.ofNat (j.val / 4))), .val (.int (1 : Int32)), .val (.ref ob), .val (.int (0 : Int32)), .val (.double (FP.ddiv (FP.ddiv (FP.dmul (WF j.val 0) (mnF j.val)) (FP.i2d ((0 : Int32) + (1 : Int32)))) (FP.dsub FP.dconst1 (FP.ddiv (mnF j.val) (FP.i2d ((0 : Int32) + (2 : Int32))))))), .second, .unset, .unset, .unset, .unset, .unset, .unset]) rfl ?_
        show Steps p.tables e below (T41.setTop (mkF m 120 #[.val (.int p1), .val (.int p2), .val (.int (Int32.ofNat j.val)), .val (.double (mnF j.val)), .second, .val (.int (Int32.ofNat (j.val / 4))), .val (.int (1 : Int32)), .val (.ref ob), .val (.int (0 : Int32)), .val (.double (FP.ddiv (FP.ddiv (FP.dmul (WF j.val 0) (mnF j.val)) (FP.i2d ((0 : Int32) + (1 : Int32)))) (FP.dsub FP.dconst1 (FP.ddiv (mnF j.val) (FP.i2d ((0 : Int32) + (2 : Int32))))))), .second, .unset, .unset, .unset, .unset, .unset, .unset] [])) _
        refine XS.iload X41.here hx rfl (hb hby at_120) rfl ?_
        show Steps p.tables e below (T41.setTop (mkF m 122 #[.val (.int p1), .val (.int p2), .val (.int (Int32.ofNat j.val)), .val (.double (mnF j.val)), .second, .val (.int (Int32.ofNat (j.val / 4))), .val (.int (1 : Int32)), .val (.ref ob), .val (.int (0 : Int32)), .val (.double (FP.ddiv (FP.ddiv (FP.dmul (WF j.val 0) (mnF j.val)) (FP.i2d ((0 : Int32) + (1 : Int32)))) (FP.dsub FP.dconst1 (FP.ddiv (mnF j.val) (FP.i2d ((0 : Int32) + (2 : Int32))))))), .second, .unset, .unset, .unset, .unset, .unset, .unset] [(.int (0 : Int32))])) _
        refine XS.iload X41.here hx rfl (hb hby at_122) rfl ?_
        show Steps p.tables e below (T41.setTop (mkF m 124 #[.val (.int p1), .val (.int p2), .val (.int (Int32.ofNat j.val)), .val (.double (mnF j.val)), .second, .val (.int (Int32.ofNat (j.val / 4))), .val (.int (1 : Int32)), .val (.ref ob), .val (.int (0 : Int32)), .val (.double (FP.ddiv (FP.ddiv (FP.dmul (WF j.val 0) (mnF j.val)) (FP.i2d ((0 : Int32) + (1 : Int32)))) (FP.dsub FP.dconst1 (FP.ddiv (mnF j.val) (FP.i2d ((0 : Int32) + (2 : Int32))))))), .second, .unset, .unset, .unset, .unset, .unset, .unset] [(.int (Int32.ofNat (j.val / 4))), (.int (0 : Int32))])) _
        refine XS.icmpYes X41.here hx rfl (pc0 := 124) (pc' := 142) rfl (hb hby at_124) rfl (XT.ii_ge_t qt) (by decide) (by decide) ?_
        show Steps p.tables e below (T41.setTop (mkF m 142 #[.val (.int p1), .val (.int p2), .val (.int (Int32.ofNat j.val)), .val (.double (mnF j.val)), .second, .val (.int (Int32.ofNat (j.val / 4))), .val (.int (1 : Int32)), .val (.ref ob), .val (.int (0 : Int32)), .val (.double (FP.ddiv (FP.ddiv (FP.dmul (WF j.val 0) (mnF j.val)) (FP.i2d ((0 : Int32) + (1 : Int32)))) (FP.dsub FP.dconst1 (FP.ddiv (mnF j.val) (FP.i2d ((0 : Int32) + (2 : Int32))))))), .second, .unset, .unset, .unset, .unset, .unset, .unset] [])) _
        refine XS.aload X41.here hx rfl (hb hby at_142) rfl rfl ?_
        show Steps p.tables e below (T41.setTop (mkF m 144 #[.val (.int p1), .val (.int p2), .val (.int (Int32.ofNat j.val)), .val (.double (mnF j.val)), .second, .val (.int (Int32.ofNat (j.val / 4))), .val (.int (1 : Int32)), .val (.ref ob), .val (.int (0 : Int32)), .val (.double (FP.ddiv (FP.ddiv (FP.dmul (WF j.val 0) (mnF j.val)) (FP.i2d ((0 : Int32) + (1 : Int32)))) (FP.dsub FP.dconst1 (FP.ddiv (mnF j.val) (FP.i2d ((0 : Int32) + (2 : Int32))))))), .second, .unset, .unset, .unset, .unset, .unset, .unset] [(.ref ob)])) _
        exact k)
      obtain ⟨cq44, kq44, q44a, q44b, q44c⟩ := isOf hZ e41 G33_0
      obtain ⟨_, _, ⟨T44, L44, k44', n44⟩, -, X44, ⟨Lc44, hQ44, l44, y44, z44⟩, st44⟩ := X41.virtualBack hx (y := (⟨"com/example/topple/topple/markov/PoissonWeights", "next", "()D"⟩ : MethodName)) (z := (⟨"com/example/topple/topple/markov/PoissonWeights", "next", "()D"⟩ : MethodName)) hown (mvT hZ (hw _ (List.mem_of_getElem? (i := 22) rfl))) (mvT hZ (hw _ (List.mem_of_getElem? (i := 23) rfl))) (notFace_of_selects (args := #[]) (mvT hZ (hw _ (List.mem_of_getElem? (i := 25) rfl)))) (mvT hZ (hw _ (List.mem_of_getElem? (i := 25) rfl))) (mvT hZ (hw _ (List.mem_of_getElem? (i := 24) rfl))) (by decide) (backOf (W := 0) (rm_nx l Z a0 hw [] ob ta (mnF j.val) (0 : Int32) (1 : Int32) (Int32.ofNat (j.val / 4)) (Int32.ofNat 0) (WF j.val 0) (WF j.val 1) (j.val / 4 - 0 + 1) 1 (fun i => tmF j.val (j.val / 4 - 0 - i)) T33.heap n0 (Nat.le_trans (Nat.le_trans (Nat.le_trans Z0 E20.1) K29.1) K33.1) G33_0 G33_1 G33_2 G33_3 G33_4 G33_5 G33_6 (Nat.le_trans Z0 (Nat.le_of_eq g20.symm)) (by decide) ne29 F35 (by decide) (nlo_1 j) (fun q => by
            obtain ⟨x1, x2, x3⟩ := nhi_1 j q
            exact ⟨nn_of x1, nn_of x2, x3⟩)) hZ (hw _ (List.mem_of_getElem? (i := 26) rfl)) (hw _ (List.mem_of_getElem? (i := 4) rfl)) (by decide) (by decide)) q44a q44c (g := (mkF m 144 #[.val (.int p1), .val (.int p2), .val (.int (Int32.ofNat j.val)), .val (.double (mnF j.val)), .second, .val (.int (Int32.ofNat (j.val / 4))), .val (.int (1 : Int32)), .val (.ref ob), .val (.int (0 : Int32)), .val (.double (FP.ddiv (FP.ddiv (FP.dmul (WF j.val 0) (mnF j.val)) (FP.i2d ((0 : Int32) + (1 : Int32)))) (FP.dsub FP.dconst1 (FP.ddiv (mnF j.val) (FP.i2d ((0 : Int32) + (2 : Int32))))))), .second, .unset, .unset, .unset, .unset, .unset, .unset] [(.ref ob)])) rfl (by rw [hml]; rfl) (Steps.refl _) (argsL := []) (rest := []) (lenOf pd___D rfl) rfl (by show 2 * 0 + _ ≤ _; exact Nat.le_of_eq rfl) (hb hby at_144) (fun _ _ => ⟨rfl, e41, (by decide : 2 + 0 ≤ _), (by decide : 14 + 0 ≤ _)⟩)
      dsimp only [Pt.U, Pt.locs, Pt.cells, Pt.slots] at X44 l44 y44 z44 st44 hQ44
      subst l44 y44 z44
      obtain ⟨rfl, N44, K44, G44_0, G44_1, G44_2, G44_3, G44_4, G44_5, G44_6⟩ := hQ44
      have M44 := Fr.app M41 N44
      have F45 : Exa Z T44.heap ob "com/example/topple/topple/markov/PoissonWeights" := (G33_0.keep K44)
      have F46 : OwnArr.Ag Z T44.heap ta .double (j.val / 4 - 0 + 1) (fun i => .double (tmF j.val (j.val / 4 - 0 - i))) := (F35.keep K44 (ninS ne29 nin0))
      have c47 : ∀ t, Steps p.tables e below (T44.setTop (mkF m 147 #[.val (.int p1), .val (.int p2), .val (.int (Int32.ofNat j.val)), .val (.double (mnF j.val)), .second, .val (.int (Int32.ofNat (j.val / 4))), .val (.int (1 : Int32)), .val (.ref ob), .val (.int (0 : Int32)), .val (.double (FP.ddiv (FP.ddiv (FP.dmul (WF j.val 0) (mnF j.val)) (FP.i2d ((0 : Int32) + (1 : Int32)))) (FP.dsub FP.dconst1 (FP.ddiv (mnF j.val) (FP.i2d ((0 : Int32) + (2 : Int32))))))), .second, .unset, .unset, .unset, .unset, .unset, .unset] [(.double (WF j.val 1))])) t → Steps p.tables e below (s₁.setTop (entryFrame m #[(.int p1), (.int p2)] maxLocals)) t := fun t k => c43 t (st44.trans k)
      have c48 : ∀ t, Steps p.tables e below (T44.setTop (mkF m 151 #[.val (.int p1), .val (.int p2), .val (.int (Int32.ofNat j.val)), .val (.double (mnF j.val)), .second, .val (.int (Int32.ofNat (j.val / 4))), .val (.int (1 : Int32)), .val (.ref ob), .val (.int (0 : Int32)), .val (.double (FP.ddiv (FP.ddiv (FP.dmul (WF j.val 0) (mnF j.val)) (FP.i2d ((0 : Int32) + (1 : Int32)))) (FP.dsub FP.dconst1 (FP.ddiv (mnF j.val) (FP.i2d ((0 : Int32) + (2 : Int32))))))), .second, .val (.double (WF j.val 1)), .second, .unset, .unset, .unset, .unset] [(.ref ob)])) t → Steps p.tables e below (s₁.setTop (entryFrame m #[(.int p1), (.int p2)] maxLocals)) t := fun t k => c47 t (by
        show Steps p.tables e below (T44.setTop (mkF m 147 #[.val (.int p1), .val (.int p2), .val (.int (Int32.ofNat j.val)), .val (.double (mnF j.val)), .second, .val (.int (Int32.ofNat (j.val / 4))), .val (.int (1 : Int32)), .val (.ref ob), .val (.int (0 : Int32)), .val (.double (FP.ddiv (FP.ddiv (FP.dmul (WF j.val 0) (mnF j.val)) (FP.i2d ((0 : Int32) + (1 : Int32)))) (FP.dsub FP.dconst1 (FP.ddiv (mnF j.val) (FP.i2d ((0 : Int32) + (2 : Int32))))))), .second, .unset, .unset, .unset, .unset, .unset, .unset] [(.double (WF j.val 1))])) _
        refine XS.dstore X44.here hx rfl (hb hby at_147) rfl (l' := #[.val (.int p1), .val (.int p2), .val (.int (Int32.ofNat j.val)), .val (.double (mnF j.val)), .second, .val (.int (Int32.ofNat (j.val / 4))), .val (.int (1 : Int32)), .val (.ref ob), .val (.int (0 : Int32)), .val (.double (FP.ddiv (FP.ddiv (FP.dmul (WF j.val 0) (mnF j.val)) (FP.i2d ((0 : Int32) + (1 : Int32)))) (FP.dsub FP.dconst1 (FP.ddiv (mnF j.val) (FP.i2d ((0 : Int32) + (2 : Int32))))))), .second, .val (.double (WF j.val 1)), .second, .unset, .unset, .unset, .unset]) rfl ?_
        show Steps p.tables e below (T44.setTop (mkF m 149 #[.val (.int p1), .val (.int p2), .val (.int (Int32.ofNat j.val)), .val (.double (mnF j.val)), .second, .val (.int (Int32.ofNat (j.val / 4))), .val (.int (1 : Int32)), .val (.ref ob), .val (.int (0 : Int32)), .val (.double (FP.ddiv (FP.ddiv (FP.dmul (WF j.val 0) (mnF j.val)) (FP.i2d ((0 : Int32) + (1 : Int32)))) (FP.dsub FP.dconst1 (FP.ddiv (mnF j.val) (FP.i2d ((0 : Int32) + (2 : Int32))))))), .second, .val (.double (WF j.val 1)), .second, .unset, .unset, .unset, .unset] [])) _
        refine XS.aload X44.here hx rfl (hb hby at_149) rfl rfl ?_
        show Steps p.tables e below (T44.setTop (mkF m 151 #[.val (.int p1), .val (.int p2), .val (.int (Int32.ofNat j.val)), .val (.double (mnF j.val)), .second, .val (.int (Int32.ofNat (j.val / 4))), .val (.int (1 : Int32)), .val (.ref ob), .val (.int (0 : Int32)), .val (.double (FP.ddiv (FP.ddiv (FP.dmul (WF j.val 0) (mnF j.val)) (FP.i2d ((0 : Int32) + (1 : Int32)))) (FP.dsub FP.dconst1 (FP.ddiv (mnF j.val) (FP.i2d ((0 : Int32) + (2 : Int32))))))), .second, .val (.double (WF j.val 1)), .second, .unset, .unset, .unset, .unset] [(.ref ob)])) _
        exact k)
      obtain ⟨cq49, kq49, q49a, q49b, q49c⟩ := isOf hZ rfl G44_0
      obtain ⟨_, _, ⟨T49, L49, k49', n49⟩, -, X49, ⟨Lc49, hQ49, l49, y49, z49⟩, st49⟩ := X44.virtualBack hx (y := (⟨"com/example/topple/topple/markov/PoissonWeights", "next", "()D"⟩ : MethodName)) (z := (⟨"com/example/topple/topple/markov/PoissonWeights", "next", "()D"⟩ : MethodName)) hown (mvT hZ (hw _ (List.mem_of_getElem? (i := 22) rfl))) (mvT hZ (hw _ (List.mem_of_getElem? (i := 23) rfl))) (notFace_of_selects (args := #[]) (mvT hZ (hw _ (List.mem_of_getElem? (i := 25) rfl)))) (mvT hZ (hw _ (List.mem_of_getElem? (i := 25) rfl))) (mvT hZ (hw _ (List.mem_of_getElem? (i := 24) rfl))) (by decide) (backOf (W := 0) (rm_nx l Z a0 hw [] ob ta (mnF j.val) (1 : Int32) (2 : Int32) (Int32.ofNat (j.val / 4)) (Int32.ofNat 0) (WF j.val 1) (WF j.val 2) (j.val / 4 - 0 + 1) 2 (fun i => tmF j.val (j.val / 4 - 0 - i)) T44.heap n0 (Nat.le_trans (Nat.le_trans (Nat.le_trans (Nat.le_trans Z0 E20.1) K29.1) K33.1) K44.1) G44_0 G44_1 G44_2 G44_3 G44_4 G44_5 G44_6 (Nat.le_trans Z0 (Nat.le_of_eq g20.symm)) (by decide) ne29 F46 (by decide) (nlo_2 j) (fun q => by
            obtain ⟨x1, x2, x3⟩ := nhi_2 j q
            exact ⟨nn_of x1, nn_of x2, x3⟩)) hZ (hw _ (List.mem_of_getElem? (i := 26) rfl)) (hw _ (List.mem_of_getElem? (i := 4) rfl)) (by decide) (by decide)) q49a q49c (g := (mkF m 151 #[.val (.int p1), .val (.int p2), .val (.int (Int32.ofNat j.val)), .val (.double (mnF j.val)), .second, .val (.int (Int32.ofNat (j.val / 4))), .val (.int (1 : Int32)), .val (.ref ob), .val (.int (0 : Int32)), .val (.double (FP.ddiv (FP.ddiv (FP.dmul (WF j.val 0) (mnF j.val)) (FP.i2d ((0 : Int32) + (1 : Int32)))) (FP.dsub FP.dconst1 (FP.ddiv (mnF j.val) (FP.i2d ((0 : Int32) + (2 : Int32))))))), .second, .val (.double (WF j.val 1)), .second, .unset, .unset, .unset, .unset] [(.ref ob)])) rfl (by rw [hml]; rfl) (Steps.refl _) (argsL := []) (rest := []) (lenOf pd___D rfl) rfl (by show 2 * 0 + _ ≤ _; exact Nat.le_of_eq rfl) (hb hby at_151) (fun _ _ => ⟨rfl, rfl, (by decide : 2 + 0 ≤ _), (by decide : 14 + 0 ≤ _)⟩)
      dsimp only [Pt.U, Pt.locs, Pt.cells, Pt.slots] at X49 l49 y49 z49 st49 hQ49
      subst l49 y49 z49
      obtain ⟨rfl, N49, K49, G49_0, G49_1, G49_2, G49_3, G49_4, G49_5, G49_6⟩ := hQ49
      have M49 := Fr.app M44 N49
      have F50 : Exa Z T49.heap ob "com/example/topple/topple/markov/PoissonWeights" := (G44_0.keep K49)
      have F51 : OwnArr.Ag Z T49.heap ta .double (j.val / 4 - 0 + 1) (fun i => .double (tmF j.val (j.val / 4 - 0 - i))) := (F46.keep K49 (ninS ne29 nin0))
      have c52 : ∀ t, Steps p.tables e below (T49.setTop (mkF m 154 #[.val (.int p1), .val (.int p2), .val (.int (Int32.ofNat j.val)), .val (.double (mnF j.val)), .second, .val (.int (Int32.ofNat (j.val / 4))), .val (.int (1 : Int32)), .val (.ref ob), .val (.int (0 : Int32)), .val (.double (FP.ddiv (FP.ddiv (FP.dmul (WF j.val 0) (mnF j.val)) (FP.i2d ((0 : Int32) + (1 : Int32)))) (FP.dsub FP.dconst1 (FP.ddiv (mnF j.val) (FP.i2d ((0 : Int32) + (2 : Int32))))))), .second, .val (.double (WF j.val 1)), .second, .unset, .unset, .unset, .unset] [(.double (WF j.val 2))])) t → Steps p.tables e below (s₁.setTop (entryFrame m #[(.int p1), (.int p2)] maxLocals)) t := fun t k => c48 t (st49.trans k)
      obtain ⟨d161, hd161⟩ : ∃ v : UInt64, FP.i2d (2 : Int32) = v := ⟨_, rfl⟩
      obtain ⟨d162, hd162⟩ : ∃ v : UInt64, FP.ddiv (mnF j.val) d161 = v := ⟨_, rfl⟩
      have n162 : Jvm.Free.Fl.NoNaN64 (FP.ddiv (mnF j.val) d161) := by rw [← hd161]; exact nn_of l1
      obtain ⟨d172, hd172⟩ : ∃ v : UInt64, FP.dsub FP.dconst1 d162 = v := ⟨_, rfl⟩
      have n172 : Jvm.Free.Fl.NoNaN64 (FP.dsub FP.dconst1 d162) := by rw [← hd162, ← hd161]; exact nn_of l2
      obtain ⟨d173, hd173⟩ : ∃ v : UInt64, FP.ddiv (WF j.val 1) d172 = v := ⟨_, rfl⟩
      have n173 : Jvm.Free.Fl.NoNaN64 (FP.ddiv (WF j.val 1) d172) := by rw [← hd172, ← hd162, ← hd161]; exact nn_of l3
      obtain ⟨k174, hk174⟩ : ∃ v : Int32, cmpValue (FP.dcmp (FP.ddiv (FP.ddiv (FP.dmul (WF j.val 0) (mnF j.val)) (FP.i2d ((0 : Int32) + (1 : Int32)))) (FP.dsub FP.dconst1 (FP.ddiv (mnF j.val) (FP.i2d ((0 : Int32) + (2 : Int32)))))) d173) .l = v := ⟨_, rfl⟩
      have e174 : k174 = 0 := by rw [← hk174, ← hd173, ← hd172, ← hd162, ← hd161]; exact l4
      obtain ⟨d184, hd184⟩ : ∃ v : UInt64, FP.dadd (WF j.val 1) (WF j.val 2) = v := ⟨_, rfl⟩
      obtain ⟨k185, hk185⟩ : ∃ v : Int32, cmpValue (FP.dcmp (FP.ddiv (FP.ddiv (FP.dmul (WF j.val 0) (mnF j.val)) (FP.i2d ((0 : Int32) + (1 : Int32)))) (FP.dsub FP.dconst1 (FP.ddiv (mnF j.val) (FP.i2d ((0 : Int32) + (2 : Int32)))))) d184) .l = v := ⟨_, rfl⟩
      have e185 : ¬ k185 < 0 := by rw [← hk185, ← hd184]; exact l6
      have c53 : ∀ t, Steps p.tables e below (T49.setTop (mkF m 194 #[.val (.int p1), .val (.int p2), .val (.int (Int32.ofNat j.val)), .val (.double (mnF j.val)), .second, .val (.int (Int32.ofNat (j.val / 4))), .val (.int (1 : Int32)), .val (.ref ob), .val (.int (0 : Int32)), .val (.double (FP.ddiv (FP.ddiv (FP.dmul (WF j.val 0) (mnF j.val)) (FP.i2d ((0 : Int32) + (1 : Int32)))) (FP.dsub FP.dconst1 (FP.ddiv (mnF j.val) (FP.i2d ((0 : Int32) + (2 : Int32))))))), .second, .val (.double (WF j.val 1)), .second, .val (.double (WF j.val 2)), .second, .val (.double d162), .second] [(.int (1 : Int32))])) t → Steps p.tables e below (s₁.setTop (entryFrame m #[(.int p1), (.int p2)] maxLocals)) t := fun t k => c52 t (by
        show Steps p.tables e below (T49.setTop (mkF m 154 #[.val (.int p1), .val (.int p2), .val (.int (Int32.ofNat j.val)), .val (.double (mnF j.val)), .second, .val (.int (Int32.ofNat (j.val / 4))), .val (.int (1 : Int32)), .val (.ref ob), .val (.int (0 : Int32)), .val (.double (FP.ddiv (FP.ddiv (FP.dmul (WF j.val 0) (mnF j.val)) (FP.i2d ((0 : Int32) + (1 : Int32)))) (FP.dsub FP.dconst1 (FP.ddiv (mnF j.val) (FP.i2d ((0 : Int32) + (2 : Int32))))))), .second, .val (.double (WF j.val 1)), .second, .unset, .unset, .unset, .unset] [(.double (WF j.val 2))])) _
        refine XS.dstore X49.here hx rfl (hb hby at_154) rfl (l' := #[.val (.int p1), .val (.int p2), .val (.int (Int32.ofNat j.val)), .val (.double (mnF j.val)), .second, .val (.int (Int32.ofNat (j.val / 4))), .val (.int (1 : Int32)), .val (.ref ob), .val (.int (0 : Int32)), .val (.double (FP.ddiv (FP.ddiv (FP.dmul (WF j.val 0) (mnF j.val)) (FP.i2d ((0 : Int32) + (1 : Int32)))) (FP.dsub FP.dconst1 (FP.ddiv (mnF j.val) (FP.i2d ((0 : Int32) + (2 : Int32))))))), .second, .val (.double (WF j.val 1)), .second, .val (.double (WF j.val 2)), .second, .unset, .unset]) rfl ?_
        show Steps p.tables e below (T49.setTop (mkF m 156 #[.val (.int p1), .val (.int p2), .val (.int (Int32.ofNat j.val)), .val (.double (mnF j.val)), .second, .val (.int (Int32.ofNat (j.val / 4))), .val (.int (1 : Int32)), .val (.ref ob), .val (.int (0 : Int32)), .val (.double (FP.ddiv (FP.ddiv (FP.dmul (WF j.val 0) (mnF j.val)) (FP.i2d ((0 : Int32) + (1 : Int32)))) (FP.dsub FP.dconst1 (FP.ddiv (mnF j.val) (FP.i2d ((0 : Int32) + (2 : Int32))))))), .second, .val (.double (WF j.val 1)), .second, .val (.double (WF j.val 2)), .second, .unset, .unset] [])) _
        refine XS.dloadN X49.here hx rfl (hb hby at_156) rfl ?_
        show Steps p.tables e below (T49.setTop (mkF m 157 #[.val (.int p1), .val (.int p2), .val (.int (Int32.ofNat j.val)), .val (.double (mnF j.val)), .second, .val (.int (Int32.ofNat (j.val / 4))), .val (.int (1 : Int32)), .val (.ref ob), .val (.int (0 : Int32)), .val (.double (FP.ddiv (FP.ddiv (FP.dmul (WF j.val 0) (mnF j.val)) (FP.i2d ((0 : Int32) + (1 : Int32)))) (FP.dsub FP.dconst1 (FP.ddiv (mnF j.val) (FP.i2d ((0 : Int32) + (2 : Int32))))))), .second, .val (.double (WF j.val 1)), .second, .val (.double (WF j.val 2)), .second, .unset, .unset] [(.double (mnF j.val))])) _
        refine XS.iload X49.here hx rfl (hb hby at_157) rfl ?_
        show Steps p.tables e below (T49.setTop (mkF m 159 #[.val (.int p1), .val (.int p2), .val (.int (Int32.ofNat j.val)), .val (.double (mnF j.val)), .second, .val (.int (Int32.ofNat (j.val / 4))), .val (.int (1 : Int32)), .val (.ref ob), .val (.int (0 : Int32)), .val (.double (FP.ddiv (FP.ddiv (FP.dmul (WF j.val 0) (mnF j.val)) (FP.i2d ((0 : Int32) + (1 : Int32)))) (FP.dsub FP.dconst1 (FP.ddiv (mnF j.val) (FP.i2d ((0 : Int32) + (2 : Int32))))))), .second, .val (.double (WF j.val 1)), .second, .val (.double (WF j.val 2)), .second, .unset, .unset] [(.int (0 : Int32)), (.double (mnF j.val))])) _
        refine XS.iconst X49.here hx rfl (hb hby at_159) ?_
        show Steps p.tables e below (T49.setTop (mkF m 160 #[.val (.int p1), .val (.int p2), .val (.int (Int32.ofNat j.val)), .val (.double (mnF j.val)), .second, .val (.int (Int32.ofNat (j.val / 4))), .val (.int (1 : Int32)), .val (.ref ob), .val (.int (0 : Int32)), .val (.double (FP.ddiv (FP.ddiv (FP.dmul (WF j.val 0) (mnF j.val)) (FP.i2d ((0 : Int32) + (1 : Int32)))) (FP.dsub FP.dconst1 (FP.ddiv (mnF j.val) (FP.i2d ((0 : Int32) + (2 : Int32))))))), .second, .val (.double (WF j.val 1)), .second, .val (.double (WF j.val 2)), .second, .unset, .unset] [(.int (2 : Int32)), (.int (0 : Int32)), (.double (mnF j.val))])) _
        refine XS.iadd X49.here hx rfl (hb hby at_160) rfl ?_
        show Steps p.tables e below (T49.setTop (mkF m 161 #[.val (.int p1), .val (.int p2), .val (.int (Int32.ofNat j.val)), .val (.double (mnF j.val)), .second, .val (.int (Int32.ofNat (j.val / 4))), .val (.int (1 : Int32)), .val (.ref ob), .val (.int (0 : Int32)), .val (.double (FP.ddiv (FP.ddiv (FP.dmul (WF j.val 0) (mnF j.val)) (FP.i2d ((0 : Int32) + (1 : Int32)))) (FP.dsub FP.dconst1 (FP.ddiv (mnF j.val) (FP.i2d ((0 : Int32) + (2 : Int32))))))), .second, .val (.double (WF j.val 1)), .second, .val (.double (WF j.val 2)), .second, .unset, .unset] [(.int (2 : Int32)), (.double (mnF j.val))])) _
        refine XS.i2dS X49.here hx rfl (hb hby at_161) rfl hd161 ?_
        show Steps p.tables e below (T49.setTop (mkF m 162 #[.val (.int p1), .val (.int p2), .val (.int (Int32.ofNat j.val)), .val (.double (mnF j.val)), .second, .val (.int (Int32.ofNat (j.val / 4))), .val (.int (1 : Int32)), .val (.ref ob), .val (.int (0 : Int32)), .val (.double (FP.ddiv (FP.ddiv (FP.dmul (WF j.val 0) (mnF j.val)) (FP.i2d ((0 : Int32) + (1 : Int32)))) (FP.dsub FP.dconst1 (FP.ddiv (mnF j.val) (FP.i2d ((0 : Int32) + (2 : Int32))))))), .second, .val (.double (WF j.val 1)), .second, .val (.double (WF j.val 2)), .second, .unset, .unset] [(.double d161), (.double (mnF j.val))])) _
        refine XS.ddivS X49.here hx rfl (hb hby at_162) rfl n162 hd162 ?_
        show Steps p.tables e below (T49.setTop (mkF m 163 #[.val (.int p1), .val (.int p2), .val (.int (Int32.ofNat j.val)), .val (.double (mnF j.val)), .second, .val (.int (Int32.ofNat (j.val / 4))), .val (.int (1 : Int32)), .val (.ref ob), .val (.int (0 : Int32)), .val (.double (FP.ddiv (FP.ddiv (FP.dmul (WF j.val 0) (mnF j.val)) (FP.i2d ((0 : Int32) + (1 : Int32)))) (FP.dsub FP.dconst1 (FP.ddiv (mnF j.val) (FP.i2d ((0 : Int32) + (2 : Int32))))))), .second, .val (.double (WF j.val 1)), .second, .val (.double (WF j.val 2)), .second, .unset, .unset] [(.double d162)])) _
        refine XS.dstore X49.here hx rfl (hb hby at_163) rfl (l' := #[.val (.int p1), .val (.int p2), .val (.int (Int32.ofNat j.val)), .val (.double (mnF j.val)), .second, .val (.int (Int32.ofNat (j.val / 4))), .val (.int (1 : Int32)), .val (.ref ob), .val (.int (0 : Int32)), .val (.double (FP.ddiv (FP.ddiv (FP.dmul (WF j.val 0) (mnF j.val)) (FP.i2d ((0 : Int32) + (1 : Int32)))) (FP.dsub FP.dconst1 (FP.ddiv (mnF j.val) (FP.i2d ((0 : Int32) + (2 : Int32))))))), .second, .val (.double (WF j.val 1)), .second, .val (.double (WF j.val 2)), .second, .val (.double d162), .second]) rfl ?_
        show Steps p.tables e below (T49.setTop (mkF m 165 #[.val (.int p1), .val (.int p2), .val (.int (Int32.ofNat j.val)), .val (.double (mnF j.val)), .second, .val (.int (Int32.ofNat (j.val / 4))), .val (.int (1 : Int32)), .val (.ref ob), .val (.int (0 : Int32)), .val (.double (FP.ddiv (FP.ddiv (FP.dmul (WF j.val 0) (mnF j.val)) (FP.i2d ((0 : Int32) + (1 : Int32)))) (FP.dsub FP.dconst1 (FP.ddiv (mnF j.val) (FP.i2d ((0 : Int32) + (2 : Int32))))))), .second, .val (.double (WF j.val 1)), .second, .val (.double (WF j.val 2)), .second, .val (.double d162), .second] [])) _
        refine XS.dload X49.here hx rfl (hb hby at_165) rfl ?_
        show Steps p.tables e below (T49.setTop (mkF m 167 #[.val (.int p1), .val (.int p2), .val (.int (Int32.ofNat j.val)), .val (.double (mnF j.val)), .second, .val (.int (Int32.ofNat (j.val / 4))), .val (.int (1 : Int32)), .val (.ref ob), .val (.int (0 : Int32)), .val (.double (FP.ddiv (FP.ddiv (FP.dmul (WF j.val 0) (mnF j.val)) (FP.i2d ((0 : Int32) + (1 : Int32)))) (FP.dsub FP.dconst1 (FP.ddiv (mnF j.val) (FP.i2d ((0 : Int32) + (2 : Int32))))))), .second, .val (.double (WF j.val 1)), .second, .val (.double (WF j.val 2)), .second, .val (.double d162), .second] [(.double (FP.ddiv (FP.ddiv (FP.dmul (WF j.val 0) (mnF j.val)) (FP.i2d ((0 : Int32) + (1 : Int32)))) (FP.dsub FP.dconst1 (FP.ddiv (mnF j.val) (FP.i2d ((0 : Int32) + (2 : Int32)))))))])) _
        refine XS.dload X49.here hx rfl (hb hby at_167) rfl ?_
        show Steps p.tables e below (T49.setTop (mkF m 169 #[.val (.int p1), .val (.int p2), .val (.int (Int32.ofNat j.val)), .val (.double (mnF j.val)), .second, .val (.int (Int32.ofNat (j.val / 4))), .val (.int (1 : Int32)), .val (.ref ob), .val (.int (0 : Int32)), .val (.double (FP.ddiv (FP.ddiv (FP.dmul (WF j.val 0) (mnF j.val)) (FP.i2d ((0 : Int32) + (1 : Int32)))) (FP.dsub FP.dconst1 (FP.ddiv (mnF j.val) (FP.i2d ((0 : Int32) + (2 : Int32))))))), .second, .val (.double (WF j.val 1)), .second, .val (.double (WF j.val 2)), .second, .val (.double d162), .second] [(.double (WF j.val 1)), (.double (FP.ddiv (FP.ddiv (FP.dmul (WF j.val 0) (mnF j.val)) (FP.i2d ((0 : Int32) + (1 : Int32)))) (FP.dsub FP.dconst1 (FP.ddiv (mnF j.val) (FP.i2d ((0 : Int32) + (2 : Int32)))))))])) _
        refine XS.dconst1 X49.here hx rfl (hb hby at_169) rfl ?_
        show Steps p.tables e below (T49.setTop (mkF m 170 #[.val (.int p1), .val (.int p2), .val (.int (Int32.ofNat j.val)), .val (.double (mnF j.val)), .second, .val (.int (Int32.ofNat (j.val / 4))), .val (.int (1 : Int32)), .val (.ref ob), .val (.int (0 : Int32)), .val (.double (FP.ddiv (FP.ddiv (FP.dmul (WF j.val 0) (mnF j.val)) (FP.i2d ((0 : Int32) + (1 : Int32)))) (FP.dsub FP.dconst1 (FP.ddiv (mnF j.val) (FP.i2d ((0 : Int32) + (2 : Int32))))))), .second, .val (.double (WF j.val 1)), .second, .val (.double (WF j.val 2)), .second, .val (.double d162), .second] [(.double FP.dconst1), (.double (WF j.val 1)), (.double (FP.ddiv (FP.ddiv (FP.dmul (WF j.val 0) (mnF j.val)) (FP.i2d ((0 : Int32) + (1 : Int32)))) (FP.dsub FP.dconst1 (FP.ddiv (mnF j.val) (FP.i2d ((0 : Int32) + (2 : Int32)))))))])) _
        refine XS.dload X49.here hx rfl (hb hby at_170) rfl ?_
        show Steps p.tables e below (T49.setTop (mkF m 172 #[.val (.int p1), .val (.int p2), .val (.int (Int32.ofNat j.val)), .val (.double (mnF j.val)), .second, .val (.int (Int32.ofNat (j.val / 4))), .val (.int (1 : Int32)), .val (.ref ob), .val (.int (0 : Int32)), .val (.double (FP.ddiv (FP.ddiv (FP.dmul (WF j.val 0) (mnF j.val)) (FP.i2d ((0 : Int32) + (1 : Int32)))) (FP.dsub FP.dconst1 (FP.ddiv (mnF j.val) (FP.i2d ((0 : Int32) + (2 : Int32))))))), .second, .val (.double (WF j.val 1)), .second, .val (.double (WF j.val 2)), .second, .val (.double d162), .second] [(.double d162), (.double FP.dconst1), (.double (WF j.val 1)), (.double (FP.ddiv (FP.ddiv (FP.dmul (WF j.val 0) (mnF j.val)) (FP.i2d ((0 : Int32) + (1 : Int32)))) (FP.dsub FP.dconst1 (FP.ddiv (mnF j.val) (FP.i2d ((0 : Int32) + (2 : Int32)))))))])) _
        refine XS.dsubS X49.here hx rfl (hb hby at_172) rfl n172 hd172 ?_
        show Steps p.tables e below (T49.setTop (mkF m 173 #[.val (.int p1), .val (.int p2), .val (.int (Int32.ofNat j.val)), .val (.double (mnF j.val)), .second, .val (.int (Int32.ofNat (j.val / 4))), .val (.int (1 : Int32)), .val (.ref ob), .val (.int (0 : Int32)), .val (.double (FP.ddiv (FP.ddiv (FP.dmul (WF j.val 0) (mnF j.val)) (FP.i2d ((0 : Int32) + (1 : Int32)))) (FP.dsub FP.dconst1 (FP.ddiv (mnF j.val) (FP.i2d ((0 : Int32) + (2 : Int32))))))), .second, .val (.double (WF j.val 1)), .second, .val (.double (WF j.val 2)), .second, .val (.double d162), .second] [(.double d172), (.double (WF j.val 1)), (.double (FP.ddiv (FP.ddiv (FP.dmul (WF j.val 0) (mnF j.val)) (FP.i2d ((0 : Int32) + (1 : Int32)))) (FP.dsub FP.dconst1 (FP.ddiv (mnF j.val) (FP.i2d ((0 : Int32) + (2 : Int32)))))))])) _
        refine XS.ddivS X49.here hx rfl (hb hby at_173) rfl n173 hd173 ?_
        show Steps p.tables e below (T49.setTop (mkF m 174 #[.val (.int p1), .val (.int p2), .val (.int (Int32.ofNat j.val)), .val (.double (mnF j.val)), .second, .val (.int (Int32.ofNat (j.val / 4))), .val (.int (1 : Int32)), .val (.ref ob), .val (.int (0 : Int32)), .val (.double (FP.ddiv (FP.ddiv (FP.dmul (WF j.val 0) (mnF j.val)) (FP.i2d ((0 : Int32) + (1 : Int32)))) (FP.dsub FP.dconst1 (FP.ddiv (mnF j.val) (FP.i2d ((0 : Int32) + (2 : Int32))))))), .second, .val (.double (WF j.val 1)), .second, .val (.double (WF j.val 2)), .second, .val (.double d162), .second] [(.double d173), (.double (FP.ddiv (FP.ddiv (FP.dmul (WF j.val 0) (mnF j.val)) (FP.i2d ((0 : Int32) + (1 : Int32)))) (FP.dsub FP.dconst1 (FP.ddiv (mnF j.val) (FP.i2d ((0 : Int32) + (2 : Int32)))))))])) _
        refine XS.dcmpS X49.here hx rfl (hb hby at_174) rfl hk174 ?_
        show Steps p.tables e below (T49.setTop (mkF m 175 #[.val (.int p1), .val (.int p2), .val (.int (Int32.ofNat j.val)), .val (.double (mnF j.val)), .second, .val (.int (Int32.ofNat (j.val / 4))), .val (.int (1 : Int32)), .val (.ref ob), .val (.int (0 : Int32)), .val (.double (FP.ddiv (FP.ddiv (FP.dmul (WF j.val 0) (mnF j.val)) (FP.i2d ((0 : Int32) + (1 : Int32)))) (FP.dsub FP.dconst1 (FP.ddiv (mnF j.val) (FP.i2d ((0 : Int32) + (2 : Int32))))))), .second, .val (.double (WF j.val 1)), .second, .val (.double (WF j.val 2)), .second, .val (.double d162), .second] [(.int k174)])) _
        refine XS.ifNo X49.here hx rfl (hb hby at_175) rfl (XT.i0_ne_f e174) ?_
        show Steps p.tables e below (T49.setTop (mkF m 178 #[.val (.int p1), .val (.int p2), .val (.int (Int32.ofNat j.val)), .val (.double (mnF j.val)), .second, .val (.int (Int32.ofNat (j.val / 4))), .val (.int (1 : Int32)), .val (.ref ob), .val (.int (0 : Int32)), .val (.double (FP.ddiv (FP.ddiv (FP.dmul (WF j.val 0) (mnF j.val)) (FP.i2d ((0 : Int32) + (1 : Int32)))) (FP.dsub FP.dconst1 (FP.ddiv (mnF j.val) (FP.i2d ((0 : Int32) + (2 : Int32))))))), .second, .val (.double (WF j.val 1)), .second, .val (.double (WF j.val 2)), .second, .val (.double d162), .second] [])) _
        refine XS.dload X49.here hx rfl (hb hby at_178) rfl ?_
        show Steps p.tables e below (T49.setTop (mkF m 180 #[.val (.int p1), .val (.int p2), .val (.int (Int32.ofNat j.val)), .val (.double (mnF j.val)), .second, .val (.int (Int32.ofNat (j.val / 4))), .val (.int (1 : Int32)), .val (.ref ob), .val (.int (0 : Int32)), .val (.double (FP.ddiv (FP.ddiv (FP.dmul (WF j.val 0) (mnF j.val)) (FP.i2d ((0 : Int32) + (1 : Int32)))) (FP.dsub FP.dconst1 (FP.ddiv (mnF j.val) (FP.i2d ((0 : Int32) + (2 : Int32))))))), .second, .val (.double (WF j.val 1)), .second, .val (.double (WF j.val 2)), .second, .val (.double d162), .second] [(.double (FP.ddiv (FP.ddiv (FP.dmul (WF j.val 0) (mnF j.val)) (FP.i2d ((0 : Int32) + (1 : Int32)))) (FP.dsub FP.dconst1 (FP.ddiv (mnF j.val) (FP.i2d ((0 : Int32) + (2 : Int32)))))))])) _
        refine XS.dload X49.here hx rfl (hb hby at_180) rfl ?_
        show Steps p.tables e below (T49.setTop (mkF m 182 #[.val (.int p1), .val (.int p2), .val (.int (Int32.ofNat j.val)), .val (.double (mnF j.val)), .second, .val (.int (Int32.ofNat (j.val / 4))), .val (.int (1 : Int32)), .val (.ref ob), .val (.int (0 : Int32)), .val (.double (FP.ddiv (FP.ddiv (FP.dmul (WF j.val 0) (mnF j.val)) (FP.i2d ((0 : Int32) + (1 : Int32)))) (FP.dsub FP.dconst1 (FP.ddiv (mnF j.val) (FP.i2d ((0 : Int32) + (2 : Int32))))))), .second, .val (.double (WF j.val 1)), .second, .val (.double (WF j.val 2)), .second, .val (.double d162), .second] [(.double (WF j.val 1)), (.double (FP.ddiv (FP.ddiv (FP.dmul (WF j.val 0) (mnF j.val)) (FP.i2d ((0 : Int32) + (1 : Int32)))) (FP.dsub FP.dconst1 (FP.ddiv (mnF j.val) (FP.i2d ((0 : Int32) + (2 : Int32)))))))])) _
        refine XS.dload X49.here hx rfl (hb hby at_182) rfl ?_
        show Steps p.tables e below (T49.setTop (mkF m 184 #[.val (.int p1), .val (.int p2), .val (.int (Int32.ofNat j.val)), .val (.double (mnF j.val)), .second, .val (.int (Int32.ofNat (j.val / 4))), .val (.int (1 : Int32)), .val (.ref ob), .val (.int (0 : Int32)), .val (.double (FP.ddiv (FP.ddiv (FP.dmul (WF j.val 0) (mnF j.val)) (FP.i2d ((0 : Int32) + (1 : Int32)))) (FP.dsub FP.dconst1 (FP.ddiv (mnF j.val) (FP.i2d ((0 : Int32) + (2 : Int32))))))), .second, .val (.double (WF j.val 1)), .second, .val (.double (WF j.val 2)), .second, .val (.double d162), .second] [(.double (WF j.val 2)), (.double (WF j.val 1)), (.double (FP.ddiv (FP.ddiv (FP.dmul (WF j.val 0) (mnF j.val)) (FP.i2d ((0 : Int32) + (1 : Int32)))) (FP.dsub FP.dconst1 (FP.ddiv (mnF j.val) (FP.i2d ((0 : Int32) + (2 : Int32)))))))])) _
        refine XS.daddS X49.here hx rfl (hb hby at_184) rfl (nn_of l5) hd184 ?_
        show Steps p.tables e below (T49.setTop (mkF m 185 #[.val (.int p1), .val (.int p2), .val (.int (Int32.ofNat j.val)), .val (.double (mnF j.val)), .second, .val (.int (Int32.ofNat (j.val / 4))), .val (.int (1 : Int32)), .val (.ref ob), .val (.int (0 : Int32)), .val (.double (FP.ddiv (FP.ddiv (FP.dmul (WF j.val 0) (mnF j.val)) (FP.i2d ((0 : Int32) + (1 : Int32)))) (FP.dsub FP.dconst1 (FP.ddiv (mnF j.val) (FP.i2d ((0 : Int32) + (2 : Int32))))))), .second, .val (.double (WF j.val 1)), .second, .val (.double (WF j.val 2)), .second, .val (.double d162), .second] [(.double d184), (.double (FP.ddiv (FP.ddiv (FP.dmul (WF j.val 0) (mnF j.val)) (FP.i2d ((0 : Int32) + (1 : Int32)))) (FP.dsub FP.dconst1 (FP.ddiv (mnF j.val) (FP.i2d ((0 : Int32) + (2 : Int32)))))))])) _
        refine XS.dcmpS X49.here hx rfl (hb hby at_185) rfl hk185 ?_
        show Steps p.tables e below (T49.setTop (mkF m 186 #[.val (.int p1), .val (.int p2), .val (.int (Int32.ofNat j.val)), .val (.double (mnF j.val)), .second, .val (.int (Int32.ofNat (j.val / 4))), .val (.int (1 : Int32)), .val (.ref ob), .val (.int (0 : Int32)), .val (.double (FP.ddiv (FP.ddiv (FP.dmul (WF j.val 0) (mnF j.val)) (FP.i2d ((0 : Int32) + (1 : Int32)))) (FP.dsub FP.dconst1 (FP.ddiv (mnF j.val) (FP.i2d ((0 : Int32) + (2 : Int32))))))), .second, .val (.double (WF j.val 1)), .second, .val (.double (WF j.val 2)), .second, .val (.double d162), .second] [(.int k185)])) _
        refine XS.ifNo X49.here hx rfl (hb hby at_186) rfl (XT.i0_lt_f e185) ?_
        show Steps p.tables e below (T49.setTop (mkF m 189 #[.val (.int p1), .val (.int p2), .val (.int (Int32.ofNat j.val)), .val (.double (mnF j.val)), .second, .val (.int (Int32.ofNat (j.val / 4))), .val (.int (1 : Int32)), .val (.ref ob), .val (.int (0 : Int32)), .val (.double (FP.ddiv (FP.ddiv (FP.dmul (WF j.val 0) (mnF j.val)) (FP.i2d ((0 : Int32) + (1 : Int32)))) (FP.dsub FP.dconst1 (FP.ddiv (mnF j.val) (FP.i2d ((0 : Int32) + (2 : Int32))))))), .second, .val (.double (WF j.val 1)), .second, .val (.double (WF j.val 2)), .second, .val (.double d162), .second] [])) _
        refine XS.iconst X49.here hx rfl (hb hby at_189) ?_
        show Steps p.tables e below (T49.setTop (mkF m 190 #[.val (.int p1), .val (.int p2), .val (.int (Int32.ofNat j.val)), .val (.double (mnF j.val)), .second, .val (.int (Int32.ofNat (j.val / 4))), .val (.int (1 : Int32)), .val (.ref ob), .val (.int (0 : Int32)), .val (.double (FP.ddiv (FP.ddiv (FP.dmul (WF j.val 0) (mnF j.val)) (FP.i2d ((0 : Int32) + (1 : Int32)))) (FP.dsub FP.dconst1 (FP.ddiv (mnF j.val) (FP.i2d ((0 : Int32) + (2 : Int32))))))), .second, .val (.double (WF j.val 1)), .second, .val (.double (WF j.val 2)), .second, .val (.double d162), .second] [(.int (1 : Int32))])) _
        refine XS.goto X49.here hx rfl (pc0 := 190) (pc' := 194) rfl (hb hby at_190) (by decide) (by decide) ?_
        show Steps p.tables e below (T49.setTop (mkF m 194 #[.val (.int p1), .val (.int p2), .val (.int (Int32.ofNat j.val)), .val (.double (mnF j.val)), .second, .val (.int (Int32.ofNat (j.val / 4))), .val (.int (1 : Int32)), .val (.ref ob), .val (.int (0 : Int32)), .val (.double (FP.ddiv (FP.ddiv (FP.dmul (WF j.val 0) (mnF j.val)) (FP.i2d ((0 : Int32) + (1 : Int32)))) (FP.dsub FP.dconst1 (FP.ddiv (mnF j.val) (FP.i2d ((0 : Int32) + (2 : Int32))))))), .second, .val (.double (WF j.val 1)), .second, .val (.double (WF j.val 2)), .second, .val (.double d162), .second] [(.int (1 : Int32))])) _
        exact k)
      obtain ⟨fs, hr, hrun, hended, hW, hsame⟩ := X49.leave (v := (some (.int (1 : Int32)))) (fun h => by rw [Bd.returns] at h; cases h)
      refine ⟨_, _, pre0 _ (c53 _ (retN X49 hx (t := .boolean) Bd.returns (by simp) (hb hby at_194) hr)), hrun, hended, _, _, rfl, ?_, ⟨_, rfl⟩, hW, hsame.mono (by decide) (by decide)⟩
      show Q_0 Z p1 p2 h0 n0 _ T49.heap _
      exact ⟨rfl, M49⟩
  · rw [nk] at c3
    obtain ⟨T54, h54, X54, e54, E54, A54, D54, -, st54⟩ := newO X0 hx hZ hown (hw _ (List.mem_of_getElem? (i := 2) rfl)) (hw _ (List.mem_of_getElem? (i := 3) rfl)) (hw _ (List.mem_of_getElem? (i := 4) rfl)) e0 (g := (mkF m 26 #[.val (.int p1), .val (.int p2), .val (.int (Int32.ofNat j.val)), .val (.double (mnF j.val)), .second, .val (.int (Int32.ofNat (j.val / 4))), .val (.int (2 : Int32)), .unset, .unset, .unset, .unset, .unset, .unset, .unset, .unset, .unset, .unset] [])) rfl (hb hby at_26) (by decide) (by decide)
    obtain ⟨ob, g54⟩ : ∃ z, z = h0.size := ⟨_, rfl⟩
    rw [← g54] at A54 D54 st54
    have F55 : Fld Z h54 ob "com/example/topple/topple/markov/PoissonWeights" "count" "I" (.int (0 : Int32)) := (D54 (Or.inl (hw _ (List.mem_of_getElem? (i := 12) rfl))) (ty := .int) (by decide))
    have F56 : Fld Z h54 ob "com/example/topple/topple/markov/PoissonWeights" "mean" "D" (.double (0 : UInt64)) := (D54 (Or.inr (hw _ (List.mem_of_getElem? (i := 14) rfl))) (ty := .double) (by decide))
    have F57 : Fld Z h54 ob "com/example/topple/topple/markov/PoissonWeights" "mode" "I" (.int (0 : Int32)) := (D54 (Or.inr (hw _ (List.mem_of_getElem? (i := 16) rfl))) (ty := .int) (by decide))
    have F58 : Fld Z h54 ob "com/example/topple/topple/markov/PoissonWeights" "fewest" "I" (.int (0 : Int32)) := (D54 (Or.inr (hw _ (List.mem_of_getElem? (i := 18) rfl))) (ty := .int) (by decide))
    have F59 : Fld Z h54 ob "com/example/topple/topple/markov/PoissonWeights" "toMode" "[D" .null := (D54 (Or.inr (hw _ (List.mem_of_getElem? (i := 21) rfl))) (ty := (.array .double)) (by decide))
    have F60 : Fld Z h54 ob "com/example/topple/topple/markov/PoissonWeights" "weight" "D" (.double (0 : UInt64)) := (D54 (Or.inl (hw _ (List.mem_of_getElem? (i := 28) rfl))) (ty := .double) (by decide))
    have c61 : ∀ t, Steps p.tables e below (T54.setTop (mkF m 29 #[.val (.int p1), .val (.int p2), .val (.int (Int32.ofNat j.val)), .val (.double (mnF j.val)), .second, .val (.int (Int32.ofNat (j.val / 4))), .val (.int (2 : Int32)), .unset, .unset, .unset, .unset, .unset, .unset, .unset, .unset, .unset, .unset] [(.ref ob)])) t → Steps p.tables e below (s₁.setTop (entryFrame m #[(.int p1), (.int p2)] maxLocals)) t := fun t k => c3 t (st54 _ k)
    have c62 : ∀ t, Steps p.tables e below (T54.setTop (mkF m 31 #[.val (.int p1), .val (.int p2), .val (.int (Int32.ofNat j.val)), .val (.double (mnF j.val)), .second, .val (.int (Int32.ofNat (j.val / 4))), .val (.int (2 : Int32)), .unset, .unset, .unset, .unset, .unset, .unset, .unset, .unset, .unset, .unset] [(.double (mnF j.val)), (.ref ob), (.ref ob)])) t → Steps p.tables e below (s₁.setTop (entryFrame m #[(.int p1), (.int p2)] maxLocals)) t := fun t k => c61 t (by
      show Steps p.tables e below (T54.setTop (mkF m 29 #[.val (.int p1), .val (.int p2), .val (.int (Int32.ofNat j.val)), .val (.double (mnF j.val)), .second, .val (.int (Int32.ofNat (j.val / 4))), .val (.int (2 : Int32)), .unset, .unset, .unset, .unset, .unset, .unset, .unset, .unset, .unset, .unset] [(.ref ob)])) _
      refine XS.dup X54.here hx rfl (hb hby at_29) rfl rfl ?_
      show Steps p.tables e below (T54.setTop (mkF m 30 #[.val (.int p1), .val (.int p2), .val (.int (Int32.ofNat j.val)), .val (.double (mnF j.val)), .second, .val (.int (Int32.ofNat (j.val / 4))), .val (.int (2 : Int32)), .unset, .unset, .unset, .unset, .unset, .unset, .unset, .unset, .unset, .unset] [(.ref ob), (.ref ob)])) _
      refine XS.dloadN X54.here hx rfl (hb hby at_30) rfl ?_
      show Steps p.tables e below (T54.setTop (mkF m 31 #[.val (.int p1), .val (.int p2), .val (.int (Int32.ofNat j.val)), .val (.double (mnF j.val)), .second, .val (.int (Int32.ofNat (j.val / 4))), .val (.int (2 : Int32)), .unset, .unset, .unset, .unset, .unset, .unset, .unset, .unset, .unset, .unset] [(.double (mnF j.val)), (.ref ob), (.ref ob)])) _
      exact k)
    obtain ⟨_, _, ⟨T63, L63, k63', n63⟩, -, X63, ⟨Lc63, hQ63, l63, y63, z63⟩, st63⟩ := X54.specialBack hx (y := (⟨"com/example/topple/topple/markov/PoissonWeights", "<init>", "(D)V"⟩ : MethodName)) rfl hown (mvT hZ (hw _ (List.mem_of_getElem? (i := 5) rfl))) (mvT hZ (hw _ (List.mem_of_getElem? (i := 6) rfl))) (mvT hZ (hw _ (List.mem_of_getElem? (i := 7) rfl))) (by decide) (backOf (W := 1) (rm_ct l Z a0 hw [] ob (mnF j.val) (j.val / 4) 0 (prF j.val) (tmF j.val) h54 n0 (Nat.le_trans Z0 E54.1) A54 F55 F56 F57 F58 F59 F60 (Nat.le_trans Z0 (Nat.le_of_eq g54.symm)) (by omega) (Nat.zero_le _) (by omega) (mn_md j) rfl (fun k hk => by
          obtain ⟨x1, x2, x3⟩ := hp_c j ⟨k, by omega⟩ hk
          exact ⟨nn_of x1, rfl, nn_of x2, x3⟩) (Or.inl rfl) rfl (fun k hk => by
          obtain ⟨x1, x2⟩ := ht_c j ⟨k, by omega⟩ hk
          exact ⟨nn_of x1, nn_of x2, rfl⟩)) hZ (hw _ (List.mem_of_getElem? (i := 7) rfl)) (hw _ (List.mem_of_getElem? (i := 4) rfl)) (by decide) (by decide)) (g := (mkF m 31 #[.val (.int p1), .val (.int p2), .val (.int (Int32.ofNat j.val)), .val (.double (mnF j.val)), .second, .val (.int (Int32.ofNat (j.val / 4))), .val (.int (2 : Int32)), .unset, .unset, .unset, .unset, .unset, .unset, .unset, .unset, .unset, .unset] [(.double (mnF j.val)), (.ref ob), (.ref ob)])) rfl (by rw [hml]; rfl) (Steps.refl _) (a := ob) (argsL := [(.double (mnF j.val))]) (rest := [(.ref ob)]) (lenOf pd__D_V rfl) rfl (by show 2 * 0 + _ ≤ _; exact Nat.le_of_eq rfl) (hb hby at_31) (fun _ _ => ⟨rfl, e54, (by decide : 1 + 1 ≤ _), (by decide : 6 + 8 ≤ _)⟩)
    dsimp only [Pt.U, Pt.locs, Pt.cells, Pt.slots] at X63 l63 y63 z63 st63 hQ63
    subst l63 y63 z63
    obtain ⟨ta, rfl, N63, K63, ne63, G63_0, G63_1, G63_2, G63_3, G63_4, G63_5, G63_6, G63_7⟩ := hQ63
    have M63 := Fr.app N0 N63
    have F64 : Exa Z T63.heap ob "com/example/topple/topple/markov/PoissonWeights" := (A54.keep K63)
    have c65 : ∀ t, Steps p.tables e below (T63.setTop (mkF m 34 #[.val (.int p1), .val (.int p2), .val (.int (Int32.ofNat j.val)), .val (.double (mnF j.val)), .second, .val (.int (Int32.ofNat (j.val / 4))), .val (.int (2 : Int32)), .unset, .unset, .unset, .unset, .unset, .unset, .unset, .unset, .unset, .unset] [(.ref ob)])) t → Steps p.tables e below (s₁.setTop (entryFrame m #[(.int p1), (.int p2)] maxLocals)) t := fun t k => c62 t (st63.trans k)
    have c66 : ∀ t, Steps p.tables e below (T63.setTop (mkF m 43 #[.val (.int p1), .val (.int p2), .val (.int (Int32.ofNat j.val)), .val (.double (mnF j.val)), .second, .val (.int (Int32.ofNat (j.val / 4))), .val (.int (2 : Int32)), .val (.ref ob), .unset, .unset, .unset, .unset, .unset, .unset, .unset, .unset, .unset] [(.ref ob)])) t → Steps p.tables e below (s₁.setTop (entryFrame m #[(.int p1), (.int p2)] maxLocals)) t := fun t k => c65 t (by
      show Steps p.tables e below (T63.setTop (mkF m 34 #[.val (.int p1), .val (.int p2), .val (.int (Int32.ofNat j.val)), .val (.double (mnF j.val)), .second, .val (.int (Int32.ofNat (j.val / 4))), .val (.int (2 : Int32)), .unset, .unset, .unset, .unset, .unset, .unset, .unset, .unset, .unset, .unset] [(.ref ob)])) _
      refine XS.astore X63.here hx rfl (hb hby at_34) rfl rfl (l' := #[.val (.int p1), .val (.int p2), .val (.int (Int32.ofNat j.val)), .val (.double (mnF j.val)), .second, .val (.int (Int32.ofNat (j.val / 4))), .val (.int (2 : Int32)), .val (.ref ob), .unset, .unset, .unset, .unset, .unset, .unset, .unset, .unset, .unset]) rfl ?_
      show Steps p.tables e below (T63.setTop (mkF m 36 #[.val (.int p1), .val (.int p2), .val (.int (Int32.ofNat j.val)), .val (.double (mnF j.val)), .second, .val (.int (Int32.ofNat (j.val / 4))), .val (.int (2 : Int32)), .val (.ref ob), .unset, .unset, .unset, .unset, .unset, .unset, .unset, .unset, .unset] [])) _
      refine XS.iload X63.here hx rfl (hb hby at_36) rfl ?_
      show Steps p.tables e below (T63.setTop (mkF m 38 #[.val (.int p1), .val (.int p2), .val (.int (Int32.ofNat j.val)), .val (.double (mnF j.val)), .second, .val (.int (Int32.ofNat (j.val / 4))), .val (.int (2 : Int32)), .val (.ref ob), .unset, .unset, .unset, .unset, .unset, .unset, .unset, .unset, .unset] [(.int (2 : Int32))])) _
      refine XS.ifNo X63.here hx rfl (hb hby at_38) rfl (XT.i0_le_f (by decide)) ?_
      show Steps p.tables e below (T63.setTop (mkF m 41 #[.val (.int p1), .val (.int p2), .val (.int (Int32.ofNat j.val)), .val (.double (mnF j.val)), .second, .val (.int (Int32.ofNat (j.val / 4))), .val (.int (2 : Int32)), .val (.ref ob), .unset, .unset, .unset, .unset, .unset, .unset, .unset, .unset, .unset] [])) _
      refine XS.aload X63.here hx rfl (hb hby at_41) rfl rfl ?_
      show Steps p.tables e below (T63.setTop (mkF m 43 #[.val (.int p1), .val (.int p2), .val (.int (Int32.ofNat j.val)), .val (.double (mnF j.val)), .second, .val (.int (Int32.ofNat (j.val / 4))), .val (.int (2 : Int32)), .val (.ref ob), .unset, .unset, .unset, .unset, .unset, .unset, .unset, .unset, .unset] [(.ref ob)])) _
      exact k)
    obtain ⟨cq67, kq67, q67a, q67b, q67c⟩ := isOf hZ rfl G63_0
    obtain ⟨_, _, ⟨T67, L67, k67', n67⟩, -, X67, ⟨Lc67, hQ67, l67, y67, z67⟩, st67⟩ := X63.virtualBack hx (y := (⟨"com/example/topple/topple/markov/PoissonWeights", "next", "()D"⟩ : MethodName)) (z := (⟨"com/example/topple/topple/markov/PoissonWeights", "next", "()D"⟩ : MethodName)) hown (mvT hZ (hw _ (List.mem_of_getElem? (i := 22) rfl))) (mvT hZ (hw _ (List.mem_of_getElem? (i := 23) rfl))) (notFace_of_selects (args := #[]) (mvT hZ (hw _ (List.mem_of_getElem? (i := 25) rfl)))) (mvT hZ (hw _ (List.mem_of_getElem? (i := 25) rfl))) (mvT hZ (hw _ (List.mem_of_getElem? (i := 24) rfl))) (by decide) (backOf (W := 0) (rm_nx l Z a0 hw [] ob ta (mnF j.val) (-1 : Int32) (0 : Int32) (Int32.ofNat (j.val / 4)) (Int32.ofNat 0) (0 : UInt64) (WF j.val 0) (j.val / 4 - 0 + 1) 0 (fun i => tmF j.val (j.val / 4 - 0 - i)) T63.heap n0 (Nat.le_trans (Nat.le_trans Z0 E54.1) K63.1) G63_0 G63_1 G63_2 G63_3 G63_4 G63_5 G63_6 (Nat.le_trans Z0 (Nat.le_of_eq g54.symm)) (by decide) ne63 G63_7 (by decide) (nlo_0 j) (fun q => by
          obtain ⟨x1, x2, x3⟩ := nhi_0 j q
          exact ⟨nn_of x1, nn_of x2, x3⟩)) hZ (hw _ (List.mem_of_getElem? (i := 26) rfl)) (hw _ (List.mem_of_getElem? (i := 4) rfl)) (by decide) (by decide)) q67a q67c (g := (mkF m 43 #[.val (.int p1), .val (.int p2), .val (.int (Int32.ofNat j.val)), .val (.double (mnF j.val)), .second, .val (.int (Int32.ofNat (j.val / 4))), .val (.int (2 : Int32)), .val (.ref ob), .unset, .unset, .unset, .unset, .unset, .unset, .unset, .unset, .unset] [(.ref ob)])) rfl (by rw [hml]; rfl) (Steps.refl _) (argsL := []) (rest := []) (lenOf pd___D rfl) rfl (by show 2 * 0 + _ ≤ _; exact Nat.le_of_eq rfl) (hb hby at_43) (fun _ _ => ⟨rfl, rfl, (by decide : 2 + 0 ≤ _), (by decide : 14 + 0 ≤ _)⟩)
    dsimp only [Pt.U, Pt.locs, Pt.cells, Pt.slots] at X67 l67 y67 z67 st67 hQ67
    subst l67 y67 z67
    obtain ⟨rfl, N67, K67, G67_0, G67_1, G67_2, G67_3, G67_4, G67_5, G67_6⟩ := hQ67
    have M67 := Fr.app M63 N67
    have F68 : Exa Z T67.heap ob "com/example/topple/topple/markov/PoissonWeights" := (G63_0.keep K67)
    have F69 : OwnArr.Ag Z T67.heap ta .double (j.val / 4 - 0 + 1) (fun i => .double (tmF j.val (j.val / 4 - 0 - i))) := (G63_7.keep K67 (ninS ne63 nin0))
    have c70 : ∀ t, Steps p.tables e below (T67.setTop (mkF m 46 #[.val (.int p1), .val (.int p2), .val (.int (Int32.ofNat j.val)), .val (.double (mnF j.val)), .second, .val (.int (Int32.ofNat (j.val / 4))), .val (.int (2 : Int32)), .val (.ref ob), .unset, .unset, .unset, .unset, .unset, .unset, .unset, .unset, .unset] [(.double (WF j.val 0))])) t → Steps p.tables e below (s₁.setTop (entryFrame m #[(.int p1), (.int p2)] maxLocals)) t := fun t k => c66 t (st67.trans k)
    have c71 : ∀ t, Steps p.tables e below (T67.setTop (mkF m 55 #[.val (.int p1), .val (.int p2), .val (.int (Int32.ofNat j.val)), .val (.double (mnF j.val)), .second, .val (.int (Int32.ofNat (j.val / 4))), .val (.int (2 : Int32)), .val (.ref ob), .unset, .unset, .unset, .unset, .unset, .unset, .unset, .unset, .unset] [(.ref ob)])) t → Steps p.tables e below (s₁.setTop (entryFrame m #[(.int p1), (.int p2)] maxLocals)) t := fun t k => c70 t (by
      show Steps p.tables e below (T67.setTop (mkF m 46 #[.val (.int p1), .val (.int p2), .val (.int (Int32.ofNat j.val)), .val (.double (mnF j.val)), .second, .val (.int (Int32.ofNat (j.val / 4))), .val (.int (2 : Int32)), .val (.ref ob), .unset, .unset, .unset, .unset, .unset, .unset, .unset, .unset, .unset] [(.double (WF j.val 0))])) _
      refine Jvm.OwnP2.pop2D X67.here hx rfl (hb hby at_46) rfl ?_
      show Steps p.tables e below (T67.setTop (mkF m 47 #[.val (.int p1), .val (.int p2), .val (.int (Int32.ofNat j.val)), .val (.double (mnF j.val)), .second, .val (.int (Int32.ofNat (j.val / 4))), .val (.int (2 : Int32)), .val (.ref ob), .unset, .unset, .unset, .unset, .unset, .unset, .unset, .unset, .unset] [])) _
      refine XS.iload X67.here hx rfl (hb hby at_47) rfl ?_
      show Steps p.tables e below (T67.setTop (mkF m 49 #[.val (.int p1), .val (.int p2), .val (.int (Int32.ofNat j.val)), .val (.double (mnF j.val)), .second, .val (.int (Int32.ofNat (j.val / 4))), .val (.int (2 : Int32)), .val (.ref ob), .unset, .unset, .unset, .unset, .unset, .unset, .unset, .unset, .unset] [(.int (2 : Int32))])) _
      refine XS.iconst X67.here hx rfl (hb hby at_49) ?_
      show Steps p.tables e below (T67.setTop (mkF m 50 #[.val (.int p1), .val (.int p2), .val (.int (Int32.ofNat j.val)), .val (.double (mnF j.val)), .second, .val (.int (Int32.ofNat (j.val / 4))), .val (.int (2 : Int32)), .val (.ref ob), .unset, .unset, .unset, .unset, .unset, .unset, .unset, .unset, .unset] [(.int (1 : Int32)), (.int (2 : Int32))])) _
      refine XS.icmpNo X67.here hx rfl (hb hby at_50) rfl (XT.ii_le_f (by decide)) ?_
      show Steps p.tables e below (T67.setTop (mkF m 53 #[.val (.int p1), .val (.int p2), .val (.int (Int32.ofNat j.val)), .val (.double (mnF j.val)), .second, .val (.int (Int32.ofNat (j.val / 4))), .val (.int (2 : Int32)), .val (.ref ob), .unset, .unset, .unset, .unset, .unset, .unset, .unset, .unset, .unset] [])) _
      refine XS.aload X67.here hx rfl (hb hby at_53) rfl rfl ?_
      show Steps p.tables e below (T67.setTop (mkF m 55 #[.val (.int p1), .val (.int p2), .val (.int (Int32.ofNat j.val)), .val (.double (mnF j.val)), .second, .val (.int (Int32.ofNat (j.val / 4))), .val (.int (2 : Int32)), .val (.ref ob), .unset, .unset, .unset, .unset, .unset, .unset, .unset, .unset, .unset] [(.ref ob)])) _
      exact k)
    obtain ⟨cq72, kq72, q72a, q72b, q72c⟩ := isOf hZ rfl G67_0
    obtain ⟨_, _, ⟨T72, L72, k72', n72⟩, -, X72, ⟨Lc72, hQ72, l72, y72, z72⟩, st72⟩ := X67.virtualBack hx (y := (⟨"com/example/topple/topple/markov/PoissonWeights", "next", "()D"⟩ : MethodName)) (z := (⟨"com/example/topple/topple/markov/PoissonWeights", "next", "()D"⟩ : MethodName)) hown (mvT hZ (hw _ (List.mem_of_getElem? (i := 22) rfl))) (mvT hZ (hw _ (List.mem_of_getElem? (i := 23) rfl))) (notFace_of_selects (args := #[]) (mvT hZ (hw _ (List.mem_of_getElem? (i := 25) rfl)))) (mvT hZ (hw _ (List.mem_of_getElem? (i := 25) rfl))) (mvT hZ (hw _ (List.mem_of_getElem? (i := 24) rfl))) (by decide) (backOf (W := 0) (rm_nx l Z a0 hw [] ob ta (mnF j.val) (0 : Int32) (1 : Int32) (Int32.ofNat (j.val / 4)) (Int32.ofNat 0) (WF j.val 0) (WF j.val 1) (j.val / 4 - 0 + 1) 1 (fun i => tmF j.val (j.val / 4 - 0 - i)) T67.heap n0 (Nat.le_trans (Nat.le_trans (Nat.le_trans Z0 E54.1) K63.1) K67.1) G67_0 G67_1 G67_2 G67_3 G67_4 G67_5 G67_6 (Nat.le_trans Z0 (Nat.le_of_eq g54.symm)) (by decide) ne63 F69 (by decide) (nlo_1 j) (fun q => by
          obtain ⟨x1, x2, x3⟩ := nhi_1 j q
          exact ⟨nn_of x1, nn_of x2, x3⟩)) hZ (hw _ (List.mem_of_getElem? (i := 26) rfl)) (hw _ (List.mem_of_getElem? (i := 4) rfl)) (by decide) (by decide)) q72a q72c (g := (mkF m 55 #[.val (.int p1), .val (.int p2), .val (.int (Int32.ofNat j.val)), .val (.double (mnF j.val)), .second, .val (.int (Int32.ofNat (j.val / 4))), .val (.int (2 : Int32)), .val (.ref ob), .unset, .unset, .unset, .unset, .unset, .unset, .unset, .unset, .unset] [(.ref ob)])) rfl (by rw [hml]; rfl) (Steps.refl _) (argsL := []) (rest := []) (lenOf pd___D rfl) rfl (by show 2 * 0 + _ ≤ _; exact Nat.le_of_eq rfl) (hb hby at_55) (fun _ _ => ⟨rfl, rfl, (by decide : 2 + 0 ≤ _), (by decide : 14 + 0 ≤ _)⟩)
    dsimp only [Pt.U, Pt.locs, Pt.cells, Pt.slots] at X72 l72 y72 z72 st72 hQ72
    subst l72 y72 z72
    obtain ⟨rfl, N72, K72, G72_0, G72_1, G72_2, G72_3, G72_4, G72_5, G72_6⟩ := hQ72
    have M72 := Fr.app M67 N72
    have F73 : Exa Z T72.heap ob "com/example/topple/topple/markov/PoissonWeights" := (G67_0.keep K72)
    have F74 : OwnArr.Ag Z T72.heap ta .double (j.val / 4 - 0 + 1) (fun i => .double (tmF j.val (j.val / 4 - 0 - i))) := (F69.keep K72 (ninS ne63 nin0))
    have c75 : ∀ t, Steps p.tables e below (T72.setTop (mkF m 58 #[.val (.int p1), .val (.int p2), .val (.int (Int32.ofNat j.val)), .val (.double (mnF j.val)), .second, .val (.int (Int32.ofNat (j.val / 4))), .val (.int (2 : Int32)), .val (.ref ob), .unset, .unset, .unset, .unset, .unset, .unset, .unset, .unset, .unset] [(.double (WF j.val 1))])) t → Steps p.tables e below (s₁.setTop (entryFrame m #[(.int p1), (.int p2)] maxLocals)) t := fun t k => c71 t (st72.trans k)
    have c76 : ∀ t, Steps p.tables e below (T72.setTop (mkF m 115 #[.val (.int p1), .val (.int p2), .val (.int (Int32.ofNat j.val)), .val (.double (mnF j.val)), .second, .val (.int (Int32.ofNat (j.val / 4))), .val (.int (2 : Int32)), .val (.ref ob), .val (.int (1 : Int32)), .unset, .unset, .unset, .unset, .unset, .unset, .unset, .unset] [(.ref ob)])) t → Steps p.tables e below (s₁.setTop (entryFrame m #[(.int p1), (.int p2)] maxLocals)) t := fun t k => c75 t (by
      show Steps p.tables e below (T72.setTop (mkF m 58 #[.val (.int p1), .val (.int p2), .val (.int (Int32.ofNat j.val)), .val (.double (mnF j.val)), .second, .val (.int (Int32.ofNat (j.val / 4))), .val (.int (2 : Int32)), .val (.ref ob), .unset, .unset, .unset, .unset, .unset, .unset, .unset, .unset, .unset] [(.double (WF j.val 1))])) _
      refine Jvm.OwnP2.pop2D X72.here hx rfl (hb hby at_58) rfl ?_
      show Steps p.tables e below (T72.setTop (mkF m 59 #[.val (.int p1), .val (.int p2), .val (.int (Int32.ofNat j.val)), .val (.double (mnF j.val)), .second, .val (.int (Int32.ofNat (j.val / 4))), .val (.int (2 : Int32)), .val (.ref ob), .unset, .unset, .unset, .unset, .unset, .unset, .unset, .unset, .unset] [])) _
      refine XS.iload X72.here hx rfl (hb hby at_59) rfl ?_
      show Steps p.tables e below (T72.setTop (mkF m 61 #[.val (.int p1), .val (.int p2), .val (.int (Int32.ofNat j.val)), .val (.double (mnF j.val)), .second, .val (.int (Int32.ofNat (j.val / 4))), .val (.int (2 : Int32)), .val (.ref ob), .unset, .unset, .unset, .unset, .unset, .unset, .unset, .unset, .unset] [(.int (2 : Int32))])) _
      refine XS.iconst X72.here hx rfl (hb hby at_61) ?_
      show Steps p.tables e below (T72.setTop (mkF m 62 #[.val (.int p1), .val (.int p2), .val (.int (Int32.ofNat j.val)), .val (.double (mnF j.val)), .second, .val (.int (Int32.ofNat (j.val / 4))), .val (.int (2 : Int32)), .val (.ref ob), .unset, .unset, .unset, .unset, .unset, .unset, .unset, .unset, .unset] [(.int (2 : Int32)), (.int (2 : Int32))])) _
      refine XS.icmpYes X72.here hx rfl (pc0 := 62) (pc' := 71) rfl (hb hby at_62) rfl (XT.ii_le_t (by decide)) (by decide) (by decide) ?_
      show Steps p.tables e below (T72.setTop (mkF m 71 #[.val (.int p1), .val (.int p2), .val (.int (Int32.ofNat j.val)), .val (.double (mnF j.val)), .second, .val (.int (Int32.ofNat (j.val / 4))), .val (.int (2 : Int32)), .val (.ref ob), .unset, .unset, .unset, .unset, .unset, .unset, .unset, .unset, .unset] [])) _
      refine XS.iload X72.here hx rfl (hb hby at_71) rfl ?_
      show Steps p.tables e below (T72.setTop (mkF m 73 #[.val (.int p1), .val (.int p2), .val (.int (Int32.ofNat j.val)), .val (.double (mnF j.val)), .second, .val (.int (Int32.ofNat (j.val / 4))), .val (.int (2 : Int32)), .val (.ref ob), .unset, .unset, .unset, .unset, .unset, .unset, .unset, .unset, .unset] [(.int (2 : Int32))])) _
      refine XS.iconst X72.here hx rfl (hb hby at_73) ?_
      show Steps p.tables e below (T72.setTop (mkF m 74 #[.val (.int p1), .val (.int p2), .val (.int (Int32.ofNat j.val)), .val (.double (mnF j.val)), .second, .val (.int (Int32.ofNat (j.val / 4))), .val (.int (2 : Int32)), .val (.ref ob), .unset, .unset, .unset, .unset, .unset, .unset, .unset, .unset, .unset] [(.int (3 : Int32)), (.int (2 : Int32))])) _
      refine XS.icmpYes X72.here hx rfl (pc0 := 74) (pc' := 83) rfl (hb hby at_74) rfl (XT.ii_le_t (by decide)) (by decide) (by decide) ?_
      show Steps p.tables e below (T72.setTop (mkF m 83 #[.val (.int p1), .val (.int p2), .val (.int (Int32.ofNat j.val)), .val (.double (mnF j.val)), .second, .val (.int (Int32.ofNat (j.val / 4))), .val (.int (2 : Int32)), .val (.ref ob), .unset, .unset, .unset, .unset, .unset, .unset, .unset, .unset, .unset] [])) _
      refine XS.iload X72.here hx rfl (hb hby at_83) rfl ?_
      show Steps p.tables e below (T72.setTop (mkF m 85 #[.val (.int p1), .val (.int p2), .val (.int (Int32.ofNat j.val)), .val (.double (mnF j.val)), .second, .val (.int (Int32.ofNat (j.val / 4))), .val (.int (2 : Int32)), .val (.ref ob), .unset, .unset, .unset, .unset, .unset, .unset, .unset, .unset, .unset] [(.int (2 : Int32))])) _
      refine XS.iconst X72.here hx rfl (hb hby at_85) ?_
      show Steps p.tables e below (T72.setTop (mkF m 86 #[.val (.int p1), .val (.int p2), .val (.int (Int32.ofNat j.val)), .val (.double (mnF j.val)), .second, .val (.int (Int32.ofNat (j.val / 4))), .val (.int (2 : Int32)), .val (.ref ob), .unset, .unset, .unset, .unset, .unset, .unset, .unset, .unset, .unset] [(.int (4 : Int32)), (.int (2 : Int32))])) _
      refine XS.icmpYes X72.here hx rfl (pc0 := 86) (pc' := 95) rfl (hb hby at_86) rfl (XT.ii_le_t (by decide)) (by decide) (by decide) ?_
      show Steps p.tables e below (T72.setTop (mkF m 95 #[.val (.int p1), .val (.int p2), .val (.int (Int32.ofNat j.val)), .val (.double (mnF j.val)), .second, .val (.int (Int32.ofNat (j.val / 4))), .val (.int (2 : Int32)), .val (.ref ob), .unset, .unset, .unset, .unset, .unset, .unset, .unset, .unset, .unset] [])) _
      refine XS.iload X72.here hx rfl (hb hby at_95) rfl ?_
      show Steps p.tables e below (T72.setTop (mkF m 97 #[.val (.int p1), .val (.int p2), .val (.int (Int32.ofNat j.val)), .val (.double (mnF j.val)), .second, .val (.int (Int32.ofNat (j.val / 4))), .val (.int (2 : Int32)), .val (.ref ob), .unset, .unset, .unset, .unset, .unset, .unset, .unset, .unset, .unset] [(.int (2 : Int32))])) _
      refine XS.iconst X72.here hx rfl (hb hby at_97) ?_
      show Steps p.tables e below (T72.setTop (mkF m 98 #[.val (.int p1), .val (.int p2), .val (.int (Int32.ofNat j.val)), .val (.double (mnF j.val)), .second, .val (.int (Int32.ofNat (j.val / 4))), .val (.int (2 : Int32)), .val (.ref ob), .unset, .unset, .unset, .unset, .unset, .unset, .unset, .unset, .unset] [(.int (5 : Int32)), (.int (2 : Int32))])) _
      refine XS.icmpYes X72.here hx rfl (pc0 := 98) (pc' := 107) rfl (hb hby at_98) rfl (XT.ii_le_t (by decide)) (by decide) (by decide) ?_
      show Steps p.tables e below (T72.setTop (mkF m 107 #[.val (.int p1), .val (.int p2), .val (.int (Int32.ofNat j.val)), .val (.double (mnF j.val)), .second, .val (.int (Int32.ofNat (j.val / 4))), .val (.int (2 : Int32)), .val (.ref ob), .unset, .unset, .unset, .unset, .unset, .unset, .unset, .unset, .unset] [])) _
      refine XS.iload X72.here hx rfl (hb hby at_107) rfl ?_
      show Steps p.tables e below (T72.setTop (mkF m 109 #[.val (.int p1), .val (.int p2), .val (.int (Int32.ofNat j.val)), .val (.double (mnF j.val)), .second, .val (.int (Int32.ofNat (j.val / 4))), .val (.int (2 : Int32)), .val (.ref ob), .unset, .unset, .unset, .unset, .unset, .unset, .unset, .unset, .unset] [(.int (2 : Int32))])) _
      refine XS.iconst X72.here hx rfl (hb hby at_109) ?_
      show Steps p.tables e below (T72.setTop (mkF m 110 #[.val (.int p1), .val (.int p2), .val (.int (Int32.ofNat j.val)), .val (.double (mnF j.val)), .second, .val (.int (Int32.ofNat (j.val / 4))), .val (.int (2 : Int32)), .val (.ref ob), .unset, .unset, .unset, .unset, .unset, .unset, .unset, .unset, .unset] [(.int (1 : Int32)), (.int (2 : Int32))])) _
      refine XS.isub X72.here hx rfl (hb hby at_110) rfl ?_
      show Steps p.tables e below (T72.setTop (mkF m 111 #[.val (.int p1), .val (.int p2), .val (.int (Int32.ofNat j.val)), .val (.double (mnF j.val)), .second, .val (.int (Int32.ofNat (j.val / 4))), .val (.int (2 : Int32)), .val (.ref ob), .unset, .unset, .unset, .unset, .unset, .unset, .unset, .unset, .unset] [(.int (1 : Int32))])) _
      refine XS.istore X72.here hx rfl (hb hby at_111) rfl (l' := #[.val (.int p1), .val (.int p2), .val (.int (Int32.ofNat j.val)), .val (.double (mnF j.val)), .second, .val (.int (Int32.ofNat (j.val / 4))), .val (.int (2 : Int32)), .val (.ref ob), .val (.int (1 : Int32)), .unset, .unset, .unset, .unset, .unset, .unset, .unset, .unset]) rfl ?_
      show Steps p.tables e below (T72.setTop (mkF m 113 #[.val (.int p1), .val (.int p2), .val (.int (Int32.ofNat j.val)), .val (.double (mnF j.val)), .second, .val (.int (Int32.ofNat (j.val / 4))), .val (.int (2 : Int32)), .val (.ref ob), .val (.int (1 : Int32)), .unset, .unset, .unset, .unset, .unset, .unset, .unset, .unset] [])) _
      refine XS.aload X72.here hx rfl (hb hby at_113) rfl rfl ?_
      show Steps p.tables e below (T72.setTop (mkF m 115 #[.val (.int p1), .val (.int p2), .val (.int (Int32.ofNat j.val)), .val (.double (mnF j.val)), .second, .val (.int (Int32.ofNat (j.val / 4))), .val (.int (2 : Int32)), .val (.ref ob), .val (.int (1 : Int32)), .unset, .unset, .unset, .unset, .unset, .unset, .unset, .unset] [(.ref ob)])) _
      exact k)
    by_cases qt : (1 : Int32) < (Int32.ofNat (j.val / 4))
    · skip
      obtain ⟨cq77, kq77, q77a, q77b, q77c⟩ := isOf hZ rfl G72_0
      obtain ⟨_, _, ⟨T77, L77, k77', n77⟩, -, X77, ⟨Lc77, hQ77, l77, y77, z77⟩, st77⟩ := X72.virtualBack hx (y := (⟨"com/example/topple/topple/markov/PoissonWeights", "tail", "()D"⟩ : MethodName)) (z := (⟨"com/example/topple/topple/markov/PoissonWeights", "tail", "()D"⟩ : MethodName)) hown (mvT hZ (hw _ (List.mem_of_getElem? (i := 29) rfl))) (mvT hZ (hw _ (List.mem_of_getElem? (i := 30) rfl))) (notFace_of_selects (args := #[]) (mvT hZ (hw _ (List.mem_of_getElem? (i := 32) rfl)))) (mvT hZ (hw _ (List.mem_of_getElem? (i := 32) rfl))) (mvT hZ (hw _ (List.mem_of_getElem? (i := 31) rfl))) (by decide) (backOf (W := 0) (rm_t0 l Z a0 hw [] ob (1 : Int32) (Int32.ofNat (j.val / 4)) T72.heap n0 (Nat.le_trans (Nat.le_trans (Nat.le_trans (Nat.le_trans Z0 E54.1) K63.1) K67.1) K72.1) G72_1 G72_3 qt) hZ (hw _ (List.mem_of_getElem? (i := 33) rfl)) (hw _ (List.mem_of_getElem? (i := 4) rfl)) (by decide) (by decide)) q77a q77c (g := (mkF m 115 #[.val (.int p1), .val (.int p2), .val (.int (Int32.ofNat j.val)), .val (.double (mnF j.val)), .second, .val (.int (Int32.ofNat (j.val / 4))), .val (.int (2 : Int32)), .val (.ref ob), .val (.int (1 : Int32)), .unset, .unset, .unset, .unset, .unset, .unset, .unset, .unset] [(.ref ob)])) rfl (by rw [hml]; rfl) (Steps.refl _) (argsL := []) (rest := []) (lenOf pd___D rfl) rfl (by show 2 * 0 + _ ≤ _; exact Nat.le_of_eq rfl) (hb hby at_115) (fun _ _ => ⟨rfl, rfl, (by decide : 2 + 0 ≤ _), (by decide : 14 + 0 ≤ _)⟩)
      dsimp only [Pt.U, Pt.locs, Pt.cells, Pt.slots] at X77 l77 y77 z77 st77 hQ77
      subst l77 y77 z77
      obtain ⟨rfl, N77, e77⟩ := hQ77
      have M77 := Fr.app M72 N77
      have c78 : ∀ t, Steps p.tables e below (T77.setTop (mkF m 118 #[.val (.int p1), .val (.int p2), .val (.int (Int32.ofNat j.val)), .val (.double (mnF j.val)), .second, .val (.int (Int32.ofNat (j.val / 4))), .val (.int (2 : Int32)), .val (.ref ob), .val (.int (1 : Int32)), .unset, .unset, .unset, .unset, .unset, .unset, .unset, .unset] [(.double (9218868437227405312 : UInt64))])) t → Steps p.tables e below (s₁.setTop (entryFrame m #[(.int p1), (.int p2)] maxLocals)) t := fun t k => c76 t (st77.trans k)
      obtain ⟨k132, hk132⟩ : ∃ v : Int32, cmpValue (FP.dcmp (9218868437227405312 : UInt64) (9218868437227405312 : UInt64)) .l = v := ⟨_, rfl⟩
      have e132 : k132 = 0 := hk132.symm.trans inf_c
      have c79 : ∀ t, Steps p.tables e below (T77.setTop (mkF m 141 #[.val (.int p1), .val (.int p2), .val (.int (Int32.ofNat j.val)), .val (.double (mnF j.val)), .second, .val (.int (Int32.ofNat (j.val / 4))), .val (.int (2 : Int32)), .val (.ref ob), .val (.int (1 : Int32)), .val (.double (9218868437227405312 : UInt64)), .second, .unset, .unset, .unset, .unset, .unset, .unset] [(.int (1 : Int32))])) t → Steps p.tables e below (s₁.setTop (entryFrame m #[(.int p1), (.int p2)] maxLocals)) t := fun t k => c78 t (by
        show Steps p.tables e below (T77.setTop (mkF m 118 #[.val (.int p1), .val (.int p2), .val (.int (Int32.ofNat j.val)), .val (.double (mnF j.val)), .second, .val (.int (Int32.ofNat (j.val / 4))), .val (.int (2 : Int32)), .val (.ref ob), .val (.int (1 : Int32)), .unset, .unset, .unset, .unset, .unset, .unset, .unset, .unset] [(.double (9218868437227405312 : UInt64))])) _
        refine XS.dstore X77.here hx rfl (hb hby at_118) rfl (l' := #[.val (.int p1), .val (.int p2), .val (.int (Int32.ofNat j.val)), .val (.double (mnF j.val)), .second, .val (.int (Int32.ofNat (j.val / 4))), .val (.int (2 : Int32)), .val (.ref ob), .val (.int (1 : Int32)), .val (.double (9218868437227405312 : UInt64)), .second, .unset, .unset, .unset, .unset, .unset, .unset]) rfl ?_
        show Steps p.tables e below (T77.setTop (mkF m 120 #[.val (.int p1), .val (.int p2), .val (.int (Int32.ofNat j.val)), .val (.double (mnF j.val)), .second, .val (.int (Int32.ofNat (j.val / 4))), .val (.int (2 : Int32)), .val (.ref ob), .val (.int (1 : Int32)), .val (.double (9218868437227405312 : UInt64)), .second, .unset, .unset, .unset, .unset, .unset, .unset] [])) _
        refine XS.iload X77.here hx rfl (hb hby at_120) rfl ?_
        show Steps p.tables e below (T77.setTop (mkF m 122 #[.val (.int p1), .val (.int p2), .val (.int (Int32.ofNat j.val)), .val (.double (mnF j.val)), .second, .val (.int (Int32.ofNat (j.val / 4))), .val (.int (2 : Int32)), .val (.ref ob), .val (.int (1 : Int32)), .val (.double (9218868437227405312 : UInt64)), .second, .unset, .unset, .unset, .unset, .unset, .unset] [(.int (1 : Int32))])) _
        refine XS.iload X77.here hx rfl (hb hby at_122) rfl ?_
        show Steps p.tables e below (T77.setTop (mkF m 124 #[.val (.int p1), .val (.int p2), .val (.int (Int32.ofNat j.val)), .val (.double (mnF j.val)), .second, .val (.int (Int32.ofNat (j.val / 4))), .val (.int (2 : Int32)), .val (.ref ob), .val (.int (1 : Int32)), .val (.double (9218868437227405312 : UInt64)), .second, .unset, .unset, .unset, .unset, .unset, .unset] [(.int (Int32.ofNat (j.val / 4))), (.int (1 : Int32))])) _
        refine XS.icmpNo X77.here hx rfl (hb hby at_124) rfl (XT.ii_ge_f qt) ?_
        show Steps p.tables e below (T77.setTop (mkF m 127 #[.val (.int p1), .val (.int p2), .val (.int (Int32.ofNat j.val)), .val (.double (mnF j.val)), .second, .val (.int (Int32.ofNat (j.val / 4))), .val (.int (2 : Int32)), .val (.ref ob), .val (.int (1 : Int32)), .val (.double (9218868437227405312 : UInt64)), .second, .unset, .unset, .unset, .unset, .unset, .unset] [])) _
        refine XS.dload X77.here hx rfl (hb hby at_127) rfl ?_
        show Steps p.tables e below (T77.setTop (mkF m 129 #[.val (.int p1), .val (.int p2), .val (.int (Int32.ofNat j.val)), .val (.double (mnF j.val)), .second, .val (.int (Int32.ofNat (j.val / 4))), .val (.int (2 : Int32)), .val (.ref ob), .val (.int (1 : Int32)), .val (.double (9218868437227405312 : UInt64)), .second, .unset, .unset, .unset, .unset, .unset, .unset] [(.double (9218868437227405312 : UInt64))])) _
        refine Jvm.Stand.ldc2DoubleC X77 hx hown (mvT hZ (hw _ (List.mem_of_getElem? (i := 36) rfl))) (g := (mkF m 129 #[.val (.int p1), .val (.int p2), .val (.int (Int32.ofNat j.val)), .val (.double (mnF j.val)), .second, .val (.int (Int32.ofNat (j.val / 4))), .val (.int (2 : Int32)), .val (.ref ob), .val (.int (1 : Int32)), .val (.double (9218868437227405312 : UInt64)), .second, .unset, .unset, .unset, .unset, .unset, .unset] [(.double (9218868437227405312 : UInt64))])) rfl (hb hby at_129) _ ?_
        show Steps p.tables e below (T77.setTop (mkF m 132 #[.val (.int p1), .val (.int p2), .val (.int (Int32.ofNat j.val)), .val (.double (mnF j.val)), .second, .val (.int (Int32.ofNat (j.val / 4))), .val (.int (2 : Int32)), .val (.ref ob), .val (.int (1 : Int32)), .val (.double (9218868437227405312 : UInt64)), .second, .unset, .unset, .unset, .unset, .unset, .unset] [(.double (9218868437227405312 : UInt64)), (.double (9218868437227405312 : UInt64))])) _
        refine XS.dcmpS X77.here hx rfl (hb hby at_132) rfl hk132 ?_
        show Steps p.tables e below (T77.setTop (mkF m 133 #[.val (.int p1), .val (.int p2), .val (.int (Int32.ofNat j.val)), .val (.double (mnF j.val)), .second, .val (.int (Int32.ofNat (j.val / 4))), .val (.int (2 : Int32)), .val (.ref ob), .val (.int (1 : Int32)), .val (.double (9218868437227405312 : UInt64)), .second, .unset, .unset, .unset, .unset, .unset, .unset] [(.int k132)])) _
        refine XS.ifNo X77.here hx rfl (hb hby at_133) rfl (XT.i0_ne_f e132) ?_
        show Steps p.tables e below (T77.setTop (mkF m 136 #[.val (.int p1), .val (.int p2), .val (.int (Int32.ofNat j.val)), .val (.double (mnF j.val)), .second, .val (.int (Int32.ofNat (j.val / 4))), .val (.int (2 : Int32)), .val (.ref ob), .val (.int (1 : Int32)), .val (.double (9218868437227405312 : UInt64)), .second, .unset, .unset, .unset, .unset, .unset, .unset] [])) _
        refine XS.iconst X77.here hx rfl (hb hby at_136) ?_
        show Steps p.tables e below (T77.setTop (mkF m 137 #[.val (.int p1), .val (.int p2), .val (.int (Int32.ofNat j.val)), .val (.double (mnF j.val)), .second, .val (.int (Int32.ofNat (j.val / 4))), .val (.int (2 : Int32)), .val (.ref ob), .val (.int (1 : Int32)), .val (.double (9218868437227405312 : UInt64)), .second, .unset, .unset, .unset, .unset, .unset, .unset] [(.int (1 : Int32))])) _
        refine XS.goto X77.here hx rfl (pc0 := 137) (pc' := 141) rfl (hb hby at_137) (by decide) (by decide) ?_
        show Steps p.tables e below (T77.setTop (mkF m 141 #[.val (.int p1), .val (.int p2), .val (.int (Int32.ofNat j.val)), .val (.double (mnF j.val)), .second, .val (.int (Int32.ofNat (j.val / 4))), .val (.int (2 : Int32)), .val (.ref ob), .val (.int (1 : Int32)), .val (.double (9218868437227405312 : UInt64)), .second, .unset, .unset, .unset, .unset, .unset, .unset] [(.int (1 : Int32))])) _
        exact k)
      obtain ⟨fs, hr, hrun, hended, hW, hsame⟩ := X77.leave (v := (some (.int (1 : Int32)))) (fun h => by rw [Bd.returns] at h; cases h)
      refine ⟨_, _, pre0 _ (c79 _ (retN X77 hx (t := .boolean) Bd.returns (by simp) (hb hby at_141) hr)), hrun, hended, _, _, rfl, ?_, ⟨_, rfl⟩, hW, hsame.mono (by decide) (by decide)⟩
      show Q_0 Z p1 p2 h0 n0 _ T77.heap _
      rw [e77]
      exact ⟨rfl, M77⟩
    · skip
      obtain ⟨z1, z2, z3, z4, z5⟩ := tl_2 j qt
      obtain ⟨l1, l2, l3, l4, l5, l6⟩ := lw_2 j qt
      obtain ⟨cq80, kq80, q80a, q80b, q80c⟩ := isOf hZ rfl G72_0
      obtain ⟨_, _, ⟨T80, L80, k80', n80⟩, -, X80, ⟨Lc80, hQ80, l80, y80, z80⟩, st80⟩ := X72.virtualBack hx (y := (⟨"com/example/topple/topple/markov/PoissonWeights", "tail", "()D"⟩ : MethodName)) (z := (⟨"com/example/topple/topple/markov/PoissonWeights", "tail", "()D"⟩ : MethodName)) hown (mvT hZ (hw _ (List.mem_of_getElem? (i := 29) rfl))) (mvT hZ (hw _ (List.mem_of_getElem? (i := 30) rfl))) (notFace_of_selects (args := #[]) (mvT hZ (hw _ (List.mem_of_getElem? (i := 32) rfl)))) (mvT hZ (hw _ (List.mem_of_getElem? (i := 32) rfl))) (mvT hZ (hw _ (List.mem_of_getElem? (i := 31) rfl))) (by decide) (backOf (W := 0) (rm_t1 l Z a0 hw [] ob (1 : Int32) (Int32.ofNat (j.val / 4)) (mnF j.val) (WF j.val 1) T72.heap n0 (Nat.le_trans (Nat.le_trans (Nat.le_trans (Nat.le_trans Z0 E54.1) K63.1) K67.1) K72.1) G72_1 G72_2 G72_3 G72_6 qt (nn_of z1) (nn_of z2) (nn_of z3) (nn_of z4) (nn_of z5)) hZ (hw _ (List.mem_of_getElem? (i := 33) rfl)) (hw _ (List.mem_of_getElem? (i := 4) rfl)) (by decide) (by decide)) q80a q80c (g := (mkF m 115 #[.val (.int p1), .val (.int p2), .val (.int (Int32.ofNat j.val)), .val (.double (mnF j.val)), .second, .val (.int (Int32.ofNat (j.val / 4))), .val (.int (2 : Int32)), .val (.ref ob), .val (.int (1 : Int32)), .unset, .unset, .unset, .unset, .unset, .unset, .unset, .unset] [(.ref ob)])) rfl (by rw [hml]; rfl) (Steps.refl _) (argsL := []) (rest := []) (lenOf pd___D rfl) rfl (by show 2 * 0 + _ ≤ _; exact Nat.le_of_eq rfl) (hb hby at_115) (fun _ _ => ⟨rfl, rfl, (by decide : 2 + 0 ≤ _), (by decide : 14 + 0 ≤ _)⟩)
      dsimp only [Pt.U, Pt.locs, Pt.cells, Pt.slots] at X80 l80 y80 z80 st80 hQ80
      subst l80 y80 z80
      obtain ⟨rfl, N80, e80⟩ := hQ80
      have M80 := Fr.app M72 N80
      have c81 : ∀ t, Steps p.tables e below (T80.setTop (mkF m 118 #[.val (.int p1), .val (.int p2), .val (.int (Int32.ofNat j.val)), .val (.double (mnF j.val)), .second, .val (.int (Int32.ofNat (j.val / 4))), .val (.int (2 : Int32)), .val (.ref ob), .val (.int (1 : Int32)), .unset, .unset, .unset, .unset, .unset, .unset, .unset, .unset] [(.double (FP.ddiv (FP.ddiv (FP.dmul (WF j.val 1) (mnF j.val)) (FP.i2d ((1 : Int32) + (1 : Int32)))) (FP.dsub FP.dconst1 (FP.ddiv (mnF j.val) (FP.i2d ((1 : Int32) + (2 : Int32)))))))])) t → Steps p.tables e below (s₁.setTop (entryFrame m #[(.int p1), (.int p2)] maxLocals)) t := fun t k => c76 t (st80.trans k)
      have c82 : ∀ t, Steps p.tables e below (T80.setTop (mkF m 144 #[.val (.int p1), .val (.int p2), .val (.int (Int32.ofNat j.val)), .val (.double (mnF j.val)), .second, .val (.int (Int32.ofNat (j.val / 4))), .val (.int (2 : Int32)), .val (.ref ob), .val (.int (1 : Int32)), .val (.double (FP.ddiv (FP.ddiv (FP.dmul (WF j.val 1) (mnF j.val)) (FP.i2d ((1 : Int32) + (1 : Int32)))) (FP.dsub FP.dconst1 (FP.ddiv (mnF j.val) (FP.i2d ((1 : Int32) + (2 : Int32))))))), .second, .unset, .unset, .unset, .unset, .unset, .unset] [(.ref ob)])) t → Steps p.tables e below (s₁.setTop (entryFrame m #[(.int p1), (.int p2)] maxLocals)) t := fun t k => c81 t (by
        show Steps p.tables e below (T80.setTop (mkF m 118 #[.val (.int p1), .val (.int p2), .val (.int (Int32.ofNat j.val)), .val (.double (mnF j.val)), .second, .val (.int (Int32.ofNat (j.val / 4))), .val (.int (2 : Int32)), .val (.ref ob), .val (.int (1 : Int32)), .unset, .unset, .unset, .unset, .unset, .unset, .unset, .unset] [(.double (FP.ddiv (FP.ddiv (FP.dmul (WF j.val 1) (mnF j.val)) (FP.i2d ((1 : Int32) + (1 : Int32)))) (FP.dsub FP.dconst1 (FP.ddiv (mnF j.val) (FP.i2d ((1 : Int32) + (2 : Int32)))))))])) _
        refine XS.dstore X80.here hx rfl (hb hby at_118) rfl (l' := #[.val (.int p1), .val (.int p2), .val (.int (Int32.ofNat j.val)), .val (.double (mnF j.val)), .second, .val (.int (Int32.ofNat (j.val / 4))), .val (.int (2 : Int32)), .val (.ref ob), .val (.int (1 : Int32)), .val (.double (FP.ddiv (FP.ddiv (FP.dmul (WF j.val 1) (mnF j.val)) (FP.i2d ((1 : Int32) + (1 : Int32)))) (FP.dsub FP.dconst1 (FP.ddiv (mnF j.val) (FP.i2d ((1 : Int32) + (2 : Int32))))))), .second, .unset, .unset, .unset, .unset, .unset, .unset]) rfl ?_
        show Steps p.tables e below (T80.setTop (mkF m 120 #[.val (.int p1), .val (.int p2), .val (.int (Int32.ofNat j.val)), .val (.double (mnF j.val)), .second, .val (.int (Int32.ofNat (j.val / 4))), .val (.int (2 : Int32)), .val (.ref ob), .val (.int (1 : Int32)), .val (.double (FP.ddiv (FP.ddiv (FP.dmul (WF j.val 1) (mnF j.val)) (FP.i2d ((1 : Int32) + (1 : Int32)))) (FP.dsub FP.dconst1 (FP.ddiv (mnF j.val) (FP.i2d ((1 : Int32) + (2 : Int32))))))), .second, .unset, .unset, .unset, .unset, .unset, .unset] [])) _
        refine XS.iload X80.here hx rfl (hb hby at_120) rfl ?_
        show Steps p.tables e below (T80.setTop (mkF m 122 #[.val (.int p1), .val (.int p2), .val (.int (Int32.ofNat j.val)), .val (.double (mnF j.val)), .second, .val (.int (Int32.ofNat (j.val / 4))), .val (.int (2 : Int32)), .val (.ref ob), .val (.int (1 : Int32)), .val (.double (FP.ddiv (FP.ddiv (FP.dmul (WF j.val 1) (mnF j.val)) (FP.i2d ((1 : Int32) + (1 : Int32)))) (FP.dsub FP.dconst1 (FP.ddiv (mnF j.val) (FP.i2d ((1 : Int32) + (2 : Int32))))))), .second, .unset, .unset, .unset, .unset, .unset, .unset] [(.int (1 : Int32))])) _
        refine XS.iload X80.here hx rfl (hb hby at_122) rfl ?_
        show Steps p.tables e below (T80.setTop (mkF m 124 #[.val (.int p1), .val (.int p2), .val (.int (Int32.ofNat j.val)), .val (.double (mnF j.val)), .second, .val (.int (Int32.ofNat (j.val / 4))), .val (.int (2 : Int32)), .val (.ref ob), .val (.int (1 : Int32)), .val (.double (FP.ddiv (FP.ddiv (FP.dmul (WF j.val 1) (mnF j.val)) (FP.i2d ((1 : Int32) + (1 : Int32)))) (FP.dsub FP.dconst1 (FP.ddiv (mnF j.val) (FP.i2d ((1 : Int32) + (2 : Int32))))))), .second, .unset, .unset, .unset, .unset, .unset, .unset] [(.int (Int32.ofNat (j.val / 4))), (.int (1 : Int32))])) _
        refine XS.icmpYes X80.here hx rfl (pc0 := 124) (pc' := 142) rfl (hb hby at_124) rfl (XT.ii_ge_t qt) (by decide) (by decide) ?_
        show Steps p.tables e below (T80.setTop (mkF m 142 #[.val (.int p1), .val (.int p2), .val (.int (Int32.ofNat j.val)), .val (.double (mnF j.val)), .second, .val (.int (Int32.ofNat (j.val / 4))), .val (.int (2 : Int32)), .val (.ref ob), .val (.int (1 : Int32)), .val (.double (FP.ddiv (FP.ddiv (FP.dmul (WF j.val 1) (mnF j.val)) (FP.i2d ((1 : Int32) + (1 : Int32)))) (FP.dsub FP.dconst1 (FP.ddiv (mnF j.val) (FP.i2d ((1 : Int32) + (2 : Int32))))))), .second, .unset, .unset, .unset, .unset, .unset, .unset] [])) _
        refine XS.aload X80.here hx rfl (hb hby at_142) rfl rfl ?_
        show Steps p.tables e below (T80.setTop (mkF m 144 #[.val (.int p1), .val (.int p2), .val (.int (Int32.ofNat j.val)), .val (.double (mnF j.val)), .second, .val (.int (Int32.ofNat (j.val / 4))), .val (.int (2 : Int32)), .val (.ref ob), .val (.int (1 : Int32)), .val (.double (FP.ddiv (FP.ddiv (FP.dmul (WF j.val 1) (mnF j.val)) (FP.i2d ((1 : Int32) + (1 : Int32)))) (FP.dsub FP.dconst1 (FP.ddiv (mnF j.val) (FP.i2d ((1 : Int32) + (2 : Int32))))))), .second, .unset, .unset, .unset, .unset, .unset, .unset] [(.ref ob)])) _
        exact k)
      obtain ⟨cq83, kq83, q83a, q83b, q83c⟩ := isOf hZ e80 G72_0
      obtain ⟨_, _, ⟨T83, L83, k83', n83⟩, -, X83, ⟨Lc83, hQ83, l83, y83, z83⟩, st83⟩ := X80.virtualBack hx (y := (⟨"com/example/topple/topple/markov/PoissonWeights", "next", "()D"⟩ : MethodName)) (z := (⟨"com/example/topple/topple/markov/PoissonWeights", "next", "()D"⟩ : MethodName)) hown (mvT hZ (hw _ (List.mem_of_getElem? (i := 22) rfl))) (mvT hZ (hw _ (List.mem_of_getElem? (i := 23) rfl))) (notFace_of_selects (args := #[]) (mvT hZ (hw _ (List.mem_of_getElem? (i := 25) rfl)))) (mvT hZ (hw _ (List.mem_of_getElem? (i := 25) rfl))) (mvT hZ (hw _ (List.mem_of_getElem? (i := 24) rfl))) (by decide) (backOf (W := 0) (rm_nx l Z a0 hw [] ob ta (mnF j.val) (1 : Int32) (2 : Int32) (Int32.ofNat (j.val / 4)) (Int32.ofNat 0) (WF j.val 1) (WF j.val 2) (j.val / 4 - 0 + 1) 2 (fun i => tmF j.val (j.val / 4 - 0 - i)) T72.heap n0 (Nat.le_trans (Nat.le_trans (Nat.le_trans (Nat.le_trans Z0 E54.1) K63.1) K67.1) K72.1) G72_0 G72_1 G72_2 G72_3 G72_4 G72_5 G72_6 (Nat.le_trans Z0 (Nat.le_of_eq g54.symm)) (by decide) ne63 F74 (by decide) (nlo_2 j) (fun q => by
            obtain ⟨x1, x2, x3⟩ := nhi_2 j q
            exact ⟨nn_of x1, nn_of x2, x3⟩)) hZ (hw _ (List.mem_of_getElem? (i := 26) rfl)) (hw _ (List.mem_of_getElem? (i := 4) rfl)) (by decide) (by decide)) q83a q83c (g := (mkF m 144 #[.val (.int p1), .val (.int p2), .val (.int (Int32.ofNat j.val)), .val (.double (mnF j.val)), .second, .val (.int (Int32.ofNat (j.val / 4))), .val (.int (2 : Int32)), .val (.ref ob), .val (.int (1 : Int32)), .val (.double (FP.ddiv (FP.ddiv (FP.dmul (WF j.val 1) (mnF j.val)) (FP.i2d ((1 : Int32) + (1 : Int32)))) (FP.dsub FP.dconst1 (FP.ddiv (mnF j.val) (FP.i2d ((1 : Int32) + (2 : Int32))))))), .second, .unset, .unset, .unset, .unset, .unset, .unset] [(.ref ob)])) rfl (by rw [hml]; rfl) (Steps.refl _) (argsL := []) (rest := []) (lenOf pd___D rfl) rfl (by show 2 * 0 + _ ≤ _; exact Nat.le_of_eq rfl) (hb hby at_144) (fun _ _ => ⟨rfl, e80, (by decide : 2 + 0 ≤ _), (by decide : 14 + 0 ≤ _)⟩)
      dsimp only [Pt.U, Pt.locs, Pt.cells, Pt.slots] at X83 l83 y83 z83 st83 hQ83
      subst l83 y83 z83
      obtain ⟨rfl, N83, K83, G83_0, G83_1, G83_2, G83_3, G83_4, G83_5, G83_6⟩ := hQ83
      have M83 := Fr.app M80 N83
      have F84 : Exa Z T83.heap ob "com/example/topple/topple/markov/PoissonWeights" := (G72_0.keep K83)
      have F85 : OwnArr.Ag Z T83.heap ta .double (j.val / 4 - 0 + 1) (fun i => .double (tmF j.val (j.val / 4 - 0 - i))) := (F74.keep K83 (ninS ne63 nin0))
      have c86 : ∀ t, Steps p.tables e below (T83.setTop (mkF m 147 #[.val (.int p1), .val (.int p2), .val (.int (Int32.ofNat j.val)), .val (.double (mnF j.val)), .second, .val (.int (Int32.ofNat (j.val / 4))), .val (.int (2 : Int32)), .val (.ref ob), .val (.int (1 : Int32)), .val (.double (FP.ddiv (FP.ddiv (FP.dmul (WF j.val 1) (mnF j.val)) (FP.i2d ((1 : Int32) + (1 : Int32)))) (FP.dsub FP.dconst1 (FP.ddiv (mnF j.val) (FP.i2d ((1 : Int32) + (2 : Int32))))))), .second, .unset, .unset, .unset, .unset, .unset, .unset] [(.double (WF j.val 2))])) t → Steps p.tables e below (s₁.setTop (entryFrame m #[(.int p1), (.int p2)] maxLocals)) t := fun t k => c82 t (st83.trans k)
      have c87 : ∀ t, Steps p.tables e below (T83.setTop (mkF m 151 #[.val (.int p1), .val (.int p2), .val (.int (Int32.ofNat j.val)), .val (.double (mnF j.val)), .second, .val (.int (Int32.ofNat (j.val / 4))), .val (.int (2 : Int32)), .val (.ref ob), .val (.int (1 : Int32)), .val (.double (FP.ddiv (FP.ddiv (FP.dmul (WF j.val 1) (mnF j.val)) (FP.i2d ((1 : Int32) + (1 : Int32)))) (FP.dsub FP.dconst1 (FP.ddiv (mnF j.val) (FP.i2d ((1 : Int32) + (2 : Int32))))))), .second, .val (.double (WF j.val 2)), .second, .unset, .unset, .unset, .unset] [(.ref ob)])) t → Steps p.tables e below (s₁.setTop (entryFrame m #[(.int p1), (.int p2)] maxLocals)) t := fun t k => c86 t (by
        show Steps p.tables e below (T83.setTop (mkF m 147 #[.val (.int p1), .val (.int p2), .val (.int (Int32.ofNat j.val)), .val (.double (mnF j.val)), .second, .val (.int (Int32.ofNat (j.val / 4))), .val (.int (2 : Int32)), .val (.ref ob), .val (.int (1 : Int32)), .val (.double (FP.ddiv (FP.ddiv (FP.dmul (WF j.val 1) (mnF j.val)) (FP.i2d ((1 : Int32) + (1 : Int32)))) (FP.dsub FP.dconst1 (FP.ddiv (mnF j.val) (FP.i2d ((1 : Int32) + (2 : Int32))))))), .second, .unset, .unset, .unset, .unset, .unset, .unset] [(.double (WF j.val 2))])) _
        refine XS.dstore X83.here hx rfl (hb hby at_147) rfl (l' := #[.val (.int p1), .val (.int p2), .val (.int (Int32.ofNat j.val)), .val (.double (mnF j.val)), .second, .val (.int (Int32.ofNat (j.val / 4))), .val (.int (2 : Int32)), .val (.ref ob), .val (.int (1 : Int32)), .val (.double (FP.ddiv (FP.ddiv (FP.dmul (WF j.val 1) (mnF j.val)) (FP.i2d ((1 : Int32) + (1 : Int32)))) (FP.dsub FP.dconst1 (FP.ddiv (mnF j.val) (FP.i2d ((1 : Int32) + (2 : Int32))))))), .second, .val (.double (WF j.val 2)), .second, .unset, .unset, .unset, .unset]) rfl ?_
        show Steps p.tables e below (T83.setTop (mkF m 149 #[.val (.int p1), .val (.int p2), .val (.int (Int32.ofNat j.val)), .val (.double (mnF j.val)), .second, .val (.int (Int32.ofNat (j.val / 4))), .val (.int (2 : Int32)), .val (.ref ob), .val (.int (1 : Int32)), .val (.double (FP.ddiv (FP.ddiv (FP.dmul (WF j.val 1) (mnF j.val)) (FP.i2d ((1 : Int32) + (1 : Int32)))) (FP.dsub FP.dconst1 (FP.ddiv (mnF j.val) (FP.i2d ((1 : Int32) + (2 : Int32))))))), .second, .val (.double (WF j.val 2)), .second, .unset, .unset, .unset, .unset] [])) _
        refine XS.aload X83.here hx rfl (hb hby at_149) rfl rfl ?_
        show Steps p.tables e below (T83.setTop (mkF m 151 #[.val (.int p1), .val (.int p2), .val (.int (Int32.ofNat j.val)), .val (.double (mnF j.val)), .second, .val (.int (Int32.ofNat (j.val / 4))), .val (.int (2 : Int32)), .val (.ref ob), .val (.int (1 : Int32)), .val (.double (FP.ddiv (FP.ddiv (FP.dmul (WF j.val 1) (mnF j.val)) (FP.i2d ((1 : Int32) + (1 : Int32)))) (FP.dsub FP.dconst1 (FP.ddiv (mnF j.val) (FP.i2d ((1 : Int32) + (2 : Int32))))))), .second, .val (.double (WF j.val 2)), .second, .unset, .unset, .unset, .unset] [(.ref ob)])) _
        exact k)
      obtain ⟨cq88, kq88, q88a, q88b, q88c⟩ := isOf hZ rfl G83_0
      obtain ⟨_, _, ⟨T88, L88, k88', n88⟩, -, X88, ⟨Lc88, hQ88, l88, y88, z88⟩, st88⟩ := X83.virtualBack hx (y := (⟨"com/example/topple/topple/markov/PoissonWeights", "next", "()D"⟩ : MethodName)) (z := (⟨"com/example/topple/topple/markov/PoissonWeights", "next", "()D"⟩ : MethodName)) hown (mvT hZ (hw _ (List.mem_of_getElem? (i := 22) rfl))) (mvT hZ (hw _ (List.mem_of_getElem? (i := 23) rfl))) (notFace_of_selects (args := #[]) (mvT hZ (hw _ (List.mem_of_getElem? (i := 25) rfl)))) (mvT hZ (hw _ (List.mem_of_getElem? (i := 25) rfl))) (mvT hZ (hw _ (List.mem_of_getElem? (i := 24) rfl))) (by decide) (backOf (W := 0) (rm_nx l Z a0 hw [] ob ta (mnF j.val) (2 : Int32) (3 : Int32) (Int32.ofNat (j.val / 4)) (Int32.ofNat 0) (WF j.val 2) (WF j.val 3) (j.val / 4 - 0 + 1) 3 (fun i => tmF j.val (j.val / 4 - 0 - i)) T83.heap n0 (Nat.le_trans (Nat.le_trans (Nat.le_trans (Nat.le_trans (Nat.le_trans Z0 E54.1) K63.1) K67.1) K72.1) K83.1) G83_0 G83_1 G83_2 G83_3 G83_4 G83_5 G83_6 (Nat.le_trans Z0 (Nat.le_of_eq g54.symm)) (by decide) ne63 F85 (by decide) (nlo_3 j) (fun q => by
            obtain ⟨x1, x2, x3⟩ := nhi_3 j q
            exact ⟨nn_of x1, nn_of x2, x3⟩)) hZ (hw _ (List.mem_of_getElem? (i := 26) rfl)) (hw _ (List.mem_of_getElem? (i := 4) rfl)) (by decide) (by decide)) q88a q88c (g := (mkF m 151 #[.val (.int p1), .val (.int p2), .val (.int (Int32.ofNat j.val)), .val (.double (mnF j.val)), .second, .val (.int (Int32.ofNat (j.val / 4))), .val (.int (2 : Int32)), .val (.ref ob), .val (.int (1 : Int32)), .val (.double (FP.ddiv (FP.ddiv (FP.dmul (WF j.val 1) (mnF j.val)) (FP.i2d ((1 : Int32) + (1 : Int32)))) (FP.dsub FP.dconst1 (FP.ddiv (mnF j.val) (FP.i2d ((1 : Int32) + (2 : Int32))))))), .second, .val (.double (WF j.val 2)), .second, .unset, .unset, .unset, .unset] [(.ref ob)])) rfl (by rw [hml]; rfl) (Steps.refl _) (argsL := []) (rest := []) (lenOf pd___D rfl) rfl (by show 2 * 0 + _ ≤ _; exact Nat.le_of_eq rfl) (hb hby at_151) (fun _ _ => ⟨rfl, rfl, (by decide : 2 + 0 ≤ _), (by decide : 14 + 0 ≤ _)⟩)
      dsimp only [Pt.U, Pt.locs, Pt.cells, Pt.slots] at X88 l88 y88 z88 st88 hQ88
      subst l88 y88 z88
      obtain ⟨rfl, N88, K88, G88_0, G88_1, G88_2, G88_3, G88_4, G88_5, G88_6⟩ := hQ88
      have M88 := Fr.app M83 N88
      have F89 : Exa Z T88.heap ob "com/example/topple/topple/markov/PoissonWeights" := (G83_0.keep K88)
      have F90 : OwnArr.Ag Z T88.heap ta .double (j.val / 4 - 0 + 1) (fun i => .double (tmF j.val (j.val / 4 - 0 - i))) := (F85.keep K88 (ninS ne63 nin0))
      have c91 : ∀ t, Steps p.tables e below (T88.setTop (mkF m 154 #[.val (.int p1), .val (.int p2), .val (.int (Int32.ofNat j.val)), .val (.double (mnF j.val)), .second, .val (.int (Int32.ofNat (j.val / 4))), .val (.int (2 : Int32)), .val (.ref ob), .val (.int (1 : Int32)), .val (.double (FP.ddiv (FP.ddiv (FP.dmul (WF j.val 1) (mnF j.val)) (FP.i2d ((1 : Int32) + (1 : Int32)))) (FP.dsub FP.dconst1 (FP.ddiv (mnF j.val) (FP.i2d ((1 : Int32) + (2 : Int32))))))), .second, .val (.double (WF j.val 2)), .second, .unset, .unset, .unset, .unset] [(.double (WF j.val 3))])) t → Steps p.tables e below (s₁.setTop (entryFrame m #[(.int p1), (.int p2)] maxLocals)) t := fun t k => c87 t (st88.trans k)
      obtain ⟨d161, hd161⟩ : ∃ v : UInt64, FP.i2d (3 : Int32) = v := ⟨_, rfl⟩
      obtain ⟨d162, hd162⟩ : ∃ v : UInt64, FP.ddiv (mnF j.val) d161 = v := ⟨_, rfl⟩
      have n162 : Jvm.Free.Fl.NoNaN64 (FP.ddiv (mnF j.val) d161) := by rw [← hd161]; exact nn_of l1
      obtain ⟨d172, hd172⟩ : ∃ v : UInt64, FP.dsub FP.dconst1 d162 = v := ⟨_, rfl⟩
      have n172 : Jvm.Free.Fl.NoNaN64 (FP.dsub FP.dconst1 d162) := by rw [← hd162, ← hd161]; exact nn_of l2
      obtain ⟨d173, hd173⟩ : ∃ v : UInt64, FP.ddiv (WF j.val 2) d172 = v := ⟨_, rfl⟩
      have n173 : Jvm.Free.Fl.NoNaN64 (FP.ddiv (WF j.val 2) d172) := by rw [← hd172, ← hd162, ← hd161]; exact nn_of l3
      obtain ⟨k174, hk174⟩ : ∃ v : Int32, cmpValue (FP.dcmp (FP.ddiv (FP.ddiv (FP.dmul (WF j.val 1) (mnF j.val)) (FP.i2d ((1 : Int32) + (1 : Int32)))) (FP.dsub FP.dconst1 (FP.ddiv (mnF j.val) (FP.i2d ((1 : Int32) + (2 : Int32)))))) d173) .l = v := ⟨_, rfl⟩
      have e174 : k174 = 0 := by rw [← hk174, ← hd173, ← hd172, ← hd162, ← hd161]; exact l4
      obtain ⟨d184, hd184⟩ : ∃ v : UInt64, FP.dadd (WF j.val 2) (WF j.val 3) = v := ⟨_, rfl⟩
      obtain ⟨k185, hk185⟩ : ∃ v : Int32, cmpValue (FP.dcmp (FP.ddiv (FP.ddiv (FP.dmul (WF j.val 1) (mnF j.val)) (FP.i2d ((1 : Int32) + (1 : Int32)))) (FP.dsub FP.dconst1 (FP.ddiv (mnF j.val) (FP.i2d ((1 : Int32) + (2 : Int32)))))) d184) .l = v := ⟨_, rfl⟩
      have e185 : ¬ k185 < 0 := by rw [← hk185, ← hd184]; exact l6
      have c92 : ∀ t, Steps p.tables e below (T88.setTop (mkF m 194 #[.val (.int p1), .val (.int p2), .val (.int (Int32.ofNat j.val)), .val (.double (mnF j.val)), .second, .val (.int (Int32.ofNat (j.val / 4))), .val (.int (2 : Int32)), .val (.ref ob), .val (.int (1 : Int32)), .val (.double (FP.ddiv (FP.ddiv (FP.dmul (WF j.val 1) (mnF j.val)) (FP.i2d ((1 : Int32) + (1 : Int32)))) (FP.dsub FP.dconst1 (FP.ddiv (mnF j.val) (FP.i2d ((1 : Int32) + (2 : Int32))))))), .second, .val (.double (WF j.val 2)), .second, .val (.double (WF j.val 3)), .second, .val (.double d162), .second] [(.int (1 : Int32))])) t → Steps p.tables e below (s₁.setTop (entryFrame m #[(.int p1), (.int p2)] maxLocals)) t := fun t k => c91 t (by
        show Steps p.tables e below (T88.setTop (mkF m 154 #[.val (.int p1), .val (.int p2), .val (.int (Int32.ofNat j.val)), .val (.double (mnF j.val)), .second, .val (.int (Int32.ofNat (j.val / 4))), .val (.int (2 : Int32)), .val (.ref ob), .val (.int (1 : Int32)), .val (.double (FP.ddiv (FP.ddiv (FP.dmul (WF j.val 1) (mnF j.val)) (FP.i2d ((1 : Int32) + (1 : Int32)))) (FP.dsub FP.dconst1 (FP.ddiv (mnF j.val) (FP.i2d ((1 : Int32) + (2 : Int32))))))), .second, .val (.double (WF j.val 2)), .second, .unset, .unset, .unset, .unset] [(.double (WF j.val 3))])) _
        refine XS.dstore X88.here hx rfl (hb hby at_154) rfl (l' := #[.val (.int p1), .val (.int p2), .val (.int (Int32.ofNat j.val)), .val (.double (mnF j.val)), .second, .val (.int (Int32.ofNat (j.val / 4))), .val (.int (2 : Int32)), .val (.ref ob), .val (.int (1 : Int32)), .val (.double (FP.ddiv (FP.ddiv (FP.dmul (WF j.val 1) (mnF j.val)) (FP.i2d ((1 : Int32) + (1 : Int32)))) (FP.dsub FP.dconst1 (FP.ddiv (mnF j.val) (FP.i2d ((1 : Int32) + (2 : Int32))))))), .second, .val (.double (WF j.val 2)), .second, .val (.double (WF j.val 3)), .second, .unset, .unset]) rfl ?_
        show Steps p.tables e below (T88.setTop (mkF m 156 #[.val (.int p1), .val (.int p2), .val (.int (Int32.ofNat j.val)), .val (.double (mnF j.val)), .second, .val (.int (Int32.ofNat (j.val / 4))), .val (.int (2 : Int32)), .val (.ref ob), .val (.int (1 : Int32)), .val (.double (FP.ddiv (FP.ddiv (FP.dmul (WF j.val 1) (mnF j.val)) (FP.i2d ((1 : Int32) + (1 : Int32)))) (FP.dsub FP.dconst1 (FP.ddiv (mnF j.val) (FP.i2d ((1 : Int32) + (2 : Int32))))))), .second, .val (.double (WF j.val 2)), .second, .val (.double (WF j.val 3)), .second, .unset, .unset] [])) _
        refine XS.dloadN X88.here hx rfl (hb hby at_156) rfl ?_
        show Steps p.tables e below (T88.setTop (mkF m 157 #[.val (.int p1), .val (.int p2), .val (.int (Int32.ofNat j.val)), .val (.double (mnF j.val)), .second, .val (.int (Int32.ofNat (j.val / 4))), .val (.int (2 : Int32)), .val (.ref ob), .val (.int (1 : Int32)), .val (.double (FP.ddiv (FP.ddiv (FP.dmul (WF j.val 1) (mnF j.val)) (FP.i2d ((1 : Int32) + (1 : Int32)))) (FP.dsub FP.dconst1 (FP.ddiv (mnF j.val) (FP.i2d ((1 : Int32) + (2 : Int32))))))), .second, .val (.double (WF j.val 2)), .second, .val (.double (WF j.val 3)), .second, .unset, .unset] [(.double (mnF j.val))])) _
        refine XS.iload X88.here hx rfl (hb hby at_157) rfl ?_
        show Steps p.tables e below (T88.setTop (mkF m 159 #[.val (.int p1), .val (.int p2), .val (.int (Int32.ofNat j.val)), .val (.double (mnF j.val)), .second, .val (.int (Int32.ofNat (j.val / 4))), .val (.int (2 : Int32)), .val (.ref ob), .val (.int (1 : Int32)), .val (.double (FP.ddiv (FP.ddiv (FP.dmul (WF j.val 1) (mnF j.val)) (FP.i2d ((1 : Int32) + (1 : Int32)))) (FP.dsub FP.dconst1 (FP.ddiv (mnF j.val) (FP.i2d ((1 : Int32) + (2 : Int32))))))), .second, .val (.double (WF j.val 2)), .second, .val (.double (WF j.val 3)), .second, .unset, .unset] [(.int (1 : Int32)), (.double (mnF j.val))])) _
        refine XS.iconst X88.here hx rfl (hb hby at_159) ?_
        show Steps p.tables e below (T88.setTop (mkF m 160 #[.val (.int p1), .val (.int p2), .val (.int (Int32.ofNat j.val)), .val (.double (mnF j.val)), .second, .val (.int (Int32.ofNat (j.val / 4))), .val (.int (2 : Int32)), .val (.ref ob), .val (.int (1 : Int32)), .val (.double (FP.ddiv (FP.ddiv (FP.dmul (WF j.val 1) (mnF j.val)) (FP.i2d ((1 : Int32) + (1 : Int32)))) (FP.dsub FP.dconst1 (FP.ddiv (mnF j.val) (FP.i2d ((1 : Int32) + (2 : Int32))))))), .second, .val (.double (WF j.val 2)), .second, .val (.double (WF j.val 3)), .second, .unset, .unset] [(.int (2 : Int32)), (.int (1 : Int32)), (.double (mnF j.val))])) _
        refine XS.iadd X88.here hx rfl (hb hby at_160) rfl ?_
        show Steps p.tables e below (T88.setTop (mkF m 161 #[.val (.int p1), .val (.int p2), .val (.int (Int32.ofNat j.val)), .val (.double (mnF j.val)), .second, .val (.int (Int32.ofNat (j.val / 4))), .val (.int (2 : Int32)), .val (.ref ob), .val (.int (1 : Int32)), .val (.double (FP.ddiv (FP.ddiv (FP.dmul (WF j.val 1) (mnF j.val)) (FP.i2d ((1 : Int32) + (1 : Int32)))) (FP.dsub FP.dconst1 (FP.ddiv (mnF j.val) (FP.i2d ((1 : Int32) + (2 : Int32))))))), .second, .val (.double (WF j.val 2)), .second, .val (.double (WF j.val 3)), .second, .unset, .unset] [(.int (3 : Int32)), (.double (mnF j.val))])) _
        refine XS.i2dS X88.here hx rfl (hb hby at_161) rfl hd161 ?_
        show Steps p.tables e below (T88.setTop (mkF m 162 #[.val (.int p1), .val (.int p2), .val (.int (Int32.ofNat j.val)), .val (.double (mnF j.val)), .second, .val (.int (Int32.ofNat (j.val / 4))), .val (.int (2 : Int32)), .val (.ref ob), .val (.int (1 : Int32)), .val (.double (FP.ddiv (FP.ddiv (FP.dmul (WF j.val 1) (mnF j.val)) (FP.i2d ((1 : Int32) + (1 : Int32)))) (FP.dsub FP.dconst1 (FP.ddiv (mnF j.val) (FP.i2d ((1 : Int32) + (2 : Int32))))))), .second, .val (.double (WF j.val 2)), .second, .val (.double (WF j.val 3)), .second, .unset, .unset] [(.double d161), (.double (mnF j.val))])) _
        refine XS.ddivS X88.here hx rfl (hb hby at_162) rfl n162 hd162 ?_
        show Steps p.tables e below (T88.setTop (mkF m 163 #[.val (.int p1), .val (.int p2), .val (.int (Int32.ofNat j.val)), .val (.double (mnF j.val)), .second, .val (.int (Int32.ofNat (j.val / 4))), .val (.int (2 : Int32)), .val (.ref ob), .val (.int (1 : Int32)), .val (.double (FP.ddiv (FP.ddiv (FP.dmul (WF j.val 1) (mnF j.val)) (FP.i2d ((1 : Int32) + (1 : Int32)))) (FP.dsub FP.dconst1 (FP.ddiv (mnF j.val) (FP.i2d ((1 : Int32) + (2 : Int32))))))), .second, .val (.double (WF j.val 2)), .second, .val (.double (WF j.val 3)), .second, .unset, .unset] [(.double d162)])) _
        refine XS.dstore X88.here hx rfl (hb hby at_163) rfl (l' := #[.val (.int p1), .val (.int p2), .val (.int (Int32.ofNat j.val)), .val (.double (mnF j.val)), .second, .val (.int (Int32.ofNat (j.val / 4))), .val (.int (2 : Int32)), .val (.ref ob), .val (.int (1 : Int32)), .val (.double (FP.ddiv (FP.ddiv (FP.dmul (WF j.val 1) (mnF j.val)) (FP.i2d ((1 : Int32) + (1 : Int32)))) (FP.dsub FP.dconst1 (FP.ddiv (mnF j.val) (FP.i2d ((1 : Int32) + (2 : Int32))))))), .second, .val (.double (WF j.val 2)), .second, .val (.double (WF j.val 3)), .second, .val (.double d162), .second]) rfl ?_
        show Steps p.tables e below (T88.setTop (mkF m 165 #[.val (.int p1), .val (.int p2), .val (.int (Int32.ofNat j.val)), .val (.double (mnF j.val)), .second, .val (.int (Int32.ofNat (j.val / 4))), .val (.int (2 : Int32)), .val (.ref ob), .val (.int (1 : Int32)), .val (.double (FP.ddiv (FP.ddiv (FP.dmul (WF j.val 1) (mnF j.val)) (FP.i2d ((1 : Int32) + (1 : Int32)))) (FP.dsub FP.dconst1 (FP.ddiv (mnF j.val) (FP.i2d ((1 : Int32) + (2 : Int32))))))), .second, .val (.double (WF j.val 2)), .second, .val (.double (WF j.val 3)), .second, .val (.double d162), .second] [])) _
        refine XS.dload X88.here hx rfl (hb hby at_165) rfl ?_
        show Steps p.tables e below (T88.setTop (mkF m 167 #[.val (.int p1), .val (.int p2), .val (.int (Int32.ofNat j.val)), .val (.double (mnF j.val)), .second, .val (.int (Int32.ofNat (j.val / 4))), .val (.int (2 : Int32)), .val (.ref ob), .val (.int (1 : Int32)), .val (.double (FP.ddiv (FP.ddiv (FP.dmul (WF j.val 1) (mnF j.val)) (FP.i2d ((1 : Int32) + (1 : Int32)))) (FP.dsub FP.dconst1 (FP.ddiv (mnF j.val) (FP.i2d ((1 : Int32) + (2 : Int32))))))), .second, .val (.double (WF j.val 2)), .second, .val (.double (WF j.val 3)), .second, .val (.double d162), .second] [(.double (FP.ddiv (FP.ddiv (FP.dmul (WF j.val 1) (mnF j.val)) (FP.i2d ((1 : Int32) + (1 : Int32)))) (FP.dsub FP.dconst1 (FP.ddiv (mnF j.val) (FP.i2d ((1 : Int32) + (2 : Int32)))))))])) _
        refine XS.dload X88.here hx rfl (hb hby at_167) rfl ?_
        show Steps p.tables e below (T88.setTop (mkF m 169 #[.val (.int p1), .val (.int p2), .val (.int (Int32.ofNat j.val)), .val (.double (mnF j.val)), .second, .val (.int (Int32.ofNat (j.val / 4))), .val (.int (2 : Int32)), .val (.ref ob), .val (.int (1 : Int32)), .val (.double (FP.ddiv (FP.ddiv (FP.dmul (WF j.val 1) (mnF j.val)) (FP.i2d ((1 : Int32) + (1 : Int32)))) (FP.dsub FP.dconst1 (FP.ddiv (mnF j.val) (FP.i2d ((1 : Int32) + (2 : Int32))))))), .second, .val (.double (WF j.val 2)), .second, .val (.double (WF j.val 3)), .second, .val (.double d162), .second] [(.double (WF j.val 2)), (.double (FP.ddiv (FP.ddiv (FP.dmul (WF j.val 1) (mnF j.val)) (FP.i2d ((1 : Int32) + (1 : Int32)))) (FP.dsub FP.dconst1 (FP.ddiv (mnF j.val) (FP.i2d ((1 : Int32) + (2 : Int32)))))))])) _
        refine XS.dconst1 X88.here hx rfl (hb hby at_169) rfl ?_
        show Steps p.tables e below (T88.setTop (mkF m 170 #[.val (.int p1), .val (.int p2), .val (.int (Int32.ofNat j.val)), .val (.double (mnF j.val)), .second, .val (.int (Int32.ofNat (j.val / 4))), .val (.int (2 : Int32)), .val (.ref ob), .val (.int (1 : Int32)), .val (.double (FP.ddiv (FP.ddiv (FP.dmul (WF j.val 1) (mnF j.val)) (FP.i2d ((1 : Int32) + (1 : Int32)))) (FP.dsub FP.dconst1 (FP.ddiv (mnF j.val) (FP.i2d ((1 : Int32) + (2 : Int32))))))), .second, .val (.double (WF j.val 2)), .second, .val (.double (WF j.val 3)), .second, .val (.double d162), .second] [(.double FP.dconst1), (.double (WF j.val 2)), (.double (FP.ddiv (FP.ddiv (FP.dmul (WF j.val 1) (mnF j.val)) (FP.i2d ((1 : Int32) + (1 : Int32)))) (FP.dsub FP.dconst1 (FP.ddiv (mnF j.val) (FP.i2d ((1 : Int32) + (2 : Int32)))))))])) _
        refine XS.dload X88.here hx rfl (hb hby at_170) rfl ?_
        show Steps p.tables e below (T88.setTop (mkF m 172 #[.val (.int p1), .val (.int p2), .val (.int (Int32.ofNat j.val)), .val (.double (mnF j.val)), .second, .val (.int (Int32.ofNat (j.val / 4))), .val (.int (2 : Int32)), .val (.ref ob), .val (.int (1 : Int32)), .val (.double (FP.ddiv (FP.ddiv (FP.dmul (WF j.val 1) (mnF j.val)) (FP.i2d ((1 : Int32) + (1 : Int32)))) (FP.dsub FP.dconst1 (FP.ddiv (mnF j.val) (FP.i2d ((1 : Int32) + (2 : Int32))))))), .second, .val (.double (WF j.val 2)), .second, .val (.double (WF j.val 3)), .second, .val (.double d162), .second] [(.double d162), (.double FP.dconst1), (.double (WF j.val 2)), (.double (FP.ddiv (FP.ddiv (FP.dmul (WF j.val 1) (mnF j.val)) (FP.i2d ((1 : Int32) + (1 : Int32)))) (FP.dsub FP.dconst1 (FP.ddiv (mnF j.val) (FP.i2d ((1 : Int32) + (2 : Int32)))))))])) _
        refine XS.dsubS X88.here hx rfl (hb hby at_172) rfl n172 hd172 ?_
        show Steps p.tables e below (T88.setTop (mkF m 173 #[.val (.int p1), .val (.int p2), .val (.int (Int32.ofNat j.val)), .val (.double (mnF j.val)), .second, .val (.int (Int32.ofNat (j.val / 4))), .val (.int (2 : Int32)), .val (.ref ob), .val (.int (1 : Int32)), .val (.double (FP.ddiv (FP.ddiv (FP.dmul (WF j.val 1) (mnF j.val)) (FP.i2d ((1 : Int32) + (1 : Int32)))) (FP.dsub FP.dconst1 (FP.ddiv (mnF j.val) (FP.i2d ((1 : Int32) + (2 : Int32))))))), .second, .val (.double (WF j.val 2)), .second, .val (.double (WF j.val 3)), .second, .val (.double d162), .second] [(.double d172), (.double (WF j.val 2)), (.double (FP.ddiv (FP.ddiv (FP.dmul (WF j.val 1) (mnF j.val)) (FP.i2d ((1 : Int32) + (1 : Int32)))) (FP.dsub FP.dconst1 (FP.ddiv (mnF j.val) (FP.i2d ((1 : Int32) + (2 : Int32)))))))])) _
        refine XS.ddivS X88.here hx rfl (hb hby at_173) rfl n173 hd173 ?_
        show Steps p.tables e below (T88.setTop (mkF m 174 #[.val (.int p1), .val (.int p2), .val (.int (Int32.ofNat j.val)), .val (.double (mnF j.val)), .second, .val (.int (Int32.ofNat (j.val / 4))), .val (.int (2 : Int32)), .val (.ref ob), .val (.int (1 : Int32)), .val (.double (FP.ddiv (FP.ddiv (FP.dmul (WF j.val 1) (mnF j.val)) (FP.i2d ((1 : Int32) + (1 : Int32)))) (FP.dsub FP.dconst1 (FP.ddiv (mnF j.val) (FP.i2d ((1 : Int32) + (2 : Int32))))))), .second, .val (.double (WF j.val 2)), .second, .val (.double (WF j.val 3)), .second, .val (.double d162), .second] [(.double d173), (.double (FP.ddiv (FP.ddiv (FP.dmul (WF j.val 1) (mnF j.val)) (FP.i2d ((1 : Int32) + (1 : Int32)))) (FP.dsub FP.dconst1 (FP.ddiv (mnF j.val) (FP.i2d ((1 : Int32) + (2 : Int32)))))))])) _
        refine XS.dcmpS X88.here hx rfl (hb hby at_174) rfl hk174 ?_
        show Steps p.tables e below (T88.setTop (mkF m 175 #[.val (.int p1), .val (.int p2), .val (.int (Int32.ofNat j.val)), .val (.double (mnF j.val)), .second, .val (.int (Int32.ofNat (j.val / 4))), .val (.int (2 : Int32)), .val (.ref ob), .val (.int (1 : Int32)), .val (.double (FP.ddiv (FP.ddiv (FP.dmul (WF j.val 1) (mnF j.val)) (FP.i2d ((1 : Int32) + (1 : Int32)))) (FP.dsub FP.dconst1 (FP.ddiv (mnF j.val) (FP.i2d ((1 : Int32) + (2 : Int32))))))), .second, .val (.double (WF j.val 2)), .second, .val (.double (WF j.val 3)), .second, .val (.double d162), .second] [(.int k174)])) _
        refine XS.ifNo X88.here hx rfl (hb hby at_175) rfl (XT.i0_ne_f e174) ?_
        show Steps p.tables e below (T88.setTop (mkF m 178 #[.val (.int p1), .val (.int p2), .val (.int (Int32.ofNat j.val)), .val (.double (mnF j.val)), .second, .val (.int (Int32.ofNat (j.val / 4))), .val (.int (2 : Int32)), .val (.ref ob), .val (.int (1 : Int32)), .val (.double (FP.ddiv (FP.ddiv (FP.dmul (WF j.val 1) (mnF j.val)) (FP.i2d ((1 : Int32) + (1 : Int32)))) (FP.dsub FP.dconst1 (FP.ddiv (mnF j.val) (FP.i2d ((1 : Int32) + (2 : Int32))))))), .second, .val (.double (WF j.val 2)), .second, .val (.double (WF j.val 3)), .second, .val (.double d162), .second] [])) _
        refine XS.dload X88.here hx rfl (hb hby at_178) rfl ?_
        show Steps p.tables e below (T88.setTop (mkF m 180 #[.val (.int p1), .val (.int p2), .val (.int (Int32.ofNat j.val)), .val (.double (mnF j.val)), .second, .val (.int (Int32.ofNat (j.val / 4))), .val (.int (2 : Int32)), .val (.ref ob), .val (.int (1 : Int32)), .val (.double (FP.ddiv (FP.ddiv (FP.dmul (WF j.val 1) (mnF j.val)) (FP.i2d ((1 : Int32) + (1 : Int32)))) (FP.dsub FP.dconst1 (FP.ddiv (mnF j.val) (FP.i2d ((1 : Int32) + (2 : Int32))))))), .second, .val (.double (WF j.val 2)), .second, .val (.double (WF j.val 3)), .second, .val (.double d162), .second] [(.double (FP.ddiv (FP.ddiv (FP.dmul (WF j.val 1) (mnF j.val)) (FP.i2d ((1 : Int32) + (1 : Int32)))) (FP.dsub FP.dconst1 (FP.ddiv (mnF j.val) (FP.i2d ((1 : Int32) + (2 : Int32)))))))])) _
        refine XS.dload X88.here hx rfl (hb hby at_180) rfl ?_
        show Steps p.tables e below (T88.setTop (mkF m 182 #[.val (.int p1), .val (.int p2), .val (.int (Int32.ofNat j.val)), .val (.double (mnF j.val)), .second, .val (.int (Int32.ofNat (j.val / 4))), .val (.int (2 : Int32)), .val (.ref ob), .val (.int (1 : Int32)), .val (.double (FP.ddiv (FP.ddiv (FP.dmul (WF j.val 1) (mnF j.val)) (FP.i2d ((1 : Int32) + (1 : Int32)))) (FP.dsub FP.dconst1 (FP.ddiv (mnF j.val) (FP.i2d ((1 : Int32) + (2 : Int32))))))), .second, .val (.double (WF j.val 2)), .second, .val (.double (WF j.val 3)), .second, .val (.double d162), .second] [(.double (WF j.val 2)), (.double (FP.ddiv (FP.ddiv (FP.dmul (WF j.val 1) (mnF j.val)) (FP.i2d ((1 : Int32) + (1 : Int32)))) (FP.dsub FP.dconst1 (FP.ddiv (mnF j.val) (FP.i2d ((1 : Int32) + (2 : Int32)))))))])) _
        refine XS.dload X88.here hx rfl (hb hby at_182) rfl ?_
        show Steps p.tables e below (T88.setTop (mkF m 184 #[.val (.int p1), .val (.int p2), .val (.int (Int32.ofNat j.val)), .val (.double (mnF j.val)), .second, .val (.int (Int32.ofNat (j.val / 4))), .val (.int (2 : Int32)), .val (.ref ob), .val (.int (1 : Int32)), .val (.double (FP.ddiv (FP.ddiv (FP.dmul (WF j.val 1) (mnF j.val)) (FP.i2d ((1 : Int32) + (1 : Int32)))) (FP.dsub FP.dconst1 (FP.ddiv (mnF j.val) (FP.i2d ((1 : Int32) + (2 : Int32))))))), .second, .val (.double (WF j.val 2)), .second, .val (.double (WF j.val 3)), .second, .val (.double d162), .second] [(.double (WF j.val 3)), (.double (WF j.val 2)), (.double (FP.ddiv (FP.ddiv (FP.dmul (WF j.val 1) (mnF j.val)) (FP.i2d ((1 : Int32) + (1 : Int32)))) (FP.dsub FP.dconst1 (FP.ddiv (mnF j.val) (FP.i2d ((1 : Int32) + (2 : Int32)))))))])) _
        refine XS.daddS X88.here hx rfl (hb hby at_184) rfl (nn_of l5) hd184 ?_
        show Steps p.tables e below (T88.setTop (mkF m 185 #[.val (.int p1), .val (.int p2), .val (.int (Int32.ofNat j.val)), .val (.double (mnF j.val)), .second, .val (.int (Int32.ofNat (j.val / 4))), .val (.int (2 : Int32)), .val (.ref ob), .val (.int (1 : Int32)), .val (.double (FP.ddiv (FP.ddiv (FP.dmul (WF j.val 1) (mnF j.val)) (FP.i2d ((1 : Int32) + (1 : Int32)))) (FP.dsub FP.dconst1 (FP.ddiv (mnF j.val) (FP.i2d ((1 : Int32) + (2 : Int32))))))), .second, .val (.double (WF j.val 2)), .second, .val (.double (WF j.val 3)), .second, .val (.double d162), .second] [(.double d184), (.double (FP.ddiv (FP.ddiv (FP.dmul (WF j.val 1) (mnF j.val)) (FP.i2d ((1 : Int32) + (1 : Int32)))) (FP.dsub FP.dconst1 (FP.ddiv (mnF j.val) (FP.i2d ((1 : Int32) + (2 : Int32)))))))])) _
        refine XS.dcmpS X88.here hx rfl (hb hby at_185) rfl hk185 ?_
        show Steps p.tables e below (T88.setTop (mkF m 186 #[.val (.int p1), .val (.int p2), .val (.int (Int32.ofNat j.val)), .val (.double (mnF j.val)), .second, .val (.int (Int32.ofNat (j.val / 4))), .val (.int (2 : Int32)), .val (.ref ob), .val (.int (1 : Int32)), .val (.double (FP.ddiv (FP.ddiv (FP.dmul (WF j.val 1) (mnF j.val)) (FP.i2d ((1 : Int32) + (1 : Int32)))) (FP.dsub FP.dconst1 (FP.ddiv (mnF j.val) (FP.i2d ((1 : Int32) + (2 : Int32))))))), .second, .val (.double (WF j.val 2)), .second, .val (.double (WF j.val 3)), .second, .val (.double d162), .second] [(.int k185)])) _
        refine XS.ifNo X88.here hx rfl (hb hby at_186) rfl (XT.i0_lt_f e185) ?_
        show Steps p.tables e below (T88.setTop (mkF m 189 #[.val (.int p1), .val (.int p2), .val (.int (Int32.ofNat j.val)), .val (.double (mnF j.val)), .second, .val (.int (Int32.ofNat (j.val / 4))), .val (.int (2 : Int32)), .val (.ref ob), .val (.int (1 : Int32)), .val (.double (FP.ddiv (FP.ddiv (FP.dmul (WF j.val 1) (mnF j.val)) (FP.i2d ((1 : Int32) + (1 : Int32)))) (FP.dsub FP.dconst1 (FP.ddiv (mnF j.val) (FP.i2d ((1 : Int32) + (2 : Int32))))))), .second, .val (.double (WF j.val 2)), .second, .val (.double (WF j.val 3)), .second, .val (.double d162), .second] [])) _
        refine XS.iconst X88.here hx rfl (hb hby at_189) ?_
        show Steps p.tables e below (T88.setTop (mkF m 190 #[.val (.int p1), .val (.int p2), .val (.int (Int32.ofNat j.val)), .val (.double (mnF j.val)), .second, .val (.int (Int32.ofNat (j.val / 4))), .val (.int (2 : Int32)), .val (.ref ob), .val (.int (1 : Int32)), .val (.double (FP.ddiv (FP.ddiv (FP.dmul (WF j.val 1) (mnF j.val)) (FP.i2d ((1 : Int32) + (1 : Int32)))) (FP.dsub FP.dconst1 (FP.ddiv (mnF j.val) (FP.i2d ((1 : Int32) + (2 : Int32))))))), .second, .val (.double (WF j.val 2)), .second, .val (.double (WF j.val 3)), .second, .val (.double d162), .second] [(.int (1 : Int32))])) _
        refine XS.goto X88.here hx rfl (pc0 := 190) (pc' := 194) rfl (hb hby at_190) (by decide) (by decide) ?_
        show Steps p.tables e below (T88.setTop (mkF m 194 #[.val (.int p1), .val (.int p2), .val (.int (Int32.ofNat j.val)), .val (.double (mnF j.val)), .second, .val (.int (Int32.ofNat (j.val / 4))), .val (.int (2 : Int32)), .val (.ref ob), .val (.int (1 : Int32)), .val (.double (FP.ddiv (FP.ddiv (FP.dmul (WF j.val 1) (mnF j.val)) (FP.i2d ((1 : Int32) + (1 : Int32)))) (FP.dsub FP.dconst1 (FP.ddiv (mnF j.val) (FP.i2d ((1 : Int32) + (2 : Int32))))))), .second, .val (.double (WF j.val 2)), .second, .val (.double (WF j.val 3)), .second, .val (.double d162), .second] [(.int (1 : Int32))])) _
        exact k)
      obtain ⟨fs, hr, hrun, hended, hW, hsame⟩ := X88.leave (v := (some (.int (1 : Int32)))) (fun h => by rw [Bd.returns] at h; cases h)
      refine ⟨_, _, pre0 _ (c92 _ (retN X88 hx (t := .boolean) Bd.returns (by simp) (hb hby at_194) hr)), hrun, hended, _, _, rfl, ?_, ⟨_, rfl⟩, hW, hsame.mono (by decide) (by decide)⟩
      show Q_0 Z p1 p2 h0 n0 _ T88.heap _
      exact ⟨rfl, M88⟩
  · rw [nk] at c3
    obtain ⟨T93, h93, X93, e93, E93, A93, D93, -, st93⟩ := newO X0 hx hZ hown (hw _ (List.mem_of_getElem? (i := 2) rfl)) (hw _ (List.mem_of_getElem? (i := 3) rfl)) (hw _ (List.mem_of_getElem? (i := 4) rfl)) e0 (g := (mkF m 26 #[.val (.int p1), .val (.int p2), .val (.int (Int32.ofNat j.val)), .val (.double (mnF j.val)), .second, .val (.int (Int32.ofNat (j.val / 4))), .val (.int (3 : Int32)), .unset, .unset, .unset, .unset, .unset, .unset, .unset, .unset, .unset, .unset] [])) rfl (hb hby at_26) (by decide) (by decide)
    obtain ⟨ob, g93⟩ : ∃ z, z = h0.size := ⟨_, rfl⟩
    rw [← g93] at A93 D93 st93
    have F94 : Fld Z h93 ob "com/example/topple/topple/markov/PoissonWeights" "count" "I" (.int (0 : Int32)) := (D93 (Or.inl (hw _ (List.mem_of_getElem? (i := 12) rfl))) (ty := .int) (by decide))
    have F95 : Fld Z h93 ob "com/example/topple/topple/markov/PoissonWeights" "mean" "D" (.double (0 : UInt64)) := (D93 (Or.inr (hw _ (List.mem_of_getElem? (i := 14) rfl))) (ty := .double) (by decide))
    have F96 : Fld Z h93 ob "com/example/topple/topple/markov/PoissonWeights" "mode" "I" (.int (0 : Int32)) := (D93 (Or.inr (hw _ (List.mem_of_getElem? (i := 16) rfl))) (ty := .int) (by decide))
    have F97 : Fld Z h93 ob "com/example/topple/topple/markov/PoissonWeights" "fewest" "I" (.int (0 : Int32)) := (D93 (Or.inr (hw _ (List.mem_of_getElem? (i := 18) rfl))) (ty := .int) (by decide))
    have F98 : Fld Z h93 ob "com/example/topple/topple/markov/PoissonWeights" "toMode" "[D" .null := (D93 (Or.inr (hw _ (List.mem_of_getElem? (i := 21) rfl))) (ty := (.array .double)) (by decide))
    have F99 : Fld Z h93 ob "com/example/topple/topple/markov/PoissonWeights" "weight" "D" (.double (0 : UInt64)) := (D93 (Or.inl (hw _ (List.mem_of_getElem? (i := 28) rfl))) (ty := .double) (by decide))
    have c100 : ∀ t, Steps p.tables e below (T93.setTop (mkF m 29 #[.val (.int p1), .val (.int p2), .val (.int (Int32.ofNat j.val)), .val (.double (mnF j.val)), .second, .val (.int (Int32.ofNat (j.val / 4))), .val (.int (3 : Int32)), .unset, .unset, .unset, .unset, .unset, .unset, .unset, .unset, .unset, .unset] [(.ref ob)])) t → Steps p.tables e below (s₁.setTop (entryFrame m #[(.int p1), (.int p2)] maxLocals)) t := fun t k => c3 t (st93 _ k)
    have c101 : ∀ t, Steps p.tables e below (T93.setTop (mkF m 31 #[.val (.int p1), .val (.int p2), .val (.int (Int32.ofNat j.val)), .val (.double (mnF j.val)), .second, .val (.int (Int32.ofNat (j.val / 4))), .val (.int (3 : Int32)), .unset, .unset, .unset, .unset, .unset, .unset, .unset, .unset, .unset, .unset] [(.double (mnF j.val)), (.ref ob), (.ref ob)])) t → Steps p.tables e below (s₁.setTop (entryFrame m #[(.int p1), (.int p2)] maxLocals)) t := fun t k => c100 t (by
      show Steps p.tables e below (T93.setTop (mkF m 29 #[.val (.int p1), .val (.int p2), .val (.int (Int32.ofNat j.val)), .val (.double (mnF j.val)), .second, .val (.int (Int32.ofNat (j.val / 4))), .val (.int (3 : Int32)), .unset, .unset, .unset, .unset, .unset, .unset, .unset, .unset, .unset, .unset] [(.ref ob)])) _
      refine XS.dup X93.here hx rfl (hb hby at_29) rfl rfl ?_
      show Steps p.tables e below (T93.setTop (mkF m 30 #[.val (.int p1), .val (.int p2), .val (.int (Int32.ofNat j.val)), .val (.double (mnF j.val)), .second, .val (.int (Int32.ofNat (j.val / 4))), .val (.int (3 : Int32)), .unset, .unset, .unset, .unset, .unset, .unset, .unset, .unset, .unset, .unset] [(.ref ob), (.ref ob)])) _
      refine XS.dloadN X93.here hx rfl (hb hby at_30) rfl ?_
      show Steps p.tables e below (T93.setTop (mkF m 31 #[.val (.int p1), .val (.int p2), .val (.int (Int32.ofNat j.val)), .val (.double (mnF j.val)), .second, .val (.int (Int32.ofNat (j.val / 4))), .val (.int (3 : Int32)), .unset, .unset, .unset, .unset, .unset, .unset, .unset, .unset, .unset, .unset] [(.double (mnF j.val)), (.ref ob), (.ref ob)])) _
      exact k)
    obtain ⟨_, _, ⟨T102, L102, k102', n102⟩, -, X102, ⟨Lc102, hQ102, l102, y102, z102⟩, st102⟩ := X93.specialBack hx (y := (⟨"com/example/topple/topple/markov/PoissonWeights", "<init>", "(D)V"⟩ : MethodName)) rfl hown (mvT hZ (hw _ (List.mem_of_getElem? (i := 5) rfl))) (mvT hZ (hw _ (List.mem_of_getElem? (i := 6) rfl))) (mvT hZ (hw _ (List.mem_of_getElem? (i := 7) rfl))) (by decide) (backOf (W := 1) (rm_ct l Z a0 hw [] ob (mnF j.val) (j.val / 4) 0 (prF j.val) (tmF j.val) h93 n0 (Nat.le_trans Z0 E93.1) A93 F94 F95 F96 F97 F98 F99 (Nat.le_trans Z0 (Nat.le_of_eq g93.symm)) (by omega) (Nat.zero_le _) (by omega) (mn_md j) rfl (fun k hk => by
          obtain ⟨x1, x2, x3⟩ := hp_c j ⟨k, by omega⟩ hk
          exact ⟨nn_of x1, rfl, nn_of x2, x3⟩) (Or.inl rfl) rfl (fun k hk => by
          obtain ⟨x1, x2⟩ := ht_c j ⟨k, by omega⟩ hk
          exact ⟨nn_of x1, nn_of x2, rfl⟩)) hZ (hw _ (List.mem_of_getElem? (i := 7) rfl)) (hw _ (List.mem_of_getElem? (i := 4) rfl)) (by decide) (by decide)) (g := (mkF m 31 #[.val (.int p1), .val (.int p2), .val (.int (Int32.ofNat j.val)), .val (.double (mnF j.val)), .second, .val (.int (Int32.ofNat (j.val / 4))), .val (.int (3 : Int32)), .unset, .unset, .unset, .unset, .unset, .unset, .unset, .unset, .unset, .unset] [(.double (mnF j.val)), (.ref ob), (.ref ob)])) rfl (by rw [hml]; rfl) (Steps.refl _) (a := ob) (argsL := [(.double (mnF j.val))]) (rest := [(.ref ob)]) (lenOf pd__D_V rfl) rfl (by show 2 * 0 + _ ≤ _; exact Nat.le_of_eq rfl) (hb hby at_31) (fun _ _ => ⟨rfl, e93, (by decide : 1 + 1 ≤ _), (by decide : 6 + 8 ≤ _)⟩)
    dsimp only [Pt.U, Pt.locs, Pt.cells, Pt.slots] at X102 l102 y102 z102 st102 hQ102
    subst l102 y102 z102
    obtain ⟨ta, rfl, N102, K102, ne102, G102_0, G102_1, G102_2, G102_3, G102_4, G102_5, G102_6, G102_7⟩ := hQ102
    have M102 := Fr.app N0 N102
    have F103 : Exa Z T102.heap ob "com/example/topple/topple/markov/PoissonWeights" := (A93.keep K102)
    have c104 : ∀ t, Steps p.tables e below (T102.setTop (mkF m 34 #[.val (.int p1), .val (.int p2), .val (.int (Int32.ofNat j.val)), .val (.double (mnF j.val)), .second, .val (.int (Int32.ofNat (j.val / 4))), .val (.int (3 : Int32)), .unset, .unset, .unset, .unset, .unset, .unset, .unset, .unset, .unset, .unset] [(.ref ob)])) t → Steps p.tables e below (s₁.setTop (entryFrame m #[(.int p1), (.int p2)] maxLocals)) t := fun t k => c101 t (st102.trans k)
    have c105 : ∀ t, Steps p.tables e below (T102.setTop (mkF m 43 #[.val (.int p1), .val (.int p2), .val (.int (Int32.ofNat j.val)), .val (.double (mnF j.val)), .second, .val (.int (Int32.ofNat (j.val / 4))), .val (.int (3 : Int32)), .val (.ref ob), .unset, .unset, .unset, .unset, .unset, .unset, .unset, .unset, .unset] [(.ref ob)])) t → Steps p.tables e below (s₁.setTop (entryFrame m #[(.int p1), (.int p2)] maxLocals)) t := fun t k => c104 t (by
      show Steps p.tables e below (T102.setTop (mkF m 34 #[.val (.int p1), .val (.int p2), .val (.int (Int32.ofNat j.val)), .val (.double (mnF j.val)), .second, .val (.int (Int32.ofNat (j.val / 4))), .val (.int (3 : Int32)), .unset, .unset, .unset, .unset, .unset, .unset, .unset, .unset, .unset, .unset] [(.ref ob)])) _
      refine XS.astore X102.here hx rfl (hb hby at_34) rfl rfl (l' := #[.val (.int p1), .val (.int p2), .val (.int (Int32.ofNat j.val)), .val (.double (mnF j.val)), .second, .val (.int (Int32.ofNat (j.val / 4))), .val (.int (3 : Int32)), .val (.ref ob), .unset, .unset, .unset, .unset, .unset, .unset, .unset, .unset, .unset]) rfl ?_
      show Steps p.tables e below (T102.setTop (mkF m 36 #[.val (.int p1), .val (.int p2), .val (.int (Int32.ofNat j.val)), .val (.double (mnF j.val)), .second, .val (.int (Int32.ofNat (j.val / 4))), .val (.int (3 : Int32)), .val (.ref ob), .unset, .unset, .unset, .unset, .unset, .unset, .unset, .unset, .unset] [])) _
      refine XS.iload X102.here hx rfl (hb hby at_36) rfl ?_
      show Steps p.tables e below (T102.setTop (mkF m 38 #[.val (.int p1), .val (.int p2), .val (.int (Int32.ofNat j.val)), .val (.double (mnF j.val)), .second, .val (.int (Int32.ofNat (j.val / 4))), .val (.int (3 : Int32)), .val (.ref ob), .unset, .unset, .unset, .unset, .unset, .unset, .unset, .unset, .unset] [(.int (3 : Int32))])) _
      refine XS.ifNo X102.here hx rfl (hb hby at_38) rfl (XT.i0_le_f (by decide)) ?_
      show Steps p.tables e below (T102.setTop (mkF m 41 #[.val (.int p1), .val (.int p2), .val (.int (Int32.ofNat j.val)), .val (.double (mnF j.val)), .second, .val (.int (Int32.ofNat (j.val / 4))), .val (.int (3 : Int32)), .val (.ref ob), .unset, .unset, .unset, .unset, .unset, .unset, .unset, .unset, .unset] [])) _
      refine XS.aload X102.here hx rfl (hb hby at_41) rfl rfl ?_
      show Steps p.tables e below (T102.setTop (mkF m 43 #[.val (.int p1), .val (.int p2), .val (.int (Int32.ofNat j.val)), .val (.double (mnF j.val)), .second, .val (.int (Int32.ofNat (j.val / 4))), .val (.int (3 : Int32)), .val (.ref ob), .unset, .unset, .unset, .unset, .unset, .unset, .unset, .unset, .unset] [(.ref ob)])) _
      exact k)
    obtain ⟨cq106, kq106, q106a, q106b, q106c⟩ := isOf hZ rfl G102_0
    obtain ⟨_, _, ⟨T106, L106, k106', n106⟩, -, X106, ⟨Lc106, hQ106, l106, y106, z106⟩, st106⟩ := X102.virtualBack hx (y := (⟨"com/example/topple/topple/markov/PoissonWeights", "next", "()D"⟩ : MethodName)) (z := (⟨"com/example/topple/topple/markov/PoissonWeights", "next", "()D"⟩ : MethodName)) hown (mvT hZ (hw _ (List.mem_of_getElem? (i := 22) rfl))) (mvT hZ (hw _ (List.mem_of_getElem? (i := 23) rfl))) (notFace_of_selects (args := #[]) (mvT hZ (hw _ (List.mem_of_getElem? (i := 25) rfl)))) (mvT hZ (hw _ (List.mem_of_getElem? (i := 25) rfl))) (mvT hZ (hw _ (List.mem_of_getElem? (i := 24) rfl))) (by decide) (backOf (W := 0) (rm_nx l Z a0 hw [] ob ta (mnF j.val) (-1 : Int32) (0 : Int32) (Int32.ofNat (j.val / 4)) (Int32.ofNat 0) (0 : UInt64) (WF j.val 0) (j.val / 4 - 0 + 1) 0 (fun i => tmF j.val (j.val / 4 - 0 - i)) T102.heap n0 (Nat.le_trans (Nat.le_trans Z0 E93.1) K102.1) G102_0 G102_1 G102_2 G102_3 G102_4 G102_5 G102_6 (Nat.le_trans Z0 (Nat.le_of_eq g93.symm)) (by decide) ne102 G102_7 (by decide) (nlo_0 j) (fun q => by
          obtain ⟨x1, x2, x3⟩ := nhi_0 j q
          exact ⟨nn_of x1, nn_of x2, x3⟩)) hZ (hw _ (List.mem_of_getElem? (i := 26) rfl)) (hw _ (List.mem_of_getElem? (i := 4) rfl)) (by decide) (by decide)) q106a q106c (g := (mkF m 43 #[.val (.int p1), .val (.int p2), .val (.int (Int32.ofNat j.val)), .val (.double (mnF j.val)), .second, .val (.int (Int32.ofNat (j.val / 4))), .val (.int (3 : Int32)), .val (.ref ob), .unset, .unset, .unset, .unset, .unset, .unset, .unset, .unset, .unset] [(.ref ob)])) rfl (by rw [hml]; rfl) (Steps.refl _) (argsL := []) (rest := []) (lenOf pd___D rfl) rfl (by show 2 * 0 + _ ≤ _; exact Nat.le_of_eq rfl) (hb hby at_43) (fun _ _ => ⟨rfl, rfl, (by decide : 2 + 0 ≤ _), (by decide : 14 + 0 ≤ _)⟩)
    dsimp only [Pt.U, Pt.locs, Pt.cells, Pt.slots] at X106 l106 y106 z106 st106 hQ106
    subst l106 y106 z106
    obtain ⟨rfl, N106, K106, G106_0, G106_1, G106_2, G106_3, G106_4, G106_5, G106_6⟩ := hQ106
    have M106 := Fr.app M102 N106
    have F107 : Exa Z T106.heap ob "com/example/topple/topple/markov/PoissonWeights" := (G102_0.keep K106)
    have F108 : OwnArr.Ag Z T106.heap ta .double (j.val / 4 - 0 + 1) (fun i => .double (tmF j.val (j.val / 4 - 0 - i))) := (G102_7.keep K106 (ninS ne102 nin0))
    have c109 : ∀ t, Steps p.tables e below (T106.setTop (mkF m 46 #[.val (.int p1), .val (.int p2), .val (.int (Int32.ofNat j.val)), .val (.double (mnF j.val)), .second, .val (.int (Int32.ofNat (j.val / 4))), .val (.int (3 : Int32)), .val (.ref ob), .unset, .unset, .unset, .unset, .unset, .unset, .unset, .unset, .unset] [(.double (WF j.val 0))])) t → Steps p.tables e below (s₁.setTop (entryFrame m #[(.int p1), (.int p2)] maxLocals)) t := fun t k => c105 t (st106.trans k)
    have c110 : ∀ t, Steps p.tables e below (T106.setTop (mkF m 55 #[.val (.int p1), .val (.int p2), .val (.int (Int32.ofNat j.val)), .val (.double (mnF j.val)), .second, .val (.int (Int32.ofNat (j.val / 4))), .val (.int (3 : Int32)), .val (.ref ob), .unset, .unset, .unset, .unset, .unset, .unset, .unset, .unset, .unset] [(.ref ob)])) t → Steps p.tables e below (s₁.setTop (entryFrame m #[(.int p1), (.int p2)] maxLocals)) t := fun t k => c109 t (by
      show Steps p.tables e below (T106.setTop (mkF m 46 #[.val (.int p1), .val (.int p2), .val (.int (Int32.ofNat j.val)), .val (.double (mnF j.val)), .second, .val (.int (Int32.ofNat (j.val / 4))), .val (.int (3 : Int32)), .val (.ref ob), .unset, .unset, .unset, .unset, .unset, .unset, .unset, .unset, .unset] [(.double (WF j.val 0))])) _
      refine Jvm.OwnP2.pop2D X106.here hx rfl (hb hby at_46) rfl ?_
      show Steps p.tables e below (T106.setTop (mkF m 47 #[.val (.int p1), .val (.int p2), .val (.int (Int32.ofNat j.val)), .val (.double (mnF j.val)), .second, .val (.int (Int32.ofNat (j.val / 4))), .val (.int (3 : Int32)), .val (.ref ob), .unset, .unset, .unset, .unset, .unset, .unset, .unset, .unset, .unset] [])) _
      refine XS.iload X106.here hx rfl (hb hby at_47) rfl ?_
      show Steps p.tables e below (T106.setTop (mkF m 49 #[.val (.int p1), .val (.int p2), .val (.int (Int32.ofNat j.val)), .val (.double (mnF j.val)), .second, .val (.int (Int32.ofNat (j.val / 4))), .val (.int (3 : Int32)), .val (.ref ob), .unset, .unset, .unset, .unset, .unset, .unset, .unset, .unset, .unset] [(.int (3 : Int32))])) _
      refine XS.iconst X106.here hx rfl (hb hby at_49) ?_
      show Steps p.tables e below (T106.setTop (mkF m 50 #[.val (.int p1), .val (.int p2), .val (.int (Int32.ofNat j.val)), .val (.double (mnF j.val)), .second, .val (.int (Int32.ofNat (j.val / 4))), .val (.int (3 : Int32)), .val (.ref ob), .unset, .unset, .unset, .unset, .unset, .unset, .unset, .unset, .unset] [(.int (1 : Int32)), (.int (3 : Int32))])) _
      refine XS.icmpNo X106.here hx rfl (hb hby at_50) rfl (XT.ii_le_f (by decide)) ?_
      show Steps p.tables e below (T106.setTop (mkF m 53 #[.val (.int p1), .val (.int p2), .val (.int (Int32.ofNat j.val)), .val (.double (mnF j.val)), .second, .val (.int (Int32.ofNat (j.val / 4))), .val (.int (3 : Int32)), .val (.ref ob), .unset, .unset, .unset, .unset, .unset, .unset, .unset, .unset, .unset] [])) _
      refine XS.aload X106.here hx rfl (hb hby at_53) rfl rfl ?_
      show Steps p.tables e below (T106.setTop (mkF m 55 #[.val (.int p1), .val (.int p2), .val (.int (Int32.ofNat j.val)), .val (.double (mnF j.val)), .second, .val (.int (Int32.ofNat (j.val / 4))), .val (.int (3 : Int32)), .val (.ref ob), .unset, .unset, .unset, .unset, .unset, .unset, .unset, .unset, .unset] [(.ref ob)])) _
      exact k)
    obtain ⟨cq111, kq111, q111a, q111b, q111c⟩ := isOf hZ rfl G106_0
    obtain ⟨_, _, ⟨T111, L111, k111', n111⟩, -, X111, ⟨Lc111, hQ111, l111, y111, z111⟩, st111⟩ := X106.virtualBack hx (y := (⟨"com/example/topple/topple/markov/PoissonWeights", "next", "()D"⟩ : MethodName)) (z := (⟨"com/example/topple/topple/markov/PoissonWeights", "next", "()D"⟩ : MethodName)) hown (mvT hZ (hw _ (List.mem_of_getElem? (i := 22) rfl))) (mvT hZ (hw _ (List.mem_of_getElem? (i := 23) rfl))) (notFace_of_selects (args := #[]) (mvT hZ (hw _ (List.mem_of_getElem? (i := 25) rfl)))) (mvT hZ (hw _ (List.mem_of_getElem? (i := 25) rfl))) (mvT hZ (hw _ (List.mem_of_getElem? (i := 24) rfl))) (by decide) (backOf (W := 0) (rm_nx l Z a0 hw [] ob ta (mnF j.val) (0 : Int32) (1 : Int32) (Int32.ofNat (j.val / 4)) (Int32.ofNat 0) (WF j.val 0) (WF j.val 1) (j.val / 4 - 0 + 1) 1 (fun i => tmF j.val (j.val / 4 - 0 - i)) T106.heap n0 (Nat.le_trans (Nat.le_trans (Nat.le_trans Z0 E93.1) K102.1) K106.1) G106_0 G106_1 G106_2 G106_3 G106_4 G106_5 G106_6 (Nat.le_trans Z0 (Nat.le_of_eq g93.symm)) (by decide) ne102 F108 (by decide) (nlo_1 j) (fun q => by
          obtain ⟨x1, x2, x3⟩ := nhi_1 j q
          exact ⟨nn_of x1, nn_of x2, x3⟩)) hZ (hw _ (List.mem_of_getElem? (i := 26) rfl)) (hw _ (List.mem_of_getElem? (i := 4) rfl)) (by decide) (by decide)) q111a q111c (g := (mkF m 55 #[.val (.int p1), .val (.int p2), .val (.int (Int32.ofNat j.val)), .val (.double (mnF j.val)), .second, .val (.int (Int32.ofNat (j.val / 4))), .val (.int (3 : Int32)), .val (.ref ob), .unset, .unset, .unset, .unset, .unset, .unset, .unset, .unset, .unset] [(.ref ob)])) rfl (by rw [hml]; rfl) (Steps.refl _) (argsL := []) (rest := []) (lenOf pd___D rfl) rfl (by show 2 * 0 + _ ≤ _; exact Nat.le_of_eq rfl) (hb hby at_55) (fun _ _ => ⟨rfl, rfl, (by decide : 2 + 0 ≤ _), (by decide : 14 + 0 ≤ _)⟩)
    dsimp only [Pt.U, Pt.locs, Pt.cells, Pt.slots] at X111 l111 y111 z111 st111 hQ111
    subst l111 y111 z111
    obtain ⟨rfl, N111, K111, G111_0, G111_1, G111_2, G111_3, G111_4, G111_5, G111_6⟩ := hQ111
    have M111 := Fr.app M106 N111
    have F112 : Exa Z T111.heap ob "com/example/topple/topple/markov/PoissonWeights" := (G106_0.keep K111)
    have F113 : OwnArr.Ag Z T111.heap ta .double (j.val / 4 - 0 + 1) (fun i => .double (tmF j.val (j.val / 4 - 0 - i))) := (F108.keep K111 (ninS ne102 nin0))
    have c114 : ∀ t, Steps p.tables e below (T111.setTop (mkF m 58 #[.val (.int p1), .val (.int p2), .val (.int (Int32.ofNat j.val)), .val (.double (mnF j.val)), .second, .val (.int (Int32.ofNat (j.val / 4))), .val (.int (3 : Int32)), .val (.ref ob), .unset, .unset, .unset, .unset, .unset, .unset, .unset, .unset, .unset] [(.double (WF j.val 1))])) t → Steps p.tables e below (s₁.setTop (entryFrame m #[(.int p1), (.int p2)] maxLocals)) t := fun t k => c110 t (st111.trans k)
    have c115 : ∀ t, Steps p.tables e below (T111.setTop (mkF m 67 #[.val (.int p1), .val (.int p2), .val (.int (Int32.ofNat j.val)), .val (.double (mnF j.val)), .second, .val (.int (Int32.ofNat (j.val / 4))), .val (.int (3 : Int32)), .val (.ref ob), .unset, .unset, .unset, .unset, .unset, .unset, .unset, .unset, .unset] [(.ref ob)])) t → Steps p.tables e below (s₁.setTop (entryFrame m #[(.int p1), (.int p2)] maxLocals)) t := fun t k => c114 t (by
      show Steps p.tables e below (T111.setTop (mkF m 58 #[.val (.int p1), .val (.int p2), .val (.int (Int32.ofNat j.val)), .val (.double (mnF j.val)), .second, .val (.int (Int32.ofNat (j.val / 4))), .val (.int (3 : Int32)), .val (.ref ob), .unset, .unset, .unset, .unset, .unset, .unset, .unset, .unset, .unset] [(.double (WF j.val 1))])) _
      refine Jvm.OwnP2.pop2D X111.here hx rfl (hb hby at_58) rfl ?_
      show Steps p.tables e below (T111.setTop (mkF m 59 #[.val (.int p1), .val (.int p2), .val (.int (Int32.ofNat j.val)), .val (.double (mnF j.val)), .second, .val (.int (Int32.ofNat (j.val / 4))), .val (.int (3 : Int32)), .val (.ref ob), .unset, .unset, .unset, .unset, .unset, .unset, .unset, .unset, .unset] [])) _
      refine XS.iload X111.here hx rfl (hb hby at_59) rfl ?_
      show Steps p.tables e below (T111.setTop (mkF m 61 #[.val (.int p1), .val (.int p2), .val (.int (Int32.ofNat j.val)), .val (.double (mnF j.val)), .second, .val (.int (Int32.ofNat (j.val / 4))), .val (.int (3 : Int32)), .val (.ref ob), .unset, .unset, .unset, .unset, .unset, .unset, .unset, .unset, .unset] [(.int (3 : Int32))])) _
      refine XS.iconst X111.here hx rfl (hb hby at_61) ?_
      show Steps p.tables e below (T111.setTop (mkF m 62 #[.val (.int p1), .val (.int p2), .val (.int (Int32.ofNat j.val)), .val (.double (mnF j.val)), .second, .val (.int (Int32.ofNat (j.val / 4))), .val (.int (3 : Int32)), .val (.ref ob), .unset, .unset, .unset, .unset, .unset, .unset, .unset, .unset, .unset] [(.int (2 : Int32)), (.int (3 : Int32))])) _
      refine XS.icmpNo X111.here hx rfl (hb hby at_62) rfl (XT.ii_le_f (by decide)) ?_
      show Steps p.tables e below (T111.setTop (mkF m 65 #[.val (.int p1), .val (.int p2), .val (.int (Int32.ofNat j.val)), .val (.double (mnF j.val)), .second, .val (.int (Int32.ofNat (j.val / 4))), .val (.int (3 : Int32)), .val (.ref ob), .unset, .unset, .unset, .unset, .unset, .unset, .unset, .unset, .unset] [])) _
      refine XS.aload X111.here hx rfl (hb hby at_65) rfl rfl ?_
      show Steps p.tables e below (T111.setTop (mkF m 67 #[.val (.int p1), .val (.int p2), .val (.int (Int32.ofNat j.val)), .val (.double (mnF j.val)), .second, .val (.int (Int32.ofNat (j.val / 4))), .val (.int (3 : Int32)), .val (.ref ob), .unset, .unset, .unset, .unset, .unset, .unset, .unset, .unset, .unset] [(.ref ob)])) _
      exact k)
    obtain ⟨cq116, kq116, q116a, q116b, q116c⟩ := isOf hZ rfl G111_0
    obtain ⟨_, _, ⟨T116, L116, k116', n116⟩, -, X116, ⟨Lc116, hQ116, l116, y116, z116⟩, st116⟩ := X111.virtualBack hx (y := (⟨"com/example/topple/topple/markov/PoissonWeights", "next", "()D"⟩ : MethodName)) (z := (⟨"com/example/topple/topple/markov/PoissonWeights", "next", "()D"⟩ : MethodName)) hown (mvT hZ (hw _ (List.mem_of_getElem? (i := 22) rfl))) (mvT hZ (hw _ (List.mem_of_getElem? (i := 23) rfl))) (notFace_of_selects (args := #[]) (mvT hZ (hw _ (List.mem_of_getElem? (i := 25) rfl)))) (mvT hZ (hw _ (List.mem_of_getElem? (i := 25) rfl))) (mvT hZ (hw _ (List.mem_of_getElem? (i := 24) rfl))) (by decide) (backOf (W := 0) (rm_nx l Z a0 hw [] ob ta (mnF j.val) (1 : Int32) (2 : Int32) (Int32.ofNat (j.val / 4)) (Int32.ofNat 0) (WF j.val 1) (WF j.val 2) (j.val / 4 - 0 + 1) 2 (fun i => tmF j.val (j.val / 4 - 0 - i)) T111.heap n0 (Nat.le_trans (Nat.le_trans (Nat.le_trans (Nat.le_trans Z0 E93.1) K102.1) K106.1) K111.1) G111_0 G111_1 G111_2 G111_3 G111_4 G111_5 G111_6 (Nat.le_trans Z0 (Nat.le_of_eq g93.symm)) (by decide) ne102 F113 (by decide) (nlo_2 j) (fun q => by
          obtain ⟨x1, x2, x3⟩ := nhi_2 j q
          exact ⟨nn_of x1, nn_of x2, x3⟩)) hZ (hw _ (List.mem_of_getElem? (i := 26) rfl)) (hw _ (List.mem_of_getElem? (i := 4) rfl)) (by decide) (by decide)) q116a q116c (g := (mkF m 67 #[.val (.int p1), .val (.int p2), .val (.int (Int32.ofNat j.val)), .val (.double (mnF j.val)), .second, .val (.int (Int32.ofNat (j.val / 4))), .val (.int (3 : Int32)), .val (.ref ob), .unset, .unset, .unset, .unset, .unset, .unset, .unset, .unset, .unset] [(.ref ob)])) rfl (by rw [hml]; rfl) (Steps.refl _) (argsL := []) (rest := []) (lenOf pd___D rfl) rfl (by show 2 * 0 + _ ≤ _; exact Nat.le_of_eq rfl) (hb hby at_67) (fun _ _ => ⟨rfl, rfl, (by decide : 2 + 0 ≤ _), (by decide : 14 + 0 ≤ _)⟩)
    dsimp only [Pt.U, Pt.locs, Pt.cells, Pt.slots] at X116 l116 y116 z116 st116 hQ116
    subst l116 y116 z116
    obtain ⟨rfl, N116, K116, G116_0, G116_1, G116_2, G116_3, G116_4, G116_5, G116_6⟩ := hQ116
    have M116 := Fr.app M111 N116
    have F117 : Exa Z T116.heap ob "com/example/topple/topple/markov/PoissonWeights" := (G111_0.keep K116)
    have F118 : OwnArr.Ag Z T116.heap ta .double (j.val / 4 - 0 + 1) (fun i => .double (tmF j.val (j.val / 4 - 0 - i))) := (F113.keep K116 (ninS ne102 nin0))
    have c119 : ∀ t, Steps p.tables e below (T116.setTop (mkF m 70 #[.val (.int p1), .val (.int p2), .val (.int (Int32.ofNat j.val)), .val (.double (mnF j.val)), .second, .val (.int (Int32.ofNat (j.val / 4))), .val (.int (3 : Int32)), .val (.ref ob), .unset, .unset, .unset, .unset, .unset, .unset, .unset, .unset, .unset] [(.double (WF j.val 2))])) t → Steps p.tables e below (s₁.setTop (entryFrame m #[(.int p1), (.int p2)] maxLocals)) t := fun t k => c115 t (st116.trans k)
    have c120 : ∀ t, Steps p.tables e below (T116.setTop (mkF m 115 #[.val (.int p1), .val (.int p2), .val (.int (Int32.ofNat j.val)), .val (.double (mnF j.val)), .second, .val (.int (Int32.ofNat (j.val / 4))), .val (.int (3 : Int32)), .val (.ref ob), .val (.int (2 : Int32)), .unset, .unset, .unset, .unset, .unset, .unset, .unset, .unset] [(.ref ob)])) t → Steps p.tables e below (s₁.setTop (entryFrame m #[(.int p1), (.int p2)] maxLocals)) t := fun t k => c119 t (by
      show Steps p.tables e below (T116.setTop (mkF m 70 #[.val (.int p1), .val (.int p2), .val (.int (Int32.ofNat j.val)), .val (.double (mnF j.val)), .second, .val (.int (Int32.ofNat (j.val / 4))), .val (.int (3 : Int32)), .val (.ref ob), .unset, .unset, .unset, .unset, .unset, .unset, .unset, .unset, .unset] [(.double (WF j.val 2))])) _
      refine Jvm.OwnP2.pop2D X116.here hx rfl (hb hby at_70) rfl ?_
      show Steps p.tables e below (T116.setTop (mkF m 71 #[.val (.int p1), .val (.int p2), .val (.int (Int32.ofNat j.val)), .val (.double (mnF j.val)), .second, .val (.int (Int32.ofNat (j.val / 4))), .val (.int (3 : Int32)), .val (.ref ob), .unset, .unset, .unset, .unset, .unset, .unset, .unset, .unset, .unset] [])) _
      refine XS.iload X116.here hx rfl (hb hby at_71) rfl ?_
      show Steps p.tables e below (T116.setTop (mkF m 73 #[.val (.int p1), .val (.int p2), .val (.int (Int32.ofNat j.val)), .val (.double (mnF j.val)), .second, .val (.int (Int32.ofNat (j.val / 4))), .val (.int (3 : Int32)), .val (.ref ob), .unset, .unset, .unset, .unset, .unset, .unset, .unset, .unset, .unset] [(.int (3 : Int32))])) _
      refine XS.iconst X116.here hx rfl (hb hby at_73) ?_
      show Steps p.tables e below (T116.setTop (mkF m 74 #[.val (.int p1), .val (.int p2), .val (.int (Int32.ofNat j.val)), .val (.double (mnF j.val)), .second, .val (.int (Int32.ofNat (j.val / 4))), .val (.int (3 : Int32)), .val (.ref ob), .unset, .unset, .unset, .unset, .unset, .unset, .unset, .unset, .unset] [(.int (3 : Int32)), (.int (3 : Int32))])) _
      refine XS.icmpYes X116.here hx rfl (pc0 := 74) (pc' := 83) rfl (hb hby at_74) rfl (XT.ii_le_t (by decide)) (by decide) (by decide) ?_
      show Steps p.tables e below (T116.setTop (mkF m 83 #[.val (.int p1), .val (.int p2), .val (.int (Int32.ofNat j.val)), .val (.double (mnF j.val)), .second, .val (.int (Int32.ofNat (j.val / 4))), .val (.int (3 : Int32)), .val (.ref ob), .unset, .unset, .unset, .unset, .unset, .unset, .unset, .unset, .unset] [])) _
      refine XS.iload X116.here hx rfl (hb hby at_83) rfl ?_
      show Steps p.tables e below (T116.setTop (mkF m 85 #[.val (.int p1), .val (.int p2), .val (.int (Int32.ofNat j.val)), .val (.double (mnF j.val)), .second, .val (.int (Int32.ofNat (j.val / 4))), .val (.int (3 : Int32)), .val (.ref ob), .unset, .unset, .unset, .unset, .unset, .unset, .unset, .unset, .unset] [(.int (3 : Int32))])) _
      refine XS.iconst X116.here hx rfl (hb hby at_85) ?_
      show Steps p.tables e below (T116.setTop (mkF m 86 #[.val (.int p1), .val (.int p2), .val (.int (Int32.ofNat j.val)), .val (.double (mnF j.val)), .second, .val (.int (Int32.ofNat (j.val / 4))), .val (.int (3 : Int32)), .val (.ref ob), .unset, .unset, .unset, .unset, .unset, .unset, .unset, .unset, .unset] [(.int (4 : Int32)), (.int (3 : Int32))])) _
      refine XS.icmpYes X116.here hx rfl (pc0 := 86) (pc' := 95) rfl (hb hby at_86) rfl (XT.ii_le_t (by decide)) (by decide) (by decide) ?_
      show Steps p.tables e below (T116.setTop (mkF m 95 #[.val (.int p1), .val (.int p2), .val (.int (Int32.ofNat j.val)), .val (.double (mnF j.val)), .second, .val (.int (Int32.ofNat (j.val / 4))), .val (.int (3 : Int32)), .val (.ref ob), .unset, .unset, .unset, .unset, .unset, .unset, .unset, .unset, .unset] [])) _
      refine XS.iload X116.here hx rfl (hb hby at_95) rfl ?_
      show Steps p.tables e below (T116.setTop (mkF m 97 #[.val (.int p1), .val (.int p2), .val (.int (Int32.ofNat j.val)), .val (.double (mnF j.val)), .second, .val (.int (Int32.ofNat (j.val / 4))), .val (.int (3 : Int32)), .val (.ref ob), .unset, .unset, .unset, .unset, .unset, .unset, .unset, .unset, .unset] [(.int (3 : Int32))])) _
      refine XS.iconst X116.here hx rfl (hb hby at_97) ?_
      show Steps p.tables e below (T116.setTop (mkF m 98 #[.val (.int p1), .val (.int p2), .val (.int (Int32.ofNat j.val)), .val (.double (mnF j.val)), .second, .val (.int (Int32.ofNat (j.val / 4))), .val (.int (3 : Int32)), .val (.ref ob), .unset, .unset, .unset, .unset, .unset, .unset, .unset, .unset, .unset] [(.int (5 : Int32)), (.int (3 : Int32))])) _
      refine XS.icmpYes X116.here hx rfl (pc0 := 98) (pc' := 107) rfl (hb hby at_98) rfl (XT.ii_le_t (by decide)) (by decide) (by decide) ?_
      show Steps p.tables e below (T116.setTop (mkF m 107 #[.val (.int p1), .val (.int p2), .val (.int (Int32.ofNat j.val)), .val (.double (mnF j.val)), .second, .val (.int (Int32.ofNat (j.val / 4))), .val (.int (3 : Int32)), .val (.ref ob), .unset, .unset, .unset, .unset, .unset, .unset, .unset, .unset, .unset] [])) _
      refine XS.iload X116.here hx rfl (hb hby at_107) rfl ?_
      show Steps p.tables e below (T116.setTop (mkF m 109 #[.val (.int p1), .val (.int p2), .val (.int (Int32.ofNat j.val)), .val (.double (mnF j.val)), .second, .val (.int (Int32.ofNat (j.val / 4))), .val (.int (3 : Int32)), .val (.ref ob), .unset, .unset, .unset, .unset, .unset, .unset, .unset, .unset, .unset] [(.int (3 : Int32))])) _
      refine XS.iconst X116.here hx rfl (hb hby at_109) ?_
      show Steps p.tables e below (T116.setTop (mkF m 110 #[.val (.int p1), .val (.int p2), .val (.int (Int32.ofNat j.val)), .val (.double (mnF j.val)), .second, .val (.int (Int32.ofNat (j.val / 4))), .val (.int (3 : Int32)), .val (.ref ob), .unset, .unset, .unset, .unset, .unset, .unset, .unset, .unset, .unset] [(.int (1 : Int32)), (.int (3 : Int32))])) _
      refine XS.isub X116.here hx rfl (hb hby at_110) rfl ?_
      show Steps p.tables e below (T116.setTop (mkF m 111 #[.val (.int p1), .val (.int p2), .val (.int (Int32.ofNat j.val)), .val (.double (mnF j.val)), .second, .val (.int (Int32.ofNat (j.val / 4))), .val (.int (3 : Int32)), .val (.ref ob), .unset, .unset, .unset, .unset, .unset, .unset, .unset, .unset, .unset] [(.int (2 : Int32))])) _
      refine XS.istore X116.here hx rfl (hb hby at_111) rfl (l' := #[.val (.int p1), .val (.int p2), .val (.int (Int32.ofNat j.val)), .val (.double (mnF j.val)), .second, .val (.int (Int32.ofNat (j.val / 4))), .val (.int (3 : Int32)), .val (.ref ob), .val (.int (2 : Int32)), .unset, .unset, .unset, .unset, .unset, .unset, .unset, .unset]) rfl ?_
      show Steps p.tables e below (T116.setTop (mkF m 113 #[.val (.int p1), .val (.int p2), .val (.int (Int32.ofNat j.val)), .val (.double (mnF j.val)), .second, .val (.int (Int32.ofNat (j.val / 4))), .val (.int (3 : Int32)), .val (.ref ob), .val (.int (2 : Int32)), .unset, .unset, .unset, .unset, .unset, .unset, .unset, .unset] [])) _
      refine XS.aload X116.here hx rfl (hb hby at_113) rfl rfl ?_
      show Steps p.tables e below (T116.setTop (mkF m 115 #[.val (.int p1), .val (.int p2), .val (.int (Int32.ofNat j.val)), .val (.double (mnF j.val)), .second, .val (.int (Int32.ofNat (j.val / 4))), .val (.int (3 : Int32)), .val (.ref ob), .val (.int (2 : Int32)), .unset, .unset, .unset, .unset, .unset, .unset, .unset, .unset] [(.ref ob)])) _
      exact k)
    by_cases qt : (2 : Int32) < (Int32.ofNat (j.val / 4))
    · skip
      obtain ⟨cq121, kq121, q121a, q121b, q121c⟩ := isOf hZ rfl G116_0
      obtain ⟨_, _, ⟨T121, L121, k121', n121⟩, -, X121, ⟨Lc121, hQ121, l121, y121, z121⟩, st121⟩ := X116.virtualBack hx (y := (⟨"com/example/topple/topple/markov/PoissonWeights", "tail", "()D"⟩ : MethodName)) (z := (⟨"com/example/topple/topple/markov/PoissonWeights", "tail", "()D"⟩ : MethodName)) hown (mvT hZ (hw _ (List.mem_of_getElem? (i := 29) rfl))) (mvT hZ (hw _ (List.mem_of_getElem? (i := 30) rfl))) (notFace_of_selects (args := #[]) (mvT hZ (hw _ (List.mem_of_getElem? (i := 32) rfl)))) (mvT hZ (hw _ (List.mem_of_getElem? (i := 32) rfl))) (mvT hZ (hw _ (List.mem_of_getElem? (i := 31) rfl))) (by decide) (backOf (W := 0) (rm_t0 l Z a0 hw [] ob (2 : Int32) (Int32.ofNat (j.val / 4)) T116.heap n0 (Nat.le_trans (Nat.le_trans (Nat.le_trans (Nat.le_trans (Nat.le_trans Z0 E93.1) K102.1) K106.1) K111.1) K116.1) G116_1 G116_3 qt) hZ (hw _ (List.mem_of_getElem? (i := 33) rfl)) (hw _ (List.mem_of_getElem? (i := 4) rfl)) (by decide) (by decide)) q121a q121c (g := (mkF m 115 #[.val (.int p1), .val (.int p2), .val (.int (Int32.ofNat j.val)), .val (.double (mnF j.val)), .second, .val (.int (Int32.ofNat (j.val / 4))), .val (.int (3 : Int32)), .val (.ref ob), .val (.int (2 : Int32)), .unset, .unset, .unset, .unset, .unset, .unset, .unset, .unset] [(.ref ob)])) rfl (by rw [hml]; rfl) (Steps.refl _) (argsL := []) (rest := []) (lenOf pd___D rfl) rfl (by show 2 * 0 + _ ≤ _; exact Nat.le_of_eq rfl) (hb hby at_115) (fun _ _ => ⟨rfl, rfl, (by decide : 2 + 0 ≤ _), (by decide : 14 + 0 ≤ _)⟩)
      dsimp only [Pt.U, Pt.locs, Pt.cells, Pt.slots] at X121 l121 y121 z121 st121 hQ121
      subst l121 y121 z121
      obtain ⟨rfl, N121, e121⟩ := hQ121
      have M121 := Fr.app M116 N121
      have c122 : ∀ t, Steps p.tables e below (T121.setTop (mkF m 118 #[.val (.int p1), .val (.int p2), .val (.int (Int32.ofNat j.val)), .val (.double (mnF j.val)), .second, .val (.int (Int32.ofNat (j.val / 4))), .val (.int (3 : Int32)), .val (.ref ob), .val (.int (2 : Int32)), .unset, .unset, .unset, .unset, .unset, .unset, .unset, .unset] [(.double (9218868437227405312 : UInt64))])) t → Steps p.tables e below (s₁.setTop (entryFrame m #[(.int p1), (.int p2)] maxLocals)) t := fun t k => c120 t (st121.trans k)
      obtain ⟨k132, hk132⟩ : ∃ v : Int32, cmpValue (FP.dcmp (9218868437227405312 : UInt64) (9218868437227405312 : UInt64)) .l = v := ⟨_, rfl⟩
      have e132 : k132 = 0 := hk132.symm.trans inf_c
      have c123 : ∀ t, Steps p.tables e below (T121.setTop (mkF m 141 #[.val (.int p1), .val (.int p2), .val (.int (Int32.ofNat j.val)), .val (.double (mnF j.val)), .second, .val (.int (Int32.ofNat (j.val / 4))), .val (.int (3 : Int32)), .val (.ref ob), .val (.int (2 : Int32)), .val (.double (9218868437227405312 : UInt64)), .second, .unset, .unset, .unset, .unset, .unset, .unset] [(.int (1 : Int32))])) t → Steps p.tables e below (s₁.setTop (entryFrame m #[(.int p1), (.int p2)] maxLocals)) t := fun t k => c122 t (by
        show Steps p.tables e below (T121.setTop (mkF m 118 #[.val (.int p1), .val (.int p2), .val (.int (Int32.ofNat j.val)), .val (.double (mnF j.val)), .second, .val (.int (Int32.ofNat (j.val / 4))), .val (.int (3 : Int32)), .val (.ref ob), .val (.int (2 : Int32)), .unset, .unset, .unset, .unset, .unset, .unset, .unset, .unset] [(.double (9218868437227405312 : UInt64))])) _
        refine XS.dstore X121.here hx rfl (hb hby at_118) rfl (l' := #[.val (.int p1), .val (.int p2), .val (.int (Int32.ofNat j.val)), .val (.double (mnF j.val)), .second, .val (.int (Int32.ofNat (j.val / 4))), .val (.int (3 : Int32)), .val (.ref ob), .val (.int (2 : Int32)), .val (.double (9218868437227405312 : UInt64)), .second, .unset, .unset, .unset, .unset, .unset, .unset]) rfl ?_
        show Steps p.tables e below (T121.setTop (mkF m 120 #[.val (.int p1), .val (.int p2), .val (.int (Int32.ofNat j.val)), .val (.double (mnF j.val)), .second, .val (.int (Int32.ofNat (j.val / 4))), .val (.int (3 : Int32)), .val (.ref ob), .val (.int (2 : Int32)), .val (.double (9218868437227405312 : UInt64)), .second, .unset, .unset, .unset, .unset, .unset, .unset] [])) _
        refine XS.iload X121.here hx rfl (hb hby at_120) rfl ?_
        show Steps p.tables e below (T121.setTop (mkF m 122 #[.val (.int p1), .val (.int p2), .val (.int (Int32.ofNat j.val)), .val (.double (mnF j.val)), .second, .val (.int (Int32.ofNat (j.val / 4))), .val (.int (3 : Int32)), .val (.ref ob), .val (.int (2 : Int32)), .val (.double (9218868437227405312 : UInt64)), .second, .unset, .unset, .unset, .unset, .unset, .unset] [(.int (2 : Int32))])) _
        refine XS.iload X121.here hx rfl (hb hby at_122) rfl ?_
        show Steps p.tables e below (T121.setTop (mkF m 124 #[.val (.int p1), .val (.int p2), .val (.int (Int32.ofNat j.val)), .val (.double (mnF j.val)), .second, .val (.int (Int32.ofNat (j.val / 4))), .val (.int (3 : Int32)), .val (.ref ob), .val (.int (2 : Int32)), .val (.double (9218868437227405312 : UInt64)), .second, .unset, .unset, .unset, .unset, .unset, .unset] [(.int (Int32.ofNat (j.val / 4))), (.int (2 : Int32))])) _
        refine XS.icmpNo X121.here hx rfl (hb hby at_124) rfl (XT.ii_ge_f qt) ?_
        show Steps p.tables e below (T121.setTop (mkF m 127 #[.val (.int p1), .val (.int p2), .val (.int (Int32.ofNat j.val)), .val (.double (mnF j.val)), .second, .val (.int (Int32.ofNat (j.val / 4))), .val (.int (3 : Int32)), .val (.ref ob), .val (.int (2 : Int32)), .val (.double (9218868437227405312 : UInt64)), .second, .unset, .unset, .unset, .unset, .unset, .unset] [])) _
        refine XS.dload X121.here hx rfl (hb hby at_127) rfl ?_
        show Steps p.tables e below (T121.setTop (mkF m 129 #[.val (.int p1), .val (.int p2), .val (.int (Int32.ofNat j.val)), .val (.double (mnF j.val)), .second, .val (.int (Int32.ofNat (j.val / 4))), .val (.int (3 : Int32)), .val (.ref ob), .val (.int (2 : Int32)), .val (.double (9218868437227405312 : UInt64)), .second, .unset, .unset, .unset, .unset, .unset, .unset] [(.double (9218868437227405312 : UInt64))])) _
        refine Jvm.Stand.ldc2DoubleC X121 hx hown (mvT hZ (hw _ (List.mem_of_getElem? (i := 36) rfl))) (g := (mkF m 129 #[.val (.int p1), .val (.int p2), .val (.int (Int32.ofNat j.val)), .val (.double (mnF j.val)), .second, .val (.int (Int32.ofNat (j.val / 4))), .val (.int (3 : Int32)), .val (.ref ob), .val (.int (2 : Int32)), .val (.double (9218868437227405312 : UInt64)), .second, .unset, .unset, .unset, .unset, .unset, .unset] [(.double (9218868437227405312 : UInt64))])) rfl (hb hby at_129) _ ?_
        show Steps p.tables e below (T121.setTop (mkF m 132 #[.val (.int p1), .val (.int p2), .val (.int (Int32.ofNat j.val)), .val (.double (mnF j.val)), .second, .val (.int (Int32.ofNat (j.val / 4))), .val (.int (3 : Int32)), .val (.ref ob), .val (.int (2 : Int32)), .val (.double (9218868437227405312 : UInt64)), .second, .unset, .unset, .unset, .unset, .unset, .unset] [(.double (9218868437227405312 : UInt64)), (.double (9218868437227405312 : UInt64))])) _
        refine XS.dcmpS X121.here hx rfl (hb hby at_132) rfl hk132 ?_
        show Steps p.tables e below (T121.setTop (mkF m 133 #[.val (.int p1), .val (.int p2), .val (.int (Int32.ofNat j.val)), .val (.double (mnF j.val)), .second, .val (.int (Int32.ofNat (j.val / 4))), .val (.int (3 : Int32)), .val (.ref ob), .val (.int (2 : Int32)), .val (.double (9218868437227405312 : UInt64)), .second, .unset, .unset, .unset, .unset, .unset, .unset] [(.int k132)])) _
        refine XS.ifNo X121.here hx rfl (hb hby at_133) rfl (XT.i0_ne_f e132) ?_
        show Steps p.tables e below (T121.setTop (mkF m 136 #[.val (.int p1), .val (.int p2), .val (.int (Int32.ofNat j.val)), .val (.double (mnF j.val)), .second, .val (.int (Int32.ofNat (j.val / 4))), .val (.int (3 : Int32)), .val (.ref ob), .val (.int (2 : Int32)), .val (.double (9218868437227405312 : UInt64)), .second, .unset, .unset, .unset, .unset, .unset, .unset] [])) _
        refine XS.iconst X121.here hx rfl (hb hby at_136) ?_
        show Steps p.tables e below (T121.setTop (mkF m 137 #[.val (.int p1), .val (.int p2), .val (.int (Int32.ofNat j.val)), .val (.double (mnF j.val)), .second, .val (.int (Int32.ofNat (j.val / 4))), .val (.int (3 : Int32)), .val (.ref ob), .val (.int (2 : Int32)), .val (.double (9218868437227405312 : UInt64)), .second, .unset, .unset, .unset, .unset, .unset, .unset] [(.int (1 : Int32))])) _
        refine XS.goto X121.here hx rfl (pc0 := 137) (pc' := 141) rfl (hb hby at_137) (by decide) (by decide) ?_
        show Steps p.tables e below (T121.setTop (mkF m 141 #[.val (.int p1), .val (.int p2), .val (.int (Int32.ofNat j.val)), .val (.double (mnF j.val)), .second, .val (.int (Int32.ofNat (j.val / 4))), .val (.int (3 : Int32)), .val (.ref ob), .val (.int (2 : Int32)), .val (.double (9218868437227405312 : UInt64)), .second, .unset, .unset, .unset, .unset, .unset, .unset] [(.int (1 : Int32))])) _
        exact k)
      obtain ⟨fs, hr, hrun, hended, hW, hsame⟩ := X121.leave (v := (some (.int (1 : Int32)))) (fun h => by rw [Bd.returns] at h; cases h)
      refine ⟨_, _, pre0 _ (c123 _ (retN X121 hx (t := .boolean) Bd.returns (by simp) (hb hby at_141) hr)), hrun, hended, _, _, rfl, ?_, ⟨_, rfl⟩, hW, hsame.mono (by decide) (by decide)⟩
      show Q_0 Z p1 p2 h0 n0 _ T121.heap _
      rw [e121]
      exact ⟨rfl, M121⟩
    · skip
      obtain ⟨z1, z2, z3, z4, z5⟩ := tl_3 j qt
      obtain ⟨l1, l2, l3, l4, l5, l6⟩ := lw_3 j qt
      obtain ⟨cq124, kq124, q124a, q124b, q124c⟩ := isOf hZ rfl G116_0
      obtain ⟨_, _, ⟨T124, L124, k124', n124⟩, -, X124, ⟨Lc124, hQ124, l124, y124, z124⟩, st124⟩ := X116.virtualBack hx (y := (⟨"com/example/topple/topple/markov/PoissonWeights", "tail", "()D"⟩ : MethodName)) (z := (⟨"com/example/topple/topple/markov/PoissonWeights", "tail", "()D"⟩ : MethodName)) hown (mvT hZ (hw _ (List.mem_of_getElem? (i := 29) rfl))) (mvT hZ (hw _ (List.mem_of_getElem? (i := 30) rfl))) (notFace_of_selects (args := #[]) (mvT hZ (hw _ (List.mem_of_getElem? (i := 32) rfl)))) (mvT hZ (hw _ (List.mem_of_getElem? (i := 32) rfl))) (mvT hZ (hw _ (List.mem_of_getElem? (i := 31) rfl))) (by decide) (backOf (W := 0) (rm_t1 l Z a0 hw [] ob (2 : Int32) (Int32.ofNat (j.val / 4)) (mnF j.val) (WF j.val 2) T116.heap n0 (Nat.le_trans (Nat.le_trans (Nat.le_trans (Nat.le_trans (Nat.le_trans Z0 E93.1) K102.1) K106.1) K111.1) K116.1) G116_1 G116_2 G116_3 G116_6 qt (nn_of z1) (nn_of z2) (nn_of z3) (nn_of z4) (nn_of z5)) hZ (hw _ (List.mem_of_getElem? (i := 33) rfl)) (hw _ (List.mem_of_getElem? (i := 4) rfl)) (by decide) (by decide)) q124a q124c (g := (mkF m 115 #[.val (.int p1), .val (.int p2), .val (.int (Int32.ofNat j.val)), .val (.double (mnF j.val)), .second, .val (.int (Int32.ofNat (j.val / 4))), .val (.int (3 : Int32)), .val (.ref ob), .val (.int (2 : Int32)), .unset, .unset, .unset, .unset, .unset, .unset, .unset, .unset] [(.ref ob)])) rfl (by rw [hml]; rfl) (Steps.refl _) (argsL := []) (rest := []) (lenOf pd___D rfl) rfl (by show 2 * 0 + _ ≤ _; exact Nat.le_of_eq rfl) (hb hby at_115) (fun _ _ => ⟨rfl, rfl, (by decide : 2 + 0 ≤ _), (by decide : 14 + 0 ≤ _)⟩)
      dsimp only [Pt.U, Pt.locs, Pt.cells, Pt.slots] at X124 l124 y124 z124 st124 hQ124
      subst l124 y124 z124
      obtain ⟨rfl, N124, e124⟩ := hQ124
      have M124 := Fr.app M116 N124
      have c125 : ∀ t, Steps p.tables e below (T124.setTop (mkF m 118 #[.val (.int p1), .val (.int p2), .val (.int (Int32.ofNat j.val)), .val (.double (mnF j.val)), .second, .val (.int (Int32.ofNat (j.val / 4))), .val (.int (3 : Int32)), .val (.ref ob), .val (.int (2 : Int32)), .unset, .unset, .unset, .unset, .unset, .unset, .unset, .unset] [(.double (FP.ddiv (FP.ddiv (FP.dmul (WF j.val 2) (mnF j.val)) (FP.i2d ((2 : Int32) + (1 : Int32)))) (FP.dsub FP.dconst1 (FP.ddiv (mnF j.val) (FP.i2d ((2 : Int32) + (2 : Int32)))))))])) t → Steps p.tables e below (s₁.setTop (entryFrame m #[(.int p1), (.int p2)] maxLocals)) t := fun t k => c120 t (st124.trans k)
      have c126 : ∀ t, Steps p.tables e below (T124.setTop (mkF m 144 #[.val (.int p1), .val (.int p2), .val (.int (Int32.ofNat j.val)), .val (.double (mnF j.val)), .second, .val (.int (Int32.ofNat (j.val / 4))), .val (.int (3 : Int32)), .val (.ref ob), .val (.int (2 : Int32)), .val (.double (FP.ddiv (FP.ddiv (FP.dmul (WF j.val 2) (mnF j.val)) (FP.i2d ((2 : Int32) + (1 : Int32)))) (FP.dsub FP.dconst1 (FP.ddiv (mnF j.val) (FP.i2d ((2 : Int32) + (2 : Int32))))))), .second, .unset, .unset, .unset, .unset, .unset, .unset] [(.ref ob)])) t → Steps p.tables e below (s₁.setTop (entryFrame m #[(.int p1), (.int p2)] maxLocals)) t := fun t k => c125 t (by
        show Steps p.tables e below (T124.setTop (mkF m 118 #[.val (.int p1), .val (.int p2), .val (.int (Int32.ofNat j.val)), .val (.double (mnF j.val)), .second, .val (.int (Int32.ofNat (j.val / 4))), .val (.int (3 : Int32)), .val (.ref ob), .val (.int (2 : Int32)), .unset, .unset, .unset, .unset, .unset, .unset, .unset, .unset] [(.double (FP.ddiv (FP.ddiv (FP.dmul (WF j.val 2) (mnF j.val)) (FP.i2d ((2 : Int32) + (1 : Int32)))) (FP.dsub FP.dconst1 (FP.ddiv (mnF j.val) (FP.i2d ((2 : Int32) + (2 : Int32)))))))])) _
        refine XS.dstore X124.here hx rfl (hb hby at_118) rfl (l' := #[.val (.int p1), .val (.int p2), .val (.int (Int32.ofNat j.val)), .val (.double (mnF j.val)), .second, .val (.int (Int32.ofNat (j.val / 4))), .val (.int (3 : Int32)), .val (.ref ob), .val (.int (2 : Int32)), .val (.double (FP.ddiv (FP.ddiv (FP.dmul (WF j.val 2) (mnF j.val)) (FP.i2d ((2 : Int32) + (1 : Int32)))) (FP.dsub FP.dconst1 (FP.ddiv (mnF j.val) (FP.i2d ((2 : Int32) + (2 : Int32))))))), .second, .unset, .unset, .unset, .unset, .unset, .unset]) rfl ?_
        show Steps p.tables e below (T124.setTop (mkF m 120 #[.val (.int p1), .val (.int p2), .val (.int (Int32.ofNat j.val)), .val (.double (mnF j.val)), .second, .val (.int (Int32.ofNat (j.val / 4))), .val (.int (3 : Int32)), .val (.ref ob), .val (.int (2 : Int32)), .val (.double (FP.ddiv (FP.ddiv (FP.dmul (WF j.val 2) (mnF j.val)) (FP.i2d ((2 : Int32) + (1 : Int32)))) (FP.dsub FP.dconst1 (FP.ddiv (mnF j.val) (FP.i2d ((2 : Int32) + (2 : Int32))))))), .second, .unset, .unset, .unset, .unset, .unset, .unset] [])) _
        refine XS.iload X124.here hx rfl (hb hby at_120) rfl ?_
        show Steps p.tables e below (T124.setTop (mkF m 122 #[.val (.int p1), .val (.int p2), .val (.int (Int32.ofNat j.val)), .val (.double (mnF j.val)), .second, .val (.int (Int32.ofNat (j.val / 4))), .val (.int (3 : Int32)), .val (.ref ob), .val (.int (2 : Int32)), .val (.double (FP.ddiv (FP.ddiv (FP.dmul (WF j.val 2) (mnF j.val)) (FP.i2d ((2 : Int32) + (1 : Int32)))) (FP.dsub FP.dconst1 (FP.ddiv (mnF j.val) (FP.i2d ((2 : Int32) + (2 : Int32))))))), .second, .unset, .unset, .unset, .unset, .unset, .unset] [(.int (2 : Int32))])) _
        refine XS.iload X124.here hx rfl (hb hby at_122) rfl ?_
        show Steps p.tables e below (T124.setTop (mkF m 124 #[.val (.int p1), .val (.int p2), .val (.int (Int32.ofNat j.val)), .val (.double (mnF j.val)), .second, .val (.int (Int32.ofNat (j.val / 4))), .val (.int (3 : Int32)), .val (.ref ob), .val (.int (2 : Int32)), .val (.double (FP.ddiv (FP.ddiv (FP.dmul (WF j.val 2) (mnF j.val)) (FP.i2d ((2 : Int32) + (1 : Int32)))) (FP.dsub FP.dconst1 (FP.ddiv (mnF j.val) (FP.i2d ((2 : Int32) + (2 : Int32))))))), .second, .unset, .unset, .unset, .unset, .unset, .unset] [(.int (Int32.ofNat (j.val / 4))), (.int (2 : Int32))])) _
        refine XS.icmpYes X124.here hx rfl (pc0 := 124) (pc' := 142) rfl (hb hby at_124) rfl (XT.ii_ge_t qt) (by decide) (by decide) ?_
        show Steps p.tables e below (T124.setTop (mkF m 142 #[.val (.int p1), .val (.int p2), .val (.int (Int32.ofNat j.val)), .val (.double (mnF j.val)), .second, .val (.int (Int32.ofNat (j.val / 4))), .val (.int (3 : Int32)), .val (.ref ob), .val (.int (2 : Int32)), .val (.double (FP.ddiv (FP.ddiv (FP.dmul (WF j.val 2) (mnF j.val)) (FP.i2d ((2 : Int32) + (1 : Int32)))) (FP.dsub FP.dconst1 (FP.ddiv (mnF j.val) (FP.i2d ((2 : Int32) + (2 : Int32))))))), .second, .unset, .unset, .unset, .unset, .unset, .unset] [])) _
        refine XS.aload X124.here hx rfl (hb hby at_142) rfl rfl ?_
        show Steps p.tables e below (T124.setTop (mkF m 144 #[.val (.int p1), .val (.int p2), .val (.int (Int32.ofNat j.val)), .val (.double (mnF j.val)), .second, .val (.int (Int32.ofNat (j.val / 4))), .val (.int (3 : Int32)), .val (.ref ob), .val (.int (2 : Int32)), .val (.double (FP.ddiv (FP.ddiv (FP.dmul (WF j.val 2) (mnF j.val)) (FP.i2d ((2 : Int32) + (1 : Int32)))) (FP.dsub FP.dconst1 (FP.ddiv (mnF j.val) (FP.i2d ((2 : Int32) + (2 : Int32))))))), .second, .unset, .unset, .unset, .unset, .unset, .unset] [(.ref ob)])) _
        exact k)
      obtain ⟨cq127, kq127, q127a, q127b, q127c⟩ := isOf hZ e124 G116_0
      obtain ⟨_, _, ⟨T127, L127, k127', n127⟩, -, X127, ⟨Lc127, hQ127, l127, y127, z127⟩, st127⟩ := X124.virtualBack hx (y := (⟨"com/example/topple/topple/markov/PoissonWeights", "next", "()D"⟩ : MethodName)) (z := (⟨"com/example/topple/topple/markov/PoissonWeights", "next", "()D"⟩ : MethodName)) hown (mvT hZ (hw _ (List.mem_of_getElem? (i := 22) rfl))) (mvT hZ (hw _ (List.mem_of_getElem? (i := 23) rfl))) (notFace_of_selects (args := #[]) (mvT hZ (hw _ (List.mem_of_getElem? (i := 25) rfl)))) (mvT hZ (hw _ (List.mem_of_getElem? (i := 25) rfl))) (mvT hZ (hw _ (List.mem_of_getElem? (i := 24) rfl))) (by decide) (backOf (W := 0) (rm_nx l Z a0 hw [] ob ta (mnF j.val) (2 : Int32) (3 : Int32) (Int32.ofNat (j.val / 4)) (Int32.ofNat 0) (WF j.val 2) (WF j.val 3) (j.val / 4 - 0 + 1) 3 (fun i => tmF j.val (j.val / 4 - 0 - i)) T116.heap n0 (Nat.le_trans (Nat.le_trans (Nat.le_trans (Nat.le_trans (Nat.le_trans Z0 E93.1) K102.1) K106.1) K111.1) K116.1) G116_0 G116_1 G116_2 G116_3 G116_4 G116_5 G116_6 (Nat.le_trans Z0 (Nat.le_of_eq g93.symm)) (by decide) ne102 F118 (by decide) (nlo_3 j) (fun q => by
            obtain ⟨x1, x2, x3⟩ := nhi_3 j q
            exact ⟨nn_of x1, nn_of x2, x3⟩)) hZ (hw _ (List.mem_of_getElem? (i := 26) rfl)) (hw _ (List.mem_of_getElem? (i := 4) rfl)) (by decide) (by decide)) q127a q127c (g := (mkF m 144 #[.val (.int p1), .val (.int p2), .val (.int (Int32.ofNat j.val)), .val (.double (mnF j.val)), .second, .val (.int (Int32.ofNat (j.val / 4))), .val (.int (3 : Int32)), .val (.ref ob), .val (.int (2 : Int32)), .val (.double (FP.ddiv (FP.ddiv (FP.dmul (WF j.val 2) (mnF j.val)) (FP.i2d ((2 : Int32) + (1 : Int32)))) (FP.dsub FP.dconst1 (FP.ddiv (mnF j.val) (FP.i2d ((2 : Int32) + (2 : Int32))))))), .second, .unset, .unset, .unset, .unset, .unset, .unset] [(.ref ob)])) rfl (by rw [hml]; rfl) (Steps.refl _) (argsL := []) (rest := []) (lenOf pd___D rfl) rfl (by show 2 * 0 + _ ≤ _; exact Nat.le_of_eq rfl) (hb hby at_144) (fun _ _ => ⟨rfl, e124, (by decide : 2 + 0 ≤ _), (by decide : 14 + 0 ≤ _)⟩)
      dsimp only [Pt.U, Pt.locs, Pt.cells, Pt.slots] at X127 l127 y127 z127 st127 hQ127
      subst l127 y127 z127
      obtain ⟨rfl, N127, K127, G127_0, G127_1, G127_2, G127_3, G127_4, G127_5, G127_6⟩ := hQ127
      have M127 := Fr.app M124 N127
      have F128 : Exa Z T127.heap ob "com/example/topple/topple/markov/PoissonWeights" := (G116_0.keep K127)
      have F129 : OwnArr.Ag Z T127.heap ta .double (j.val / 4 - 0 + 1) (fun i => .double (tmF j.val (j.val / 4 - 0 - i))) := (F118.keep K127 (ninS ne102 nin0))
      have c130 : ∀ t, Steps p.tables e below (T127.setTop (mkF m 147 #[.val (.int p1), .val (.int p2), .val (.int (Int32.ofNat j.val)), .val (.double (mnF j.val)), .second, .val (.int (Int32.ofNat (j.val / 4))), .val (.int (3 : Int32)), .val (.ref ob), .val (.int (2 : Int32)), .val (.double (FP.ddiv (FP.ddiv (FP.dmul (WF j.val 2) (mnF j.val)) (FP.i2d ((2 : Int32) + (1 : Int32)))) (FP.dsub FP.dconst1 (FP.ddiv (mnF j.val) (FP.i2d ((2 : Int32) + (2 : Int32))))))), .second, .unset, .unset, .unset, .unset, .unset, .unset] [(.double (WF j.val 3))])) t → Steps p.tables e below (s₁.setTop (entryFrame m #[(.int p1), (.int p2)] maxLocals)) t := fun t k => c126 t (st127.trans k)
      have c131 : ∀ t, Steps p.tables e below (T127.setTop (mkF m 151 #[.val (.int p1), .val (.int p2), .val (.int (Int32.ofNat j.val)), .val (.double (mnF j.val)), .second, .val (.int (Int32.ofNat (j.val / 4))), .val (.int (3 : Int32)), .val (.ref ob), .val (.int (2 : Int32)), .val (.double (FP.ddiv (FP.ddiv (FP.dmul (WF j.val 2) (mnF j.val)) (FP.i2d ((2 : Int32) + (1 : Int32)))) (FP.dsub FP.dconst1 (FP.ddiv (mnF j.val) (FP.i2d ((2 : Int32) + (2 : Int32))))))), .second, .val (.double (WF j.val 3)), .second, .unset, .unset, .unset, .unset] [(.ref ob)])) t → Steps p.tables e below (s₁.setTop (entryFrame m #[(.int p1), (.int p2)] maxLocals)) t := fun t k => c130 t (by
        show Steps p.tables e below (T127.setTop (mkF m 147 #[.val (.int p1), .val (.int p2), .val (.int (Int32.ofNat j.val)), .val (.double (mnF j.val)), .second, .val (.int (Int32.ofNat (j.val / 4))), .val (.int (3 : Int32)), .val (.ref ob), .val (.int (2 : Int32)), .val (.double (FP.ddiv (FP.ddiv (FP.dmul (WF j.val 2) (mnF j.val)) (FP.i2d ((2 : Int32) + (1 : Int32)))) (FP.dsub FP.dconst1 (FP.ddiv (mnF j.val) (FP.i2d ((2 : Int32) + (2 : Int32))))))), .second, .unset, .unset, .unset, .unset, .unset, .unset] [(.double (WF j.val 3))])) _
        refine XS.dstore X127.here hx rfl (hb hby at_147) rfl (l' := #[.val (.int p1), .val (.int p2), .val (.int (Int32.ofNat j.val)), .val (.double (mnF j.val)), .second, .val (.int (Int32.ofNat (j.val / 4))), .val (.int (3 : Int32)), .val (.ref ob), .val (.int (2 : Int32)), .val (.double (FP.ddiv (FP.ddiv (FP.dmul (WF j.val 2) (mnF j.val)) (FP.i2d ((2 : Int32) + (1 : Int32)))) (FP.dsub FP.dconst1 (FP.ddiv (mnF j.val) (FP.i2d ((2 : Int32) + (2 : Int32))))))), .second, .val (.double (WF j.val 3)), .second, .unset, .unset, .unset, .unset]) rfl ?_
        show Steps p.tables e below (T127.setTop (mkF m 149 #[.val (.int p1), .val (.int p2), .val (.int (Int32.ofNat j.val)), .val (.double (mnF j.val)), .second, .val (.int (Int32.ofNat (j.val / 4))), .val (.int (3 : Int32)), .val (.ref ob), .val (.int (2 : Int32)), .val (.double (FP.ddiv (FP.ddiv (FP.dmul (WF j.val 2) (mnF j.val)) (FP.i2d ((2 : Int32) + (1 : Int32)))) (FP.dsub FP.dconst1 (FP.ddiv (mnF j.val) (FP.i2d ((2 : Int32) + (2 : Int32))))))), .second, .val (.double (WF j.val 3)), .second, .unset, .unset, .unset, .unset] [])) _
        refine XS.aload X127.here hx rfl (hb hby at_149) rfl rfl ?_
        show Steps p.tables e below (T127.setTop (mkF m 151 #[.val (.int p1), .val (.int p2), .val (.int (Int32.ofNat j.val)), .val (.double (mnF j.val)), .second, .val (.int (Int32.ofNat (j.val / 4))), .val (.int (3 : Int32)), .val (.ref ob), .val (.int (2 : Int32)), .val (.double (FP.ddiv (FP.ddiv (FP.dmul (WF j.val 2) (mnF j.val)) (FP.i2d ((2 : Int32) + (1 : Int32)))) (FP.dsub FP.dconst1 (FP.ddiv (mnF j.val) (FP.i2d ((2 : Int32) + (2 : Int32))))))), .second, .val (.double (WF j.val 3)), .second, .unset, .unset, .unset, .unset] [(.ref ob)])) _
        exact k)
      obtain ⟨cq132, kq132, q132a, q132b, q132c⟩ := isOf hZ rfl G127_0
      obtain ⟨_, _, ⟨T132, L132, k132', n132⟩, -, X132, ⟨Lc132, hQ132, l132, y132, z132⟩, st132⟩ := X127.virtualBack hx (y := (⟨"com/example/topple/topple/markov/PoissonWeights", "next", "()D"⟩ : MethodName)) (z := (⟨"com/example/topple/topple/markov/PoissonWeights", "next", "()D"⟩ : MethodName)) hown (mvT hZ (hw _ (List.mem_of_getElem? (i := 22) rfl))) (mvT hZ (hw _ (List.mem_of_getElem? (i := 23) rfl))) (notFace_of_selects (args := #[]) (mvT hZ (hw _ (List.mem_of_getElem? (i := 25) rfl)))) (mvT hZ (hw _ (List.mem_of_getElem? (i := 25) rfl))) (mvT hZ (hw _ (List.mem_of_getElem? (i := 24) rfl))) (by decide) (backOf (W := 0) (rm_nx l Z a0 hw [] ob ta (mnF j.val) (3 : Int32) (4 : Int32) (Int32.ofNat (j.val / 4)) (Int32.ofNat 0) (WF j.val 3) (WF j.val 4) (j.val / 4 - 0 + 1) 4 (fun i => tmF j.val (j.val / 4 - 0 - i)) T127.heap n0 (Nat.le_trans (Nat.le_trans (Nat.le_trans (Nat.le_trans (Nat.le_trans (Nat.le_trans Z0 E93.1) K102.1) K106.1) K111.1) K116.1) K127.1) G127_0 G127_1 G127_2 G127_3 G127_4 G127_5 G127_6 (Nat.le_trans Z0 (Nat.le_of_eq g93.symm)) (by decide) ne102 F129 (by decide) (nlo_4 j) (fun q => by
            obtain ⟨x1, x2, x3⟩ := nhi_4 j q
            exact ⟨nn_of x1, nn_of x2, x3⟩)) hZ (hw _ (List.mem_of_getElem? (i := 26) rfl)) (hw _ (List.mem_of_getElem? (i := 4) rfl)) (by decide) (by decide)) q132a q132c (g := (mkF m 151 #[.val (.int p1), .val (.int p2), .val (.int (Int32.ofNat j.val)), .val (.double (mnF j.val)), .second, .val (.int (Int32.ofNat (j.val / 4))), .val (.int (3 : Int32)), .val (.ref ob), .val (.int (2 : Int32)), .val (.double (FP.ddiv (FP.ddiv (FP.dmul (WF j.val 2) (mnF j.val)) (FP.i2d ((2 : Int32) + (1 : Int32)))) (FP.dsub FP.dconst1 (FP.ddiv (mnF j.val) (FP.i2d ((2 : Int32) + (2 : Int32))))))), .second, .val (.double (WF j.val 3)), .second, .unset, .unset, .unset, .unset] [(.ref ob)])) rfl (by rw [hml]; rfl) (Steps.refl _) (argsL := []) (rest := []) (lenOf pd___D rfl) rfl (by show 2 * 0 + _ ≤ _; exact Nat.le_of_eq rfl) (hb hby at_151) (fun _ _ => ⟨rfl, rfl, (by decide : 2 + 0 ≤ _), (by decide : 14 + 0 ≤ _)⟩)
      dsimp only [Pt.U, Pt.locs, Pt.cells, Pt.slots] at X132 l132 y132 z132 st132 hQ132
      subst l132 y132 z132
      obtain ⟨rfl, N132, K132, G132_0, G132_1, G132_2, G132_3, G132_4, G132_5, G132_6⟩ := hQ132
      have M132 := Fr.app M127 N132
      have F133 : Exa Z T132.heap ob "com/example/topple/topple/markov/PoissonWeights" := (G127_0.keep K132)
      have F134 : OwnArr.Ag Z T132.heap ta .double (j.val / 4 - 0 + 1) (fun i => .double (tmF j.val (j.val / 4 - 0 - i))) := (F129.keep K132 (ninS ne102 nin0))
      have c135 : ∀ t, Steps p.tables e below (T132.setTop (mkF m 154 #[.val (.int p1), .val (.int p2), .val (.int (Int32.ofNat j.val)), .val (.double (mnF j.val)), .second, .val (.int (Int32.ofNat (j.val / 4))), .val (.int (3 : Int32)), .val (.ref ob), .val (.int (2 : Int32)), .val (.double (FP.ddiv (FP.ddiv (FP.dmul (WF j.val 2) (mnF j.val)) (FP.i2d ((2 : Int32) + (1 : Int32)))) (FP.dsub FP.dconst1 (FP.ddiv (mnF j.val) (FP.i2d ((2 : Int32) + (2 : Int32))))))), .second, .val (.double (WF j.val 3)), .second, .unset, .unset, .unset, .unset] [(.double (WF j.val 4))])) t → Steps p.tables e below (s₁.setTop (entryFrame m #[(.int p1), (.int p2)] maxLocals)) t := fun t k => c131 t (st132.trans k)
      obtain ⟨d161, hd161⟩ : ∃ v : UInt64, FP.i2d (4 : Int32) = v := ⟨_, rfl⟩
      obtain ⟨d162, hd162⟩ : ∃ v : UInt64, FP.ddiv (mnF j.val) d161 = v := ⟨_, rfl⟩
      have n162 : Jvm.Free.Fl.NoNaN64 (FP.ddiv (mnF j.val) d161) := by rw [← hd161]; exact nn_of l1
      obtain ⟨d172, hd172⟩ : ∃ v : UInt64, FP.dsub FP.dconst1 d162 = v := ⟨_, rfl⟩
      have n172 : Jvm.Free.Fl.NoNaN64 (FP.dsub FP.dconst1 d162) := by rw [← hd162, ← hd161]; exact nn_of l2
      obtain ⟨d173, hd173⟩ : ∃ v : UInt64, FP.ddiv (WF j.val 3) d172 = v := ⟨_, rfl⟩
      have n173 : Jvm.Free.Fl.NoNaN64 (FP.ddiv (WF j.val 3) d172) := by rw [← hd172, ← hd162, ← hd161]; exact nn_of l3
      obtain ⟨k174, hk174⟩ : ∃ v : Int32, cmpValue (FP.dcmp (FP.ddiv (FP.ddiv (FP.dmul (WF j.val 2) (mnF j.val)) (FP.i2d ((2 : Int32) + (1 : Int32)))) (FP.dsub FP.dconst1 (FP.ddiv (mnF j.val) (FP.i2d ((2 : Int32) + (2 : Int32)))))) d173) .l = v := ⟨_, rfl⟩
      have e174 : k174 = 0 := by rw [← hk174, ← hd173, ← hd172, ← hd162, ← hd161]; exact l4
      obtain ⟨d184, hd184⟩ : ∃ v : UInt64, FP.dadd (WF j.val 3) (WF j.val 4) = v := ⟨_, rfl⟩
      obtain ⟨k185, hk185⟩ : ∃ v : Int32, cmpValue (FP.dcmp (FP.ddiv (FP.ddiv (FP.dmul (WF j.val 2) (mnF j.val)) (FP.i2d ((2 : Int32) + (1 : Int32)))) (FP.dsub FP.dconst1 (FP.ddiv (mnF j.val) (FP.i2d ((2 : Int32) + (2 : Int32)))))) d184) .l = v := ⟨_, rfl⟩
      have e185 : ¬ k185 < 0 := by rw [← hk185, ← hd184]; exact l6
      have c136 : ∀ t, Steps p.tables e below (T132.setTop (mkF m 194 #[.val (.int p1), .val (.int p2), .val (.int (Int32.ofNat j.val)), .val (.double (mnF j.val)), .second, .val (.int (Int32.ofNat (j.val / 4))), .val (.int (3 : Int32)), .val (.ref ob), .val (.int (2 : Int32)), .val (.double (FP.ddiv (FP.ddiv (FP.dmul (WF j.val 2) (mnF j.val)) (FP.i2d ((2 : Int32) + (1 : Int32)))) (FP.dsub FP.dconst1 (FP.ddiv (mnF j.val) (FP.i2d ((2 : Int32) + (2 : Int32))))))), .second, .val (.double (WF j.val 3)), .second, .val (.double (WF j.val 4)), .second, .val (.double d162), .second] [(.int (1 : Int32))])) t → Steps p.tables e below (s₁.setTop (entryFrame m #[(.int p1), (.int p2)] maxLocals)) t := fun t k => c135 t (by
        show Steps p.tables e below (T132.setTop (mkF m 154 #[.val (.int p1), .val (.int p2), .val (.int (Int32.ofNat j.val)), .val (.double (mnF j.val)), .second, .val (.int (Int32.ofNat (j.val / 4))), .val (.int (3 : Int32)), .val (.ref ob), .val (.int (2 : Int32)), .val (.double (FP.ddiv (FP.ddiv (FP.dmul (WF j.val 2) (mnF j.val)) (FP.i2d ((2 : Int32) + (1 : Int32)))) (FP.dsub FP.dconst1 (FP.ddiv (mnF j.val) (FP.i2d ((2 : Int32) + (2 : Int32))))))), .second, .val (.double (WF j.val 3)), .second, .unset, .unset, .unset, .unset] [(.double (WF j.val 4))])) _
        refine XS.dstore X132.here hx rfl (hb hby at_154) rfl (l' := #[.val (.int p1), .val (.int p2), .val (.int (Int32.ofNat j.val)), .val (.double (mnF j.val)), .second, .val (.int (Int32.ofNat (j.val / 4))), .val (.int (3 : Int32)), .val (.ref ob), .val (.int (2 : Int32)), .val (.double (FP.ddiv (FP.ddiv (FP.dmul (WF j.val 2) (mnF j.val)) (FP.i2d ((2 : Int32) + (1 : Int32)))) (FP.dsub FP.dconst1 (FP.ddiv (mnF j.val) (FP.i2d ((2 : Int32) + (2 : Int32))))))), .second, .val (.double (WF j.val 3)), .second, .val (.double (WF j.val 4)), .second, .unset, .unset]) rfl ?_
        show Steps p.tables e below (T132.setTop (mkF m 156 #[.val (.int p1), .val (.int p2), .val (.int (Int32.ofNat j.val)), .val (.double (mnF j.val)), .second, .val (.int (Int32.ofNat (j.val / 4))), .val (.int (3 : Int32)), .val (.ref ob), .val (.int (2 : Int32)), .val (.double (FP.ddiv (FP.ddiv (FP.dmul (WF j.val 2) (mnF j.val)) (FP.i2d ((2 : Int32) + (1 : Int32)))) (FP.dsub FP.dconst1 (FP.ddiv (mnF j.val) (FP.i2d ((2 : Int32) + (2 : Int32))))))), .second, .val (.double (WF j.val 3)), .second, .val (.double (WF j.val 4)), .second, .unset, .unset] [])) _
        refine XS.dloadN X132.here hx rfl (hb hby at_156) rfl ?_
        show Steps p.tables e below (T132.setTop (mkF m 157 #[.val (.int p1), .val (.int p2), .val (.int (Int32.ofNat j.val)), .val (.double (mnF j.val)), .second, .val (.int (Int32.ofNat (j.val / 4))), .val (.int (3 : Int32)), .val (.ref ob), .val (.int (2 : Int32)), .val (.double (FP.ddiv (FP.ddiv (FP.dmul (WF j.val 2) (mnF j.val)) (FP.i2d ((2 : Int32) + (1 : Int32)))) (FP.dsub FP.dconst1 (FP.ddiv (mnF j.val) (FP.i2d ((2 : Int32) + (2 : Int32))))))), .second, .val (.double (WF j.val 3)), .second, .val (.double (WF j.val 4)), .second, .unset, .unset] [(.double (mnF j.val))])) _
        refine XS.iload X132.here hx rfl (hb hby at_157) rfl ?_
        show Steps p.tables e below (T132.setTop (mkF m 159 #[.val (.int p1), .val (.int p2), .val (.int (Int32.ofNat j.val)), .val (.double (mnF j.val)), .second, .val (.int (Int32.ofNat (j.val / 4))), .val (.int (3 : Int32)), .val (.ref ob), .val (.int (2 : Int32)), .val (.double (FP.ddiv (FP.ddiv (FP.dmul (WF j.val 2) (mnF j.val)) (FP.i2d ((2 : Int32) + (1 : Int32)))) (FP.dsub FP.dconst1 (FP.ddiv (mnF j.val) (FP.i2d ((2 : Int32) + (2 : Int32))))))), .second, .val (.double (WF j.val 3)), .second, .val (.double (WF j.val 4)), .second, .unset, .unset] [(.int (2 : Int32)), (.double (mnF j.val))])) _
        refine XS.iconst X132.here hx rfl (hb hby at_159) ?_
        show Steps p.tables e below (T132.setTop (mkF m 160 #[.val (.int p1), .val (.int p2), .val (.int (Int32.ofNat j.val)), .val (.double (mnF j.val)), .second, .val (.int (Int32.ofNat (j.val / 4))), .val (.int (3 : Int32)), .val (.ref ob), .val (.int (2 : Int32)), .val (.double (FP.ddiv (FP.ddiv (FP.dmul (WF j.val 2) (mnF j.val)) (FP.i2d ((2 : Int32) + (1 : Int32)))) (FP.dsub FP.dconst1 (FP.ddiv (mnF j.val) (FP.i2d ((2 : Int32) + (2 : Int32))))))), .second, .val (.double (WF j.val 3)), .second, .val (.double (WF j.val 4)), .second, .unset, .unset] [(.int (2 : Int32)), (.int (2 : Int32)), (.double (mnF j.val))])) _
        refine XS.iadd X132.here hx rfl (hb hby at_160) rfl ?_
        show Steps p.tables e below (T132.setTop (mkF m 161 #[.val (.int p1), .val (.int p2), .val (.int (Int32.ofNat j.val)), .val (.double (mnF j.val)), .second, .val (.int (Int32.ofNat (j.val / 4))), .val (.int (3 : Int32)), .val (.ref ob), .val (.int (2 : Int32)), .val (.double (FP.ddiv (FP.ddiv (FP.dmul (WF j.val 2) (mnF j.val)) (FP.i2d ((2 : Int32) + (1 : Int32)))) (FP.dsub FP.dconst1 (FP.ddiv (mnF j.val) (FP.i2d ((2 : Int32) + (2 : Int32))))))), .second, .val (.double (WF j.val 3)), .second, .val (.double (WF j.val 4)), .second, .unset, .unset] [(.int (4 : Int32)), (.double (mnF j.val))])) _
        refine XS.i2dS X132.here hx rfl (hb hby at_161) rfl hd161 ?_
        show Steps p.tables e below (T132.setTop (mkF m 162 #[.val (.int p1), .val (.int p2), .val (.int (Int32.ofNat j.val)), .val (.double (mnF j.val)), .second, .val (.int (Int32.ofNat (j.val / 4))), .val (.int (3 : Int32)), .val (.ref ob), .val (.int (2 : Int32)), .val (.double (FP.ddiv (FP.ddiv (FP.dmul (WF j.val 2) (mnF j.val)) (FP.i2d ((2 : Int32) + (1 : Int32)))) (FP.dsub FP.dconst1 (FP.ddiv (mnF j.val) (FP.i2d ((2 : Int32) + (2 : Int32))))))), .second, .val (.double (WF j.val 3)), .second, .val (.double (WF j.val 4)), .second, .unset, .unset] [(.double d161), (.double (mnF j.val))])) _
        refine XS.ddivS X132.here hx rfl (hb hby at_162) rfl n162 hd162 ?_
        show Steps p.tables e below (T132.setTop (mkF m 163 #[.val (.int p1), .val (.int p2), .val (.int (Int32.ofNat j.val)), .val (.double (mnF j.val)), .second, .val (.int (Int32.ofNat (j.val / 4))), .val (.int (3 : Int32)), .val (.ref ob), .val (.int (2 : Int32)), .val (.double (FP.ddiv (FP.ddiv (FP.dmul (WF j.val 2) (mnF j.val)) (FP.i2d ((2 : Int32) + (1 : Int32)))) (FP.dsub FP.dconst1 (FP.ddiv (mnF j.val) (FP.i2d ((2 : Int32) + (2 : Int32))))))), .second, .val (.double (WF j.val 3)), .second, .val (.double (WF j.val 4)), .second, .unset, .unset] [(.double d162)])) _
        refine XS.dstore X132.here hx rfl (hb hby at_163) rfl (l' := #[.val (.int p1), .val (.int p2), .val (.int (Int32.ofNat j.val)), .val (.double (mnF j.val)), .second, .val (.int (Int32.ofNat (j.val / 4))), .val (.int (3 : Int32)), .val (.ref ob), .val (.int (2 : Int32)), .val (.double (FP.ddiv (FP.ddiv (FP.dmul (WF j.val 2) (mnF j.val)) (FP.i2d ((2 : Int32) + (1 : Int32)))) (FP.dsub FP.dconst1 (FP.ddiv (mnF j.val) (FP.i2d ((2 : Int32) + (2 : Int32))))))), .second, .val (.double (WF j.val 3)), .second, .val (.double (WF j.val 4)), .second, .val (.double d162), .second]) rfl ?_
        show Steps p.tables e below (T132.setTop (mkF m 165 #[.val (.int p1), .val (.int p2), .val (.int (Int32.ofNat j.val)), .val (.double (mnF j.val)), .second, .val (.int (Int32.ofNat (j.val / 4))), .val (.int (3 : Int32)), .val (.ref ob), .val (.int (2 : Int32)), .val (.double (FP.ddiv (FP.ddiv (FP.dmul (WF j.val 2) (mnF j.val)) (FP.i2d ((2 : Int32) + (1 : Int32)))) (FP.dsub FP.dconst1 (FP.ddiv (mnF j.val) (FP.i2d ((2 : Int32) + (2 : Int32))))))), .second, .val (.double (WF j.val 3)), .second, .val (.double (WF j.val 4)), .second, .val (.double d162), .second] [])) _
        refine XS.dload X132.here hx rfl (hb hby at_165) rfl ?_
        show Steps p.tables e below (T132.setTop (mkF m 167 #[.val (.int p1), .val (.int p2), .val (.int (Int32.ofNat j.val)), .val (.double (mnF j.val)), .second, .val (.int (Int32.ofNat (j.val / 4))), .val (.int (3 : Int32)), .val (.ref ob), .val (.int (2 : Int32)), .val (.double (FP.ddiv (FP.ddiv (FP.dmul (WF j.val 2) (mnF j.val)) (FP.i2d ((2 : Int32) + (1 : Int32)))) (FP.dsub FP.dconst1 (FP.ddiv (mnF j.val) (FP.i2d ((2 : Int32) + (2 : Int32))))))), .second, .val (.double (WF j.val 3)), .second, .val (.double (WF j.val 4)), .second, .val (.double d162), .second] [(.double (FP.ddiv (FP.ddiv (FP.dmul (WF j.val 2) (mnF j.val)) (FP.i2d ((2 : Int32) + (1 : Int32)))) (FP.dsub FP.dconst1 (FP.ddiv (mnF j.val) (FP.i2d ((2 : Int32) + (2 : Int32)))))))])) _
        refine XS.dload X132.here hx rfl (hb hby at_167) rfl ?_
        show Steps p.tables e below (T132.setTop (mkF m 169 #[.val (.int p1), .val (.int p2), .val (.int (Int32.ofNat j.val)), .val (.double (mnF j.val)), .second, .val (.int (Int32.ofNat (j.val / 4))), .val (.int (3 : Int32)), .val (.ref ob), .val (.int (2 : Int32)), .val (.double (FP.ddiv (FP.ddiv (FP.dmul (WF j.val 2) (mnF j.val)) (FP.i2d ((2 : Int32) + (1 : Int32)))) (FP.dsub FP.dconst1 (FP.ddiv (mnF j.val) (FP.i2d ((2 : Int32) + (2 : Int32))))))), .second, .val (.double (WF j.val 3)), .second, .val (.double (WF j.val 4)), .second, .val (.double d162), .second] [(.double (WF j.val 3)), (.double (FP.ddiv (FP.ddiv (FP.dmul (WF j.val 2) (mnF j.val)) (FP.i2d ((2 : Int32) + (1 : Int32)))) (FP.dsub FP.dconst1 (FP.ddiv (mnF j.val) (FP.i2d ((2 : Int32) + (2 : Int32)))))))])) _
        refine XS.dconst1 X132.here hx rfl (hb hby at_169) rfl ?_
        show Steps p.tables e below (T132.setTop (mkF m 170 #[.val (.int p1), .val (.int p2), .val (.int (Int32.ofNat j.val)), .val (.double (mnF j.val)), .second, .val (.int (Int32.ofNat (j.val / 4))), .val (.int (3 : Int32)), .val (.ref ob), .val (.int (2 : Int32)), .val (.double (FP.ddiv (FP.ddiv (FP.dmul (WF j.val 2) (mnF j.val)) (FP.i2d ((2 : Int32) + (1 : Int32)))) (FP.dsub FP.dconst1 (FP.ddiv (mnF j.val) (FP.i2d ((2 : Int32) + (2 : Int32))))))), .second, .val (.double (WF j.val 3)), .second, .val (.double (WF j.val 4)), .second, .val (.double d162), .second] [(.double FP.dconst1), (.double (WF j.val 3)), (.double (FP.ddiv (FP.ddiv (FP.dmul (WF j.val 2) (mnF j.val)) (FP.i2d ((2 : Int32) + (1 : Int32)))) (FP.dsub FP.dconst1 (FP.ddiv (mnF j.val) (FP.i2d ((2 : Int32) + (2 : Int32)))))))])) _
        refine XS.dload X132.here hx rfl (hb hby at_170) rfl ?_
        show Steps p.tables e below (T132.setTop (mkF m 172 #[.val (.int p1), .val (.int p2), .val (.int (Int32.ofNat j.val)), .val (.double (mnF j.val)), .second, .val (.int (Int32.ofNat (j.val / 4))), .val (.int (3 : Int32)), .val (.ref ob), .val (.int (2 : Int32)), .val (.double (FP.ddiv (FP.ddiv (FP.dmul (WF j.val 2) (mnF j.val)) (FP.i2d ((2 : Int32) + (1 : Int32)))) (FP.dsub FP.dconst1 (FP.ddiv (mnF j.val) (FP.i2d ((2 : Int32) + (2 : Int32))))))), .second, .val (.double (WF j.val 3)), .second, .val (.double (WF j.val 4)), .second, .val (.double d162), .second] [(.double d162), (.double FP.dconst1), (.double (WF j.val 3)), (.double (FP.ddiv (FP.ddiv (FP.dmul (WF j.val 2) (mnF j.val)) (FP.i2d ((2 : Int32) + (1 : Int32)))) (FP.dsub FP.dconst1 (FP.ddiv (mnF j.val) (FP.i2d ((2 : Int32) + (2 : Int32)))))))])) _
        refine XS.dsubS X132.here hx rfl (hb hby at_172) rfl n172 hd172 ?_
        show Steps p.tables e below (T132.setTop (mkF m 173 #[.val (.int p1), .val (.int p2), .val (.int (Int32.ofNat j.val)), .val (.double (mnF j.val)), .second, .val (.int (Int32.ofNat (j.val / 4))), .val (.int (3 : Int32)), .val (.ref ob), .val (.int (2 : Int32)), .val (.double (FP.ddiv (FP.ddiv (FP.dmul (WF j.val 2) (mnF j.val)) (FP.i2d ((2 : Int32) + (1 : Int32)))) (FP.dsub FP.dconst1 (FP.ddiv (mnF j.val) (FP.i2d ((2 : Int32) + (2 : Int32))))))), .second, .val (.double (WF j.val 3)), .second, .val (.double (WF j.val 4)), .second, .val (.double d162), .second] [(.double d172), (.double (WF j.val 3)), (.double (FP.ddiv (FP.ddiv (FP.dmul (WF j.val 2) (mnF j.val)) (FP.i2d ((2 : Int32) + (1 : Int32)))) (FP.dsub FP.dconst1 (FP.ddiv (mnF j.val) (FP.i2d ((2 : Int32) + (2 : Int32)))))))])) _
        refine XS.ddivS X132.here hx rfl (hb hby at_173) rfl n173 hd173 ?_
        show Steps p.tables e below (T132.setTop (mkF m 174 #[.val (.int p1), .val (.int p2), .val (.int (Int32.ofNat j.val)), .val (.double (mnF j.val)), .second, .val (.int (Int32.ofNat (j.val / 4))), .val (.int (3 : Int32)), .val (.ref ob), .val (.int (2 : Int32)), .val (.double (FP.ddiv (FP.ddiv (FP.dmul (WF j.val 2) (mnF j.val)) (FP.i2d ((2 : Int32) + (1 : Int32)))) (FP.dsub FP.dconst1 (FP.ddiv (mnF j.val) (FP.i2d ((2 : Int32) + (2 : Int32))))))), .second, .val (.double (WF j.val 3)), .second, .val (.double (WF j.val 4)), .second, .val (.double d162), .second] [(.double d173), (.double (FP.ddiv (FP.ddiv (FP.dmul (WF j.val 2) (mnF j.val)) (FP.i2d ((2 : Int32) + (1 : Int32)))) (FP.dsub FP.dconst1 (FP.ddiv (mnF j.val) (FP.i2d ((2 : Int32) + (2 : Int32)))))))])) _
        refine XS.dcmpS X132.here hx rfl (hb hby at_174) rfl hk174 ?_
        show Steps p.tables e below (T132.setTop (mkF m 175 #[.val (.int p1), .val (.int p2), .val (.int (Int32.ofNat j.val)), .val (.double (mnF j.val)), .second, .val (.int (Int32.ofNat (j.val / 4))), .val (.int (3 : Int32)), .val (.ref ob), .val (.int (2 : Int32)), .val (.double (FP.ddiv (FP.ddiv (FP.dmul (WF j.val 2) (mnF j.val)) (FP.i2d ((2 : Int32) + (1 : Int32)))) (FP.dsub FP.dconst1 (FP.ddiv (mnF j.val) (FP.i2d ((2 : Int32) + (2 : Int32))))))), .second, .val (.double (WF j.val 3)), .second, .val (.double (WF j.val 4)), .second, .val (.double d162), .second] [(.int k174)])) _
        refine XS.ifNo X132.here hx rfl (hb hby at_175) rfl (XT.i0_ne_f e174) ?_
        show Steps p.tables e below (T132.setTop (mkF m 178 #[.val (.int p1), .val (.int p2), .val (.int (Int32.ofNat j.val)), .val (.double (mnF j.val)), .second, .val (.int (Int32.ofNat (j.val / 4))), .val (.int (3 : Int32)), .val (.ref ob), .val (.int (2 : Int32)), .val (.double (FP.ddiv (FP.ddiv (FP.dmul (WF j.val 2) (mnF j.val)) (FP.i2d ((2 : Int32) + (1 : Int32)))) (FP.dsub FP.dconst1 (FP.ddiv (mnF j.val) (FP.i2d ((2 : Int32) + (2 : Int32))))))), .second, .val (.double (WF j.val 3)), .second, .val (.double (WF j.val 4)), .second, .val (.double d162), .second] [])) _
        refine XS.dload X132.here hx rfl (hb hby at_178) rfl ?_
        show Steps p.tables e below (T132.setTop (mkF m 180 #[.val (.int p1), .val (.int p2), .val (.int (Int32.ofNat j.val)), .val (.double (mnF j.val)), .second, .val (.int (Int32.ofNat (j.val / 4))), .val (.int (3 : Int32)), .val (.ref ob), .val (.int (2 : Int32)), .val (.double (FP.ddiv (FP.ddiv (FP.dmul (WF j.val 2) (mnF j.val)) (FP.i2d ((2 : Int32) + (1 : Int32)))) (FP.dsub FP.dconst1 (FP.ddiv (mnF j.val) (FP.i2d ((2 : Int32) + (2 : Int32))))))), .second, .val (.double (WF j.val 3)), .second, .val (.double (WF j.val 4)), .second, .val (.double d162), .second] [(.double (FP.ddiv (FP.ddiv (FP.dmul (WF j.val 2) (mnF j.val)) (FP.i2d ((2 : Int32) + (1 : Int32)))) (FP.dsub FP.dconst1 (FP.ddiv (mnF j.val) (FP.i2d ((2 : Int32) + (2 : Int32)))))))])) _
        refine XS.dload X132.here hx rfl (hb hby at_180) rfl ?_
        show Steps p.tables e below (T132.setTop (mkF m 182 #[.val (.int p1), .val (.int p2), .val (.int (Int32.ofNat j.val)), .val (.double (mnF j.val)), .second, .val (.int (Int32.ofNat (j.val / 4))), .val (.int (3 : Int32)), .val (.ref ob), .val (.int (2 : Int32)), .val (.double (FP.ddiv (FP.ddiv (FP.dmul (WF j.val 2) (mnF j.val)) (FP.i2d ((2 : Int32) + (1 : Int32)))) (FP.dsub FP.dconst1 (FP.ddiv (mnF j.val) (FP.i2d ((2 : Int32) + (2 : Int32))))))), .second, .val (.double (WF j.val 3)), .second, .val (.double (WF j.val 4)), .second, .val (.double d162), .second] [(.double (WF j.val 3)), (.double (FP.ddiv (FP.ddiv (FP.dmul (WF j.val 2) (mnF j.val)) (FP.i2d ((2 : Int32) + (1 : Int32)))) (FP.dsub FP.dconst1 (FP.ddiv (mnF j.val) (FP.i2d ((2 : Int32) + (2 : Int32)))))))])) _
        refine XS.dload X132.here hx rfl (hb hby at_182) rfl ?_
        show Steps p.tables e below (T132.setTop (mkF m 184 #[.val (.int p1), .val (.int p2), .val (.int (Int32.ofNat j.val)), .val (.double (mnF j.val)), .second, .val (.int (Int32.ofNat (j.val / 4))), .val (.int (3 : Int32)), .val (.ref ob), .val (.int (2 : Int32)), .val (.double (FP.ddiv (FP.ddiv (FP.dmul (WF j.val 2) (mnF j.val)) (FP.i2d ((2 : Int32) + (1 : Int32)))) (FP.dsub FP.dconst1 (FP.ddiv (mnF j.val) (FP.i2d ((2 : Int32) + (2 : Int32))))))), .second, .val (.double (WF j.val 3)), .second, .val (.double (WF j.val 4)), .second, .val (.double d162), .second] [(.double (WF j.val 4)), (.double (WF j.val 3)), (.double (FP.ddiv (FP.ddiv (FP.dmul (WF j.val 2) (mnF j.val)) (FP.i2d ((2 : Int32) + (1 : Int32)))) (FP.dsub FP.dconst1 (FP.ddiv (mnF j.val) (FP.i2d ((2 : Int32) + (2 : Int32)))))))])) _
        refine XS.daddS X132.here hx rfl (hb hby at_184) rfl (nn_of l5) hd184 ?_
        show Steps p.tables e below (T132.setTop (mkF m 185 #[.val (.int p1), .val (.int p2), .val (.int (Int32.ofNat j.val)), .val (.double (mnF j.val)), .second, .val (.int (Int32.ofNat (j.val / 4))), .val (.int (3 : Int32)), .val (.ref ob), .val (.int (2 : Int32)), .val (.double (FP.ddiv (FP.ddiv (FP.dmul (WF j.val 2) (mnF j.val)) (FP.i2d ((2 : Int32) + (1 : Int32)))) (FP.dsub FP.dconst1 (FP.ddiv (mnF j.val) (FP.i2d ((2 : Int32) + (2 : Int32))))))), .second, .val (.double (WF j.val 3)), .second, .val (.double (WF j.val 4)), .second, .val (.double d162), .second] [(.double d184), (.double (FP.ddiv (FP.ddiv (FP.dmul (WF j.val 2) (mnF j.val)) (FP.i2d ((2 : Int32) + (1 : Int32)))) (FP.dsub FP.dconst1 (FP.ddiv (mnF j.val) (FP.i2d ((2 : Int32) + (2 : Int32)))))))])) _
        refine XS.dcmpS X132.here hx rfl (hb hby at_185) rfl hk185 ?_
        show Steps p.tables e below (T132.setTop (mkF m 186 #[.val (.int p1), .val (.int p2), .val (.int (Int32.ofNat j.val)), .val (.double (mnF j.val)), .second, .val (.int (Int32.ofNat (j.val / 4))), .val (.int (3 : Int32)), .val (.ref ob), .val (.int (2 : Int32)), .val (.double (FP.ddiv (FP.ddiv (FP.dmul (WF j.val 2) (mnF j.val)) (FP.i2d ((2 : Int32) + (1 : Int32)))) (FP.dsub FP.dconst1 (FP.ddiv (mnF j.val) (FP.i2d ((2 : Int32) + (2 : Int32))))))), .second, .val (.double (WF j.val 3)), .second, .val (.double (WF j.val 4)), .second, .val (.double d162), .second] [(.int k185)])) _
        refine XS.ifNo X132.here hx rfl (hb hby at_186) rfl (XT.i0_lt_f e185) ?_
        show Steps p.tables e below (T132.setTop (mkF m 189 #[.val (.int p1), .val (.int p2), .val (.int (Int32.ofNat j.val)), .val (.double (mnF j.val)), .second, .val (.int (Int32.ofNat (j.val / 4))), .val (.int (3 : Int32)), .val (.ref ob), .val (.int (2 : Int32)), .val (.double (FP.ddiv (FP.ddiv (FP.dmul (WF j.val 2) (mnF j.val)) (FP.i2d ((2 : Int32) + (1 : Int32)))) (FP.dsub FP.dconst1 (FP.ddiv (mnF j.val) (FP.i2d ((2 : Int32) + (2 : Int32))))))), .second, .val (.double (WF j.val 3)), .second, .val (.double (WF j.val 4)), .second, .val (.double d162), .second] [])) _
        refine XS.iconst X132.here hx rfl (hb hby at_189) ?_
        show Steps p.tables e below (T132.setTop (mkF m 190 #[.val (.int p1), .val (.int p2), .val (.int (Int32.ofNat j.val)), .val (.double (mnF j.val)), .second, .val (.int (Int32.ofNat (j.val / 4))), .val (.int (3 : Int32)), .val (.ref ob), .val (.int (2 : Int32)), .val (.double (FP.ddiv (FP.ddiv (FP.dmul (WF j.val 2) (mnF j.val)) (FP.i2d ((2 : Int32) + (1 : Int32)))) (FP.dsub FP.dconst1 (FP.ddiv (mnF j.val) (FP.i2d ((2 : Int32) + (2 : Int32))))))), .second, .val (.double (WF j.val 3)), .second, .val (.double (WF j.val 4)), .second, .val (.double d162), .second] [(.int (1 : Int32))])) _
        refine XS.goto X132.here hx rfl (pc0 := 190) (pc' := 194) rfl (hb hby at_190) (by decide) (by decide) ?_
        show Steps p.tables e below (T132.setTop (mkF m 194 #[.val (.int p1), .val (.int p2), .val (.int (Int32.ofNat j.val)), .val (.double (mnF j.val)), .second, .val (.int (Int32.ofNat (j.val / 4))), .val (.int (3 : Int32)), .val (.ref ob), .val (.int (2 : Int32)), .val (.double (FP.ddiv (FP.ddiv (FP.dmul (WF j.val 2) (mnF j.val)) (FP.i2d ((2 : Int32) + (1 : Int32)))) (FP.dsub FP.dconst1 (FP.ddiv (mnF j.val) (FP.i2d ((2 : Int32) + (2 : Int32))))))), .second, .val (.double (WF j.val 3)), .second, .val (.double (WF j.val 4)), .second, .val (.double d162), .second] [(.int (1 : Int32))])) _
        exact k)
      obtain ⟨fs, hr, hrun, hended, hW, hsame⟩ := X132.leave (v := (some (.int (1 : Int32)))) (fun h => by rw [Bd.returns] at h; cases h)
      refine ⟨_, _, pre0 _ (c136 _ (retN X132 hx (t := .boolean) Bd.returns (by simp) (hb hby at_194) hr)), hrun, hended, _, _, rfl, ?_, ⟨_, rfl⟩, hW, hsame.mono (by decide) (by decide)⟩
      show Q_0 Z p1 p2 h0 n0 _ T132.heap _
      exact ⟨rfl, M132⟩
  · rw [nk] at c3
    obtain ⟨T137, h137, X137, e137, E137, A137, D137, -, st137⟩ := newO X0 hx hZ hown (hw _ (List.mem_of_getElem? (i := 2) rfl)) (hw _ (List.mem_of_getElem? (i := 3) rfl)) (hw _ (List.mem_of_getElem? (i := 4) rfl)) e0 (g := (mkF m 26 #[.val (.int p1), .val (.int p2), .val (.int (Int32.ofNat j.val)), .val (.double (mnF j.val)), .second, .val (.int (Int32.ofNat (j.val / 4))), .val (.int (4 : Int32)), .unset, .unset, .unset, .unset, .unset, .unset, .unset, .unset, .unset, .unset] [])) rfl (hb hby at_26) (by decide) (by decide)
    obtain ⟨ob, g137⟩ : ∃ z, z = h0.size := ⟨_, rfl⟩
    rw [← g137] at A137 D137 st137
    have F138 : Fld Z h137 ob "com/example/topple/topple/markov/PoissonWeights" "count" "I" (.int (0 : Int32)) := (D137 (Or.inl (hw _ (List.mem_of_getElem? (i := 12) rfl))) (ty := .int) (by decide))
    have F139 : Fld Z h137 ob "com/example/topple/topple/markov/PoissonWeights" "mean" "D" (.double (0 : UInt64)) := (D137 (Or.inr (hw _ (List.mem_of_getElem? (i := 14) rfl))) (ty := .double) (by decide))
    have F140 : Fld Z h137 ob "com/example/topple/topple/markov/PoissonWeights" "mode" "I" (.int (0 : Int32)) := (D137 (Or.inr (hw _ (List.mem_of_getElem? (i := 16) rfl))) (ty := .int) (by decide))
    have F141 : Fld Z h137 ob "com/example/topple/topple/markov/PoissonWeights" "fewest" "I" (.int (0 : Int32)) := (D137 (Or.inr (hw _ (List.mem_of_getElem? (i := 18) rfl))) (ty := .int) (by decide))
    have F142 : Fld Z h137 ob "com/example/topple/topple/markov/PoissonWeights" "toMode" "[D" .null := (D137 (Or.inr (hw _ (List.mem_of_getElem? (i := 21) rfl))) (ty := (.array .double)) (by decide))
    have F143 : Fld Z h137 ob "com/example/topple/topple/markov/PoissonWeights" "weight" "D" (.double (0 : UInt64)) := (D137 (Or.inl (hw _ (List.mem_of_getElem? (i := 28) rfl))) (ty := .double) (by decide))
    have c144 : ∀ t, Steps p.tables e below (T137.setTop (mkF m 29 #[.val (.int p1), .val (.int p2), .val (.int (Int32.ofNat j.val)), .val (.double (mnF j.val)), .second, .val (.int (Int32.ofNat (j.val / 4))), .val (.int (4 : Int32)), .unset, .unset, .unset, .unset, .unset, .unset, .unset, .unset, .unset, .unset] [(.ref ob)])) t → Steps p.tables e below (s₁.setTop (entryFrame m #[(.int p1), (.int p2)] maxLocals)) t := fun t k => c3 t (st137 _ k)
    have c145 : ∀ t, Steps p.tables e below (T137.setTop (mkF m 31 #[.val (.int p1), .val (.int p2), .val (.int (Int32.ofNat j.val)), .val (.double (mnF j.val)), .second, .val (.int (Int32.ofNat (j.val / 4))), .val (.int (4 : Int32)), .unset, .unset, .unset, .unset, .unset, .unset, .unset, .unset, .unset, .unset] [(.double (mnF j.val)), (.ref ob), (.ref ob)])) t → Steps p.tables e below (s₁.setTop (entryFrame m #[(.int p1), (.int p2)] maxLocals)) t := fun t k => c144 t (by
      show Steps p.tables e below (T137.setTop (mkF m 29 #[.val (.int p1), .val (.int p2), .val (.int (Int32.ofNat j.val)), .val (.double (mnF j.val)), .second, .val (.int (Int32.ofNat (j.val / 4))), .val (.int (4 : Int32)), .unset, .unset, .unset, .unset, .unset, .unset, .unset, .unset, .unset, .unset] [(.ref ob)])) _
      refine XS.dup X137.here hx rfl (hb hby at_29) rfl rfl ?_
      show Steps p.tables e below (T137.setTop (mkF m 30 #[.val (.int p1), .val (.int p2), .val (.int (Int32.ofNat j.val)), .val (.double (mnF j.val)), .second, .val (.int (Int32.ofNat (j.val / 4))), .val (.int (4 : Int32)), .unset, .unset, .unset, .unset, .unset, .unset, .unset, .unset, .unset, .unset] [(.ref ob), (.ref ob)])) _
      refine XS.dloadN X137.here hx rfl (hb hby at_30) rfl ?_
      show Steps p.tables e below (T137.setTop (mkF m 31 #[.val (.int p1), .val (.int p2), .val (.int (Int32.ofNat j.val)), .val (.double (mnF j.val)), .second, .val (.int (Int32.ofNat (j.val / 4))), .val (.int (4 : Int32)), .unset, .unset, .unset, .unset, .unset, .unset, .unset, .unset, .unset, .unset] [(.double (mnF j.val)), (.ref ob), (.ref ob)])) _
      exact k)
    obtain ⟨_, _, ⟨T146, L146, k146', n146⟩, -, X146, ⟨Lc146, hQ146, l146, y146, z146⟩, st146⟩ := X137.specialBack hx (y := (⟨"com/example/topple/topple/markov/PoissonWeights", "<init>", "(D)V"⟩ : MethodName)) rfl hown (mvT hZ (hw _ (List.mem_of_getElem? (i := 5) rfl))) (mvT hZ (hw _ (List.mem_of_getElem? (i := 6) rfl))) (mvT hZ (hw _ (List.mem_of_getElem? (i := 7) rfl))) (by decide) (backOf (W := 1) (rm_ct l Z a0 hw [] ob (mnF j.val) (j.val / 4) 0 (prF j.val) (tmF j.val) h137 n0 (Nat.le_trans Z0 E137.1) A137 F138 F139 F140 F141 F142 F143 (Nat.le_trans Z0 (Nat.le_of_eq g137.symm)) (by omega) (Nat.zero_le _) (by omega) (mn_md j) rfl (fun k hk => by
          obtain ⟨x1, x2, x3⟩ := hp_c j ⟨k, by omega⟩ hk
          exact ⟨nn_of x1, rfl, nn_of x2, x3⟩) (Or.inl rfl) rfl (fun k hk => by
          obtain ⟨x1, x2⟩ := ht_c j ⟨k, by omega⟩ hk
          exact ⟨nn_of x1, nn_of x2, rfl⟩)) hZ (hw _ (List.mem_of_getElem? (i := 7) rfl)) (hw _ (List.mem_of_getElem? (i := 4) rfl)) (by decide) (by decide)) (g := (mkF m 31 #[.val (.int p1), .val (.int p2), .val (.int (Int32.ofNat j.val)), .val (.double (mnF j.val)), .second, .val (.int (Int32.ofNat (j.val / 4))), .val (.int (4 : Int32)), .unset, .unset, .unset, .unset, .unset, .unset, .unset, .unset, .unset, .unset] [(.double (mnF j.val)), (.ref ob), (.ref ob)])) rfl (by rw [hml]; rfl) (Steps.refl _) (a := ob) (argsL := [(.double (mnF j.val))]) (rest := [(.ref ob)]) (lenOf pd__D_V rfl) rfl (by show 2 * 0 + _ ≤ _; exact Nat.le_of_eq rfl) (hb hby at_31) (fun _ _ => ⟨rfl, e137, (by decide : 1 + 1 ≤ _), (by decide : 6 + 8 ≤ _)⟩)
    dsimp only [Pt.U, Pt.locs, Pt.cells, Pt.slots] at X146 l146 y146 z146 st146 hQ146
    subst l146 y146 z146
    obtain ⟨ta, rfl, N146, K146, ne146, G146_0, G146_1, G146_2, G146_3, G146_4, G146_5, G146_6, G146_7⟩ := hQ146
    have M146 := Fr.app N0 N146
    have F147 : Exa Z T146.heap ob "com/example/topple/topple/markov/PoissonWeights" := (A137.keep K146)
    have c148 : ∀ t, Steps p.tables e below (T146.setTop (mkF m 34 #[.val (.int p1), .val (.int p2), .val (.int (Int32.ofNat j.val)), .val (.double (mnF j.val)), .second, .val (.int (Int32.ofNat (j.val / 4))), .val (.int (4 : Int32)), .unset, .unset, .unset, .unset, .unset, .unset, .unset, .unset, .unset, .unset] [(.ref ob)])) t → Steps p.tables e below (s₁.setTop (entryFrame m #[(.int p1), (.int p2)] maxLocals)) t := fun t k => c145 t (st146.trans k)
    have c149 : ∀ t, Steps p.tables e below (T146.setTop (mkF m 43 #[.val (.int p1), .val (.int p2), .val (.int (Int32.ofNat j.val)), .val (.double (mnF j.val)), .second, .val (.int (Int32.ofNat (j.val / 4))), .val (.int (4 : Int32)), .val (.ref ob), .unset, .unset, .unset, .unset, .unset, .unset, .unset, .unset, .unset] [(.ref ob)])) t → Steps p.tables e below (s₁.setTop (entryFrame m #[(.int p1), (.int p2)] maxLocals)) t := fun t k => c148 t (by
      show Steps p.tables e below (T146.setTop (mkF m 34 #[.val (.int p1), .val (.int p2), .val (.int (Int32.ofNat j.val)), .val (.double (mnF j.val)), .second, .val (.int (Int32.ofNat (j.val / 4))), .val (.int (4 : Int32)), .unset, .unset, .unset, .unset, .unset, .unset, .unset, .unset, .unset, .unset] [(.ref ob)])) _
      refine XS.astore X146.here hx rfl (hb hby at_34) rfl rfl (l' := #[.val (.int p1), .val (.int p2), .val (.int (Int32.ofNat j.val)), .val (.double (mnF j.val)), .second, .val (.int (Int32.ofNat (j.val / 4))), .val (.int (4 : Int32)), .val (.ref ob), .unset, .unset, .unset, .unset, .unset, .unset, .unset, .unset, .unset]) rfl ?_
      show Steps p.tables e below (T146.setTop (mkF m 36 #[.val (.int p1), .val (.int p2), .val (.int (Int32.ofNat j.val)), .val (.double (mnF j.val)), .second, .val (.int (Int32.ofNat (j.val / 4))), .val (.int (4 : Int32)), .val (.ref ob), .unset, .unset, .unset, .unset, .unset, .unset, .unset, .unset, .unset] [])) _
      refine XS.iload X146.here hx rfl (hb hby at_36) rfl ?_
      show Steps p.tables e below (T146.setTop (mkF m 38 #[.val (.int p1), .val (.int p2), .val (.int (Int32.ofNat j.val)), .val (.double (mnF j.val)), .second, .val (.int (Int32.ofNat (j.val / 4))), .val (.int (4 : Int32)), .val (.ref ob), .unset, .unset, .unset, .unset, .unset, .unset, .unset, .unset, .unset] [(.int (4 : Int32))])) _
      refine XS.ifNo X146.here hx rfl (hb hby at_38) rfl (XT.i0_le_f (by decide)) ?_
      show Steps p.tables e below (T146.setTop (mkF m 41 #[.val (.int p1), .val (.int p2), .val (.int (Int32.ofNat j.val)), .val (.double (mnF j.val)), .second, .val (.int (Int32.ofNat (j.val / 4))), .val (.int (4 : Int32)), .val (.ref ob), .unset, .unset, .unset, .unset, .unset, .unset, .unset, .unset, .unset] [])) _
      refine XS.aload X146.here hx rfl (hb hby at_41) rfl rfl ?_
      show Steps p.tables e below (T146.setTop (mkF m 43 #[.val (.int p1), .val (.int p2), .val (.int (Int32.ofNat j.val)), .val (.double (mnF j.val)), .second, .val (.int (Int32.ofNat (j.val / 4))), .val (.int (4 : Int32)), .val (.ref ob), .unset, .unset, .unset, .unset, .unset, .unset, .unset, .unset, .unset] [(.ref ob)])) _
      exact k)
    obtain ⟨cq150, kq150, q150a, q150b, q150c⟩ := isOf hZ rfl G146_0
    obtain ⟨_, _, ⟨T150, L150, k150', n150⟩, -, X150, ⟨Lc150, hQ150, l150, y150, z150⟩, st150⟩ := X146.virtualBack hx (y := (⟨"com/example/topple/topple/markov/PoissonWeights", "next", "()D"⟩ : MethodName)) (z := (⟨"com/example/topple/topple/markov/PoissonWeights", "next", "()D"⟩ : MethodName)) hown (mvT hZ (hw _ (List.mem_of_getElem? (i := 22) rfl))) (mvT hZ (hw _ (List.mem_of_getElem? (i := 23) rfl))) (notFace_of_selects (args := #[]) (mvT hZ (hw _ (List.mem_of_getElem? (i := 25) rfl)))) (mvT hZ (hw _ (List.mem_of_getElem? (i := 25) rfl))) (mvT hZ (hw _ (List.mem_of_getElem? (i := 24) rfl))) (by decide) (backOf (W := 0) (rm_nx l Z a0 hw [] ob ta (mnF j.val) (-1 : Int32) (0 : Int32) (Int32.ofNat (j.val / 4)) (Int32.ofNat 0) (0 : UInt64) (WF j.val 0) (j.val / 4 - 0 + 1) 0 (fun i => tmF j.val (j.val / 4 - 0 - i)) T146.heap n0 (Nat.le_trans (Nat.le_trans Z0 E137.1) K146.1) G146_0 G146_1 G146_2 G146_3 G146_4 G146_5 G146_6 (Nat.le_trans Z0 (Nat.le_of_eq g137.symm)) (by decide) ne146 G146_7 (by decide) (nlo_0 j) (fun q => by
          obtain ⟨x1, x2, x3⟩ := nhi_0 j q
          exact ⟨nn_of x1, nn_of x2, x3⟩)) hZ (hw _ (List.mem_of_getElem? (i := 26) rfl)) (hw _ (List.mem_of_getElem? (i := 4) rfl)) (by decide) (by decide)) q150a q150c (g := (mkF m 43 #[.val (.int p1), .val (.int p2), .val (.int (Int32.ofNat j.val)), .val (.double (mnF j.val)), .second, .val (.int (Int32.ofNat (j.val / 4))), .val (.int (4 : Int32)), .val (.ref ob), .unset, .unset, .unset, .unset, .unset, .unset, .unset, .unset, .unset] [(.ref ob)])) rfl (by rw [hml]; rfl) (Steps.refl _) (argsL := []) (rest := []) (lenOf pd___D rfl) rfl (by show 2 * 0 + _ ≤ _; exact Nat.le_of_eq rfl) (hb hby at_43) (fun _ _ => ⟨rfl, rfl, (by decide : 2 + 0 ≤ _), (by decide : 14 + 0 ≤ _)⟩)
    dsimp only [Pt.U, Pt.locs, Pt.cells, Pt.slots] at X150 l150 y150 z150 st150 hQ150
    subst l150 y150 z150
    obtain ⟨rfl, N150, K150, G150_0, G150_1, G150_2, G150_3, G150_4, G150_5, G150_6⟩ := hQ150
    have M150 := Fr.app M146 N150
    have F151 : Exa Z T150.heap ob "com/example/topple/topple/markov/PoissonWeights" := (G146_0.keep K150)
    have F152 : OwnArr.Ag Z T150.heap ta .double (j.val / 4 - 0 + 1) (fun i => .double (tmF j.val (j.val / 4 - 0 - i))) := (G146_7.keep K150 (ninS ne146 nin0))
    have c153 : ∀ t, Steps p.tables e below (T150.setTop (mkF m 46 #[.val (.int p1), .val (.int p2), .val (.int (Int32.ofNat j.val)), .val (.double (mnF j.val)), .second, .val (.int (Int32.ofNat (j.val / 4))), .val (.int (4 : Int32)), .val (.ref ob), .unset, .unset, .unset, .unset, .unset, .unset, .unset, .unset, .unset] [(.double (WF j.val 0))])) t → Steps p.tables e below (s₁.setTop (entryFrame m #[(.int p1), (.int p2)] maxLocals)) t := fun t k => c149 t (st150.trans k)
    have c154 : ∀ t, Steps p.tables e below (T150.setTop (mkF m 55 #[.val (.int p1), .val (.int p2), .val (.int (Int32.ofNat j.val)), .val (.double (mnF j.val)), .second, .val (.int (Int32.ofNat (j.val / 4))), .val (.int (4 : Int32)), .val (.ref ob), .unset, .unset, .unset, .unset, .unset, .unset, .unset, .unset, .unset] [(.ref ob)])) t → Steps p.tables e below (s₁.setTop (entryFrame m #[(.int p1), (.int p2)] maxLocals)) t := fun t k => c153 t (by
      show Steps p.tables e below (T150.setTop (mkF m 46 #[.val (.int p1), .val (.int p2), .val (.int (Int32.ofNat j.val)), .val (.double (mnF j.val)), .second, .val (.int (Int32.ofNat (j.val / 4))), .val (.int (4 : Int32)), .val (.ref ob), .unset, .unset, .unset, .unset, .unset, .unset, .unset, .unset, .unset] [(.double (WF j.val 0))])) _
      refine Jvm.OwnP2.pop2D X150.here hx rfl (hb hby at_46) rfl ?_
      show Steps p.tables e below (T150.setTop (mkF m 47 #[.val (.int p1), .val (.int p2), .val (.int (Int32.ofNat j.val)), .val (.double (mnF j.val)), .second, .val (.int (Int32.ofNat (j.val / 4))), .val (.int (4 : Int32)), .val (.ref ob), .unset, .unset, .unset, .unset, .unset, .unset, .unset, .unset, .unset] [])) _
      refine XS.iload X150.here hx rfl (hb hby at_47) rfl ?_
      show Steps p.tables e below (T150.setTop (mkF m 49 #[.val (.int p1), .val (.int p2), .val (.int (Int32.ofNat j.val)), .val (.double (mnF j.val)), .second, .val (.int (Int32.ofNat (j.val / 4))), .val (.int (4 : Int32)), .val (.ref ob), .unset, .unset, .unset, .unset, .unset, .unset, .unset, .unset, .unset] [(.int (4 : Int32))])) _
      refine XS.iconst X150.here hx rfl (hb hby at_49) ?_
      show Steps p.tables e below (T150.setTop (mkF m 50 #[.val (.int p1), .val (.int p2), .val (.int (Int32.ofNat j.val)), .val (.double (mnF j.val)), .second, .val (.int (Int32.ofNat (j.val / 4))), .val (.int (4 : Int32)), .val (.ref ob), .unset, .unset, .unset, .unset, .unset, .unset, .unset, .unset, .unset] [(.int (1 : Int32)), (.int (4 : Int32))])) _
      refine XS.icmpNo X150.here hx rfl (hb hby at_50) rfl (XT.ii_le_f (by decide)) ?_
      show Steps p.tables e below (T150.setTop (mkF m 53 #[.val (.int p1), .val (.int p2), .val (.int (Int32.ofNat j.val)), .val (.double (mnF j.val)), .second, .val (.int (Int32.ofNat (j.val / 4))), .val (.int (4 : Int32)), .val (.ref ob), .unset, .unset, .unset, .unset, .unset, .unset, .unset, .unset, .unset] [])) _
      refine XS.aload X150.here hx rfl (hb hby at_53) rfl rfl ?_
      show Steps p.tables e below (T150.setTop (mkF m 55 #[.val (.int p1), .val (.int p2), .val (.int (Int32.ofNat j.val)), .val (.double (mnF j.val)), .second, .val (.int (Int32.ofNat (j.val / 4))), .val (.int (4 : Int32)), .val (.ref ob), .unset, .unset, .unset, .unset, .unset, .unset, .unset, .unset, .unset] [(.ref ob)])) _
      exact k)
    obtain ⟨cq155, kq155, q155a, q155b, q155c⟩ := isOf hZ rfl G150_0
    obtain ⟨_, _, ⟨T155, L155, k155', n155⟩, -, X155, ⟨Lc155, hQ155, l155, y155, z155⟩, st155⟩ := X150.virtualBack hx (y := (⟨"com/example/topple/topple/markov/PoissonWeights", "next", "()D"⟩ : MethodName)) (z := (⟨"com/example/topple/topple/markov/PoissonWeights", "next", "()D"⟩ : MethodName)) hown (mvT hZ (hw _ (List.mem_of_getElem? (i := 22) rfl))) (mvT hZ (hw _ (List.mem_of_getElem? (i := 23) rfl))) (notFace_of_selects (args := #[]) (mvT hZ (hw _ (List.mem_of_getElem? (i := 25) rfl)))) (mvT hZ (hw _ (List.mem_of_getElem? (i := 25) rfl))) (mvT hZ (hw _ (List.mem_of_getElem? (i := 24) rfl))) (by decide) (backOf (W := 0) (rm_nx l Z a0 hw [] ob ta (mnF j.val) (0 : Int32) (1 : Int32) (Int32.ofNat (j.val / 4)) (Int32.ofNat 0) (WF j.val 0) (WF j.val 1) (j.val / 4 - 0 + 1) 1 (fun i => tmF j.val (j.val / 4 - 0 - i)) T150.heap n0 (Nat.le_trans (Nat.le_trans (Nat.le_trans Z0 E137.1) K146.1) K150.1) G150_0 G150_1 G150_2 G150_3 G150_4 G150_5 G150_6 (Nat.le_trans Z0 (Nat.le_of_eq g137.symm)) (by decide) ne146 F152 (by decide) (nlo_1 j) (fun q => by
          obtain ⟨x1, x2, x3⟩ := nhi_1 j q
          exact ⟨nn_of x1, nn_of x2, x3⟩)) hZ (hw _ (List.mem_of_getElem? (i := 26) rfl)) (hw _ (List.mem_of_getElem? (i := 4) rfl)) (by decide) (by decide)) q155a q155c (g := (mkF m 55 #[.val (.int p1), .val (.int p2), .val (.int (Int32.ofNat j.val)), .val (.double (mnF j.val)), .second, .val (.int (Int32.ofNat (j.val / 4))), .val (.int (4 : Int32)), .val (.ref ob), .unset, .unset, .unset, .unset, .unset, .unset, .unset, .unset, .unset] [(.ref ob)])) rfl (by rw [hml]; rfl) (Steps.refl _) (argsL := []) (rest := []) (lenOf pd___D rfl) rfl (by show 2 * 0 + _ ≤ _; exact Nat.le_of_eq rfl) (hb hby at_55) (fun _ _ => ⟨rfl, rfl, (by decide : 2 + 0 ≤ _), (by decide : 14 + 0 ≤ _)⟩)
    dsimp only [Pt.U, Pt.locs, Pt.cells, Pt.slots] at X155 l155 y155 z155 st155 hQ155
    subst l155 y155 z155
    obtain ⟨rfl, N155, K155, G155_0, G155_1, G155_2, G155_3, G155_4, G155_5, G155_6⟩ := hQ155
    have M155 := Fr.app M150 N155
    have F156 : Exa Z T155.heap ob "com/example/topple/topple/markov/PoissonWeights" := (G150_0.keep K155)
    have F157 : OwnArr.Ag Z T155.heap ta .double (j.val / 4 - 0 + 1) (fun i => .double (tmF j.val (j.val / 4 - 0 - i))) := (F152.keep K155 (ninS ne146 nin0))
    have c158 : ∀ t, Steps p.tables e below (T155.setTop (mkF m 58 #[.val (.int p1), .val (.int p2), .val (.int (Int32.ofNat j.val)), .val (.double (mnF j.val)), .second, .val (.int (Int32.ofNat (j.val / 4))), .val (.int (4 : Int32)), .val (.ref ob), .unset, .unset, .unset, .unset, .unset, .unset, .unset, .unset, .unset] [(.double (WF j.val 1))])) t → Steps p.tables e below (s₁.setTop (entryFrame m #[(.int p1), (.int p2)] maxLocals)) t := fun t k => c154 t (st155.trans k)
    have c159 : ∀ t, Steps p.tables e below (T155.setTop (mkF m 67 #[.val (.int p1), .val (.int p2), .val (.int (Int32.ofNat j.val)), .val (.double (mnF j.val)), .second, .val (.int (Int32.ofNat (j.val / 4))), .val (.int (4 : Int32)), .val (.ref ob), .unset, .unset, .unset, .unset, .unset, .unset, .unset, .unset, .unset] [(.ref ob)])) t → Steps p.tables e below (s₁.setTop (entryFrame m #[(.int p1), (.int p2)] maxLocals)) t := fun t k => c158 t (by
      show Steps p.tables e below (T155.setTop (mkF m 58 #[.val (.int p1), .val (.int p2), .val (.int (Int32.ofNat j.val)), .val (.double (mnF j.val)), .second, .val (.int (Int32.ofNat (j.val / 4))), .val (.int (4 : Int32)), .val (.ref ob), .unset, .unset, .unset, .unset, .unset, .unset, .unset, .unset, .unset] [(.double (WF j.val 1))])) _
      refine Jvm.OwnP2.pop2D X155.here hx rfl (hb hby at_58) rfl ?_
      show Steps p.tables e below (T155.setTop (mkF m 59 #[.val (.int p1), .val (.int p2), .val (.int (Int32.ofNat j.val)), .val (.double (mnF j.val)), .second, .val (.int (Int32.ofNat (j.val / 4))), .val (.int (4 : Int32)), .val (.ref ob), .unset, .unset, .unset, .unset, .unset, .unset, .unset, .unset, .unset] [])) _
      refine XS.iload X155.here hx rfl (hb hby at_59) rfl ?_
      show Steps p.tables e below (T155.setTop (mkF m 61 #[.val (.int p1), .val (.int p2), .val (.int (Int32.ofNat j.val)), .val (.double (mnF j.val)), .second, .val (.int (Int32.ofNat (j.val / 4))), .val (.int (4 : Int32)), .val (.ref ob), .unset, .unset, .unset, .unset, .unset, .unset, .unset, .unset, .unset] [(.int (4 : Int32))])) _
      refine XS.iconst X155.here hx rfl (hb hby at_61) ?_
      show Steps p.tables e below (T155.setTop (mkF m 62 #[.val (.int p1), .val (.int p2), .val (.int (Int32.ofNat j.val)), .val (.double (mnF j.val)), .second, .val (.int (Int32.ofNat (j.val / 4))), .val (.int (4 : Int32)), .val (.ref ob), .unset, .unset, .unset, .unset, .unset, .unset, .unset, .unset, .unset] [(.int (2 : Int32)), (.int (4 : Int32))])) _
      refine XS.icmpNo X155.here hx rfl (hb hby at_62) rfl (XT.ii_le_f (by decide)) ?_
      show Steps p.tables e below (T155.setTop (mkF m 65 #[.val (.int p1), .val (.int p2), .val (.int (Int32.ofNat j.val)), .val (.double (mnF j.val)), .second, .val (.int (Int32.ofNat (j.val / 4))), .val (.int (4 : Int32)), .val (.ref ob), .unset, .unset, .unset, .unset, .unset, .unset, .unset, .unset, .unset] [])) _
      refine XS.aload X155.here hx rfl (hb hby at_65) rfl rfl ?_
      show Steps p.tables e below (T155.setTop (mkF m 67 #[.val (.int p1), .val (.int p2), .val (.int (Int32.ofNat j.val)), .val (.double (mnF j.val)), .second, .val (.int (Int32.ofNat (j.val / 4))), .val (.int (4 : Int32)), .val (.ref ob), .unset, .unset, .unset, .unset, .unset, .unset, .unset, .unset, .unset] [(.ref ob)])) _
      exact k)
    obtain ⟨cq160, kq160, q160a, q160b, q160c⟩ := isOf hZ rfl G155_0
    obtain ⟨_, _, ⟨T160, L160, k160', n160⟩, -, X160, ⟨Lc160, hQ160, l160, y160, z160⟩, st160⟩ := X155.virtualBack hx (y := (⟨"com/example/topple/topple/markov/PoissonWeights", "next", "()D"⟩ : MethodName)) (z := (⟨"com/example/topple/topple/markov/PoissonWeights", "next", "()D"⟩ : MethodName)) hown (mvT hZ (hw _ (List.mem_of_getElem? (i := 22) rfl))) (mvT hZ (hw _ (List.mem_of_getElem? (i := 23) rfl))) (notFace_of_selects (args := #[]) (mvT hZ (hw _ (List.mem_of_getElem? (i := 25) rfl)))) (mvT hZ (hw _ (List.mem_of_getElem? (i := 25) rfl))) (mvT hZ (hw _ (List.mem_of_getElem? (i := 24) rfl))) (by decide) (backOf (W := 0) (rm_nx l Z a0 hw [] ob ta (mnF j.val) (1 : Int32) (2 : Int32) (Int32.ofNat (j.val / 4)) (Int32.ofNat 0) (WF j.val 1) (WF j.val 2) (j.val / 4 - 0 + 1) 2 (fun i => tmF j.val (j.val / 4 - 0 - i)) T155.heap n0 (Nat.le_trans (Nat.le_trans (Nat.le_trans (Nat.le_trans Z0 E137.1) K146.1) K150.1) K155.1) G155_0 G155_1 G155_2 G155_3 G155_4 G155_5 G155_6 (Nat.le_trans Z0 (Nat.le_of_eq g137.symm)) (by decide) ne146 F157 (by decide) (nlo_2 j) (fun q => by
          obtain ⟨x1, x2, x3⟩ := nhi_2 j q
          exact ⟨nn_of x1, nn_of x2, x3⟩)) hZ (hw _ (List.mem_of_getElem? (i := 26) rfl)) (hw _ (List.mem_of_getElem? (i := 4) rfl)) (by decide) (by decide)) q160a q160c (g := (mkF m 67 #[.val (.int p1), .val (.int p2), .val (.int (Int32.ofNat j.val)), .val (.double (mnF j.val)), .second, .val (.int (Int32.ofNat (j.val / 4))), .val (.int (4 : Int32)), .val (.ref ob), .unset, .unset, .unset, .unset, .unset, .unset, .unset, .unset, .unset] [(.ref ob)])) rfl (by rw [hml]; rfl) (Steps.refl _) (argsL := []) (rest := []) (lenOf pd___D rfl) rfl (by show 2 * 0 + _ ≤ _; exact Nat.le_of_eq rfl) (hb hby at_67) (fun _ _ => ⟨rfl, rfl, (by decide : 2 + 0 ≤ _), (by decide : 14 + 0 ≤ _)⟩)
    dsimp only [Pt.U, Pt.locs, Pt.cells, Pt.slots] at X160 l160 y160 z160 st160 hQ160
    subst l160 y160 z160
    obtain ⟨rfl, N160, K160, G160_0, G160_1, G160_2, G160_3, G160_4, G160_5, G160_6⟩ := hQ160
    have M160 := Fr.app M155 N160
    have F161 : Exa Z T160.heap ob "com/example/topple/topple/markov/PoissonWeights" := (G155_0.keep K160)
    have F162 : OwnArr.Ag Z T160.heap ta .double (j.val / 4 - 0 + 1) (fun i => .double (tmF j.val (j.val / 4 - 0 - i))) := (F157.keep K160 (ninS ne146 nin0))
    have c163 : ∀ t, Steps p.tables e below (T160.setTop (mkF m 70 #[.val (.int p1), .val (.int p2), .val (.int (Int32.ofNat j.val)), .val (.double (mnF j.val)), .second, .val (.int (Int32.ofNat (j.val / 4))), .val (.int (4 : Int32)), .val (.ref ob), .unset, .unset, .unset, .unset, .unset, .unset, .unset, .unset, .unset] [(.double (WF j.val 2))])) t → Steps p.tables e below (s₁.setTop (entryFrame m #[(.int p1), (.int p2)] maxLocals)) t := fun t k => c159 t (st160.trans k)
    have c164 : ∀ t, Steps p.tables e below (T160.setTop (mkF m 79 #[.val (.int p1), .val (.int p2), .val (.int (Int32.ofNat j.val)), .val (.double (mnF j.val)), .second, .val (.int (Int32.ofNat (j.val / 4))), .val (.int (4 : Int32)), .val (.ref ob), .unset, .unset, .unset, .unset, .unset, .unset, .unset, .unset, .unset] [(.ref ob)])) t → Steps p.tables e below (s₁.setTop (entryFrame m #[(.int p1), (.int p2)] maxLocals)) t := fun t k => c163 t (by
      show Steps p.tables e below (T160.setTop (mkF m 70 #[.val (.int p1), .val (.int p2), .val (.int (Int32.ofNat j.val)), .val (.double (mnF j.val)), .second, .val (.int (Int32.ofNat (j.val / 4))), .val (.int (4 : Int32)), .val (.ref ob), .unset, .unset, .unset, .unset, .unset, .unset, .unset, .unset, .unset] [(.double (WF j.val 2))])) _
      refine Jvm.OwnP2.pop2D X160.here hx rfl (hb hby at_70) rfl ?_
      show Steps p.tables e below (T160.setTop (mkF m 71 #[.val (.int p1), .val (.int p2), .val (.int (Int32.ofNat j.val)), .val (.double (mnF j.val)), .second, .val (.int (Int32.ofNat (j.val / 4))), .val (.int (4 : Int32)), .val (.ref ob), .unset, .unset, .unset, .unset, .unset, .unset, .unset, .unset, .unset] [])) _
      refine XS.iload X160.here hx rfl (hb hby at_71) rfl ?_
      show Steps p.tables e below (T160.setTop (mkF m 73 #[.val (.int p1), .val (.int p2), .val (.int (Int32.ofNat j.val)), .val (.double (mnF j.val)), .second, .val (.int (Int32.ofNat (j.val / 4))), .val (.int (4 : Int32)), .val (.ref ob), .unset, .unset, .unset, .unset, .unset, .unset, .unset, .unset, .unset] [(.int (4 : Int32))])) _
      refine XS.iconst X160.here hx rfl (hb hby at_73) ?_
      show Steps p.tables e below (T160.setTop (mkF m 74 #[.val (.int p1), .val (.int p2), .val (.int (Int32.ofNat j.val)), .val (.double (mnF j.val)), .second, .val (.int (Int32.ofNat (j.val / 4))), .val (.int (4 : Int32)), .val (.ref ob), .unset, .unset, .unset, .unset, .unset, .unset, .unset, .unset, .unset] [(.int (3 : Int32)), (.int (4 : Int32))])) _
      refine XS.icmpNo X160.here hx rfl (hb hby at_74) rfl (XT.ii_le_f (by decide)) ?_
      show Steps p.tables e below (T160.setTop (mkF m 77 #[.val (.int p1), .val (.int p2), .val (.int (Int32.ofNat j.val)), .val (.double (mnF j.val)), .second, .val (.int (Int32.ofNat (j.val / 4))), .val (.int (4 : Int32)), .val (.ref ob), .unset, .unset, .unset, .unset, .unset, .unset, .unset, .unset, .unset] [])) _
      refine XS.aload X160.here hx rfl (hb hby at_77) rfl rfl ?_
      show Steps p.tables e below (T160.setTop (mkF m 79 #[.val (.int p1), .val (.int p2), .val (.int (Int32.ofNat j.val)), .val (.double (mnF j.val)), .second, .val (.int (Int32.ofNat (j.val / 4))), .val (.int (4 : Int32)), .val (.ref ob), .unset, .unset, .unset, .unset, .unset, .unset, .unset, .unset, .unset] [(.ref ob)])) _
      exact k)
    obtain ⟨cq165, kq165, q165a, q165b, q165c⟩ := isOf hZ rfl G160_0
    obtain ⟨_, _, ⟨T165, L165, k165', n165⟩, -, X165, ⟨Lc165, hQ165, l165, y165, z165⟩, st165⟩ := X160.virtualBack hx (y := (⟨"com/example/topple/topple/markov/PoissonWeights", "next", "()D"⟩ : MethodName)) (z := (⟨"com/example/topple/topple/markov/PoissonWeights", "next", "()D"⟩ : MethodName)) hown (mvT hZ (hw _ (List.mem_of_getElem? (i := 22) rfl))) (mvT hZ (hw _ (List.mem_of_getElem? (i := 23) rfl))) (notFace_of_selects (args := #[]) (mvT hZ (hw _ (List.mem_of_getElem? (i := 25) rfl)))) (mvT hZ (hw _ (List.mem_of_getElem? (i := 25) rfl))) (mvT hZ (hw _ (List.mem_of_getElem? (i := 24) rfl))) (by decide) (backOf (W := 0) (rm_nx l Z a0 hw [] ob ta (mnF j.val) (2 : Int32) (3 : Int32) (Int32.ofNat (j.val / 4)) (Int32.ofNat 0) (WF j.val 2) (WF j.val 3) (j.val / 4 - 0 + 1) 3 (fun i => tmF j.val (j.val / 4 - 0 - i)) T160.heap n0 (Nat.le_trans (Nat.le_trans (Nat.le_trans (Nat.le_trans (Nat.le_trans Z0 E137.1) K146.1) K150.1) K155.1) K160.1) G160_0 G160_1 G160_2 G160_3 G160_4 G160_5 G160_6 (Nat.le_trans Z0 (Nat.le_of_eq g137.symm)) (by decide) ne146 F162 (by decide) (nlo_3 j) (fun q => by
          obtain ⟨x1, x2, x3⟩ := nhi_3 j q
          exact ⟨nn_of x1, nn_of x2, x3⟩)) hZ (hw _ (List.mem_of_getElem? (i := 26) rfl)) (hw _ (List.mem_of_getElem? (i := 4) rfl)) (by decide) (by decide)) q165a q165c (g := (mkF m 79 #[.val (.int p1), .val (.int p2), .val (.int (Int32.ofNat j.val)), .val (.double (mnF j.val)), .second, .val (.int (Int32.ofNat (j.val / 4))), .val (.int (4 : Int32)), .val (.ref ob), .unset, .unset, .unset, .unset, .unset, .unset, .unset, .unset, .unset] [(.ref ob)])) rfl (by rw [hml]; rfl) (Steps.refl _) (argsL := []) (rest := []) (lenOf pd___D rfl) rfl (by show 2 * 0 + _ ≤ _; exact Nat.le_of_eq rfl) (hb hby at_79) (fun _ _ => ⟨rfl, rfl, (by decide : 2 + 0 ≤ _), (by decide : 14 + 0 ≤ _)⟩)
    dsimp only [Pt.U, Pt.locs, Pt.cells, Pt.slots] at X165 l165 y165 z165 st165 hQ165
    subst l165 y165 z165
    obtain ⟨rfl, N165, K165, G165_0, G165_1, G165_2, G165_3, G165_4, G165_5, G165_6⟩ := hQ165
    have M165 := Fr.app M160 N165
    have F166 : Exa Z T165.heap ob "com/example/topple/topple/markov/PoissonWeights" := (G160_0.keep K165)
    have F167 : OwnArr.Ag Z T165.heap ta .double (j.val / 4 - 0 + 1) (fun i => .double (tmF j.val (j.val / 4 - 0 - i))) := (F162.keep K165 (ninS ne146 nin0))
    have c168 : ∀ t, Steps p.tables e below (T165.setTop (mkF m 82 #[.val (.int p1), .val (.int p2), .val (.int (Int32.ofNat j.val)), .val (.double (mnF j.val)), .second, .val (.int (Int32.ofNat (j.val / 4))), .val (.int (4 : Int32)), .val (.ref ob), .unset, .unset, .unset, .unset, .unset, .unset, .unset, .unset, .unset] [(.double (WF j.val 3))])) t → Steps p.tables e below (s₁.setTop (entryFrame m #[(.int p1), (.int p2)] maxLocals)) t := fun t k => c164 t (st165.trans k)
    have c169 : ∀ t, Steps p.tables e below (T165.setTop (mkF m 115 #[.val (.int p1), .val (.int p2), .val (.int (Int32.ofNat j.val)), .val (.double (mnF j.val)), .second, .val (.int (Int32.ofNat (j.val / 4))), .val (.int (4 : Int32)), .val (.ref ob), .val (.int (3 : Int32)), .unset, .unset, .unset, .unset, .unset, .unset, .unset, .unset] [(.ref ob)])) t → Steps p.tables e below (s₁.setTop (entryFrame m #[(.int p1), (.int p2)] maxLocals)) t := fun t k => c168 t (by
      show Steps p.tables e below (T165.setTop (mkF m 82 #[.val (.int p1), .val (.int p2), .val (.int (Int32.ofNat j.val)), .val (.double (mnF j.val)), .second, .val (.int (Int32.ofNat (j.val / 4))), .val (.int (4 : Int32)), .val (.ref ob), .unset, .unset, .unset, .unset, .unset, .unset, .unset, .unset, .unset] [(.double (WF j.val 3))])) _
      refine Jvm.OwnP2.pop2D X165.here hx rfl (hb hby at_82) rfl ?_
      show Steps p.tables e below (T165.setTop (mkF m 83 #[.val (.int p1), .val (.int p2), .val (.int (Int32.ofNat j.val)), .val (.double (mnF j.val)), .second, .val (.int (Int32.ofNat (j.val / 4))), .val (.int (4 : Int32)), .val (.ref ob), .unset, .unset, .unset, .unset, .unset, .unset, .unset, .unset, .unset] [])) _
      refine XS.iload X165.here hx rfl (hb hby at_83) rfl ?_
      show Steps p.tables e below (T165.setTop (mkF m 85 #[.val (.int p1), .val (.int p2), .val (.int (Int32.ofNat j.val)), .val (.double (mnF j.val)), .second, .val (.int (Int32.ofNat (j.val / 4))), .val (.int (4 : Int32)), .val (.ref ob), .unset, .unset, .unset, .unset, .unset, .unset, .unset, .unset, .unset] [(.int (4 : Int32))])) _
      refine XS.iconst X165.here hx rfl (hb hby at_85) ?_
      show Steps p.tables e below (T165.setTop (mkF m 86 #[.val (.int p1), .val (.int p2), .val (.int (Int32.ofNat j.val)), .val (.double (mnF j.val)), .second, .val (.int (Int32.ofNat (j.val / 4))), .val (.int (4 : Int32)), .val (.ref ob), .unset, .unset, .unset, .unset, .unset, .unset, .unset, .unset, .unset] [(.int (4 : Int32)), (.int (4 : Int32))])) _
      refine XS.icmpYes X165.here hx rfl (pc0 := 86) (pc' := 95) rfl (hb hby at_86) rfl (XT.ii_le_t (by decide)) (by decide) (by decide) ?_
      show Steps p.tables e below (T165.setTop (mkF m 95 #[.val (.int p1), .val (.int p2), .val (.int (Int32.ofNat j.val)), .val (.double (mnF j.val)), .second, .val (.int (Int32.ofNat (j.val / 4))), .val (.int (4 : Int32)), .val (.ref ob), .unset, .unset, .unset, .unset, .unset, .unset, .unset, .unset, .unset] [])) _
      refine XS.iload X165.here hx rfl (hb hby at_95) rfl ?_
      show Steps p.tables e below (T165.setTop (mkF m 97 #[.val (.int p1), .val (.int p2), .val (.int (Int32.ofNat j.val)), .val (.double (mnF j.val)), .second, .val (.int (Int32.ofNat (j.val / 4))), .val (.int (4 : Int32)), .val (.ref ob), .unset, .unset, .unset, .unset, .unset, .unset, .unset, .unset, .unset] [(.int (4 : Int32))])) _
      refine XS.iconst X165.here hx rfl (hb hby at_97) ?_
      show Steps p.tables e below (T165.setTop (mkF m 98 #[.val (.int p1), .val (.int p2), .val (.int (Int32.ofNat j.val)), .val (.double (mnF j.val)), .second, .val (.int (Int32.ofNat (j.val / 4))), .val (.int (4 : Int32)), .val (.ref ob), .unset, .unset, .unset, .unset, .unset, .unset, .unset, .unset, .unset] [(.int (5 : Int32)), (.int (4 : Int32))])) _
      refine XS.icmpYes X165.here hx rfl (pc0 := 98) (pc' := 107) rfl (hb hby at_98) rfl (XT.ii_le_t (by decide)) (by decide) (by decide) ?_
      show Steps p.tables e below (T165.setTop (mkF m 107 #[.val (.int p1), .val (.int p2), .val (.int (Int32.ofNat j.val)), .val (.double (mnF j.val)), .second, .val (.int (Int32.ofNat (j.val / 4))), .val (.int (4 : Int32)), .val (.ref ob), .unset, .unset, .unset, .unset, .unset, .unset, .unset, .unset, .unset] [])) _
      refine XS.iload X165.here hx rfl (hb hby at_107) rfl ?_
      show Steps p.tables e below (T165.setTop (mkF m 109 #[.val (.int p1), .val (.int p2), .val (.int (Int32.ofNat j.val)), .val (.double (mnF j.val)), .second, .val (.int (Int32.ofNat (j.val / 4))), .val (.int (4 : Int32)), .val (.ref ob), .unset, .unset, .unset, .unset, .unset, .unset, .unset, .unset, .unset] [(.int (4 : Int32))])) _
      refine XS.iconst X165.here hx rfl (hb hby at_109) ?_
      show Steps p.tables e below (T165.setTop (mkF m 110 #[.val (.int p1), .val (.int p2), .val (.int (Int32.ofNat j.val)), .val (.double (mnF j.val)), .second, .val (.int (Int32.ofNat (j.val / 4))), .val (.int (4 : Int32)), .val (.ref ob), .unset, .unset, .unset, .unset, .unset, .unset, .unset, .unset, .unset] [(.int (1 : Int32)), (.int (4 : Int32))])) _
      refine XS.isub X165.here hx rfl (hb hby at_110) rfl ?_
      show Steps p.tables e below (T165.setTop (mkF m 111 #[.val (.int p1), .val (.int p2), .val (.int (Int32.ofNat j.val)), .val (.double (mnF j.val)), .second, .val (.int (Int32.ofNat (j.val / 4))), .val (.int (4 : Int32)), .val (.ref ob), .unset, .unset, .unset, .unset, .unset, .unset, .unset, .unset, .unset] [(.int (3 : Int32))])) _
      refine XS.istore X165.here hx rfl (hb hby at_111) rfl (l' := #[.val (.int p1), .val (.int p2), .val (.int (Int32.ofNat j.val)), .val (.double (mnF j.val)), .second, .val (.int (Int32.ofNat (j.val / 4))), .val (.int (4 : Int32)), .val (.ref ob), .val (.int (3 : Int32)), .unset, .unset, .unset, .unset, .unset, .unset, .unset, .unset]) rfl ?_
      show Steps p.tables e below (T165.setTop (mkF m 113 #[.val (.int p1), .val (.int p2), .val (.int (Int32.ofNat j.val)), .val (.double (mnF j.val)), .second, .val (.int (Int32.ofNat (j.val / 4))), .val (.int (4 : Int32)), .val (.ref ob), .val (.int (3 : Int32)), .unset, .unset, .unset, .unset, .unset, .unset, .unset, .unset] [])) _
      refine XS.aload X165.here hx rfl (hb hby at_113) rfl rfl ?_
      show Steps p.tables e below (T165.setTop (mkF m 115 #[.val (.int p1), .val (.int p2), .val (.int (Int32.ofNat j.val)), .val (.double (mnF j.val)), .second, .val (.int (Int32.ofNat (j.val / 4))), .val (.int (4 : Int32)), .val (.ref ob), .val (.int (3 : Int32)), .unset, .unset, .unset, .unset, .unset, .unset, .unset, .unset] [(.ref ob)])) _
      exact k)
    by_cases qt : (3 : Int32) < (Int32.ofNat (j.val / 4))
    · skip
      obtain ⟨cq170, kq170, q170a, q170b, q170c⟩ := isOf hZ rfl G165_0
      obtain ⟨_, _, ⟨T170, L170, k170', n170⟩, -, X170, ⟨Lc170, hQ170, l170, y170, z170⟩, st170⟩ := X165.virtualBack hx (y := (⟨"com/example/topple/topple/markov/PoissonWeights", "tail", "()D"⟩ : MethodName)) (z := (⟨"com/example/topple/topple/markov/PoissonWeights", "tail", "()D"⟩ : MethodName)) hown (mvT hZ (hw _ (List.mem_of_getElem? (i := 29) rfl))) (mvT hZ (hw _ (List.mem_of_getElem? (i := 30) rfl))) (notFace_of_selects (args := #[]) (mvT hZ (hw _ (List.mem_of_getElem? (i := 32) rfl)))) (mvT hZ (hw _ (List.mem_of_getElem? (i := 32) rfl))) (mvT hZ (hw _ (List.mem_of_getElem? (i := 31) rfl))) (by decide) (backOf (W := 0) (rm_t0 l Z a0 hw [] ob (3 : Int32) (Int32.ofNat (j.val / 4)) T165.heap n0 (Nat.le_trans (Nat.le_trans (Nat.le_trans (Nat.le_trans (Nat.le_trans (Nat.le_trans Z0 E137.1) K146.1) K150.1) K155.1) K160.1) K165.1) G165_1 G165_3 qt) hZ (hw _ (List.mem_of_getElem? (i := 33) rfl)) (hw _ (List.mem_of_getElem? (i := 4) rfl)) (by decide) (by decide)) q170a q170c (g := (mkF m 115 #[.val (.int p1), .val (.int p2), .val (.int (Int32.ofNat j.val)), .val (.double (mnF j.val)), .second, .val (.int (Int32.ofNat (j.val / 4))), .val (.int (4 : Int32)), .val (.ref ob), .val (.int (3 : Int32)), .unset, .unset, .unset, .unset, .unset, .unset, .unset, .unset] [(.ref ob)])) rfl (by rw [hml]; rfl) (Steps.refl _) (argsL := []) (rest := []) (lenOf pd___D rfl) rfl (by show 2 * 0 + _ ≤ _; exact Nat.le_of_eq rfl) (hb hby at_115) (fun _ _ => ⟨rfl, rfl, (by decide : 2 + 0 ≤ _), (by decide : 14 + 0 ≤ _)⟩)
      dsimp only [Pt.U, Pt.locs, Pt.cells, Pt.slots] at X170 l170 y170 z170 st170 hQ170
      subst l170 y170 z170
      obtain ⟨rfl, N170, e170⟩ := hQ170
      have M170 := Fr.app M165 N170
      have c171 : ∀ t, Steps p.tables e below (T170.setTop (mkF m 118 #[.val (.int p1), .val (.int p2), .val (.int (Int32.ofNat j.val)), .val (.double (mnF j.val)), .second, .val (.int (Int32.ofNat (j.val / 4))), .val (.int (4 : Int32)), .val (.ref ob), .val (.int (3 : Int32)), .unset, .unset, .unset, .unset, .unset, .unset, .unset, .unset] [(.double (9218868437227405312 : UInt64))])) t → Steps p.tables e below (s₁.setTop (entryFrame m #[(.int p1), (.int p2)] maxLocals)) t := fun t k => c169 t (st170.trans k)
      obtain ⟨k132, hk132⟩ : ∃ v : Int32, cmpValue (FP.dcmp (9218868437227405312 : UInt64) (9218868437227405312 : UInt64)) .l = v := ⟨_, rfl⟩
      have e132 : k132 = 0 := hk132.symm.trans inf_c
      have c172 : ∀ t, Steps p.tables e below (T170.setTop (mkF m 141 #[.val (.int p1), .val (.int p2), .val (.int (Int32.ofNat j.val)), .val (.double (mnF j.val)), .second, .val (.int (Int32.ofNat (j.val / 4))), .val (.int (4 : Int32)), .val (.ref ob), .val (.int (3 : Int32)), .val (.double (9218868437227405312 : UInt64)), .second, .unset, .unset, .unset, .unset, .unset, .unset] [(.int (1 : Int32))])) t → Steps p.tables e below (s₁.setTop (entryFrame m #[(.int p1), (.int p2)] maxLocals)) t := fun t k => c171 t (by
        show Steps p.tables e below (T170.setTop (mkF m 118 #[.val (.int p1), .val (.int p2), .val (.int (Int32.ofNat j.val)), .val (.double (mnF j.val)), .second, .val (.int (Int32.ofNat (j.val / 4))), .val (.int (4 : Int32)), .val (.ref ob), .val (.int (3 : Int32)), .unset, .unset, .unset, .unset, .unset, .unset, .unset, .unset] [(.double (9218868437227405312 : UInt64))])) _
        refine XS.dstore X170.here hx rfl (hb hby at_118) rfl (l' := #[.val (.int p1), .val (.int p2), .val (.int (Int32.ofNat j.val)), .val (.double (mnF j.val)), .second, .val (.int (Int32.ofNat (j.val / 4))), .val (.int (4 : Int32)), .val (.ref ob), .val (.int (3 : Int32)), .val (.double (9218868437227405312 : UInt64)), .second, .unset, .unset, .unset, .unset, .unset, .unset]) rfl ?_
        show Steps p.tables e below (T170.setTop (mkF m 120 #[.val (.int p1), .val (.int p2), .val (.int (Int32.ofNat j.val)), .val (.double (mnF j.val)), .second, .val (.int (Int32.ofNat (j.val / 4))), .val (.int (4 : Int32)), .val (.ref ob), .val (.int (3 : Int32)), .val (.double (9218868437227405312 : UInt64)), .second, .unset, .unset, .unset, .unset, .unset, .unset] [])) _
        refine XS.iload X170.here hx rfl (hb hby at_120) rfl ?_
        show Steps p.tables e below (T170.setTop (mkF m 122 #[.val (.int p1), .val (.int p2), .val (.int (Int32.ofNat j.val)), .val (.double (mnF j.val)), .second, .val (.int (Int32.ofNat (j.val / 4))), .val (.int (4 : Int32)), .val (.ref ob), .val (.int (3 : Int32)), .val (.double (9218868437227405312 : UInt64)), .second, .unset, .unset, .unset, .unset, .unset, .unset] [(.int (3 : Int32))])) _
        refine XS.iload X170.here hx rfl (hb hby at_122) rfl ?_
        show Steps p.tables e below (T170.setTop (mkF m 124 #[.val (.int p1), .val (.int p2), .val (.int (Int32.ofNat j.val)), .val (.double (mnF j.val)), .second, .val (.int (Int32.ofNat (j.val / 4))), .val (.int (4 : Int32)), .val (.ref ob), .val (.int (3 : Int32)), .val (.double (9218868437227405312 : UInt64)), .second, .unset, .unset, .unset, .unset, .unset, .unset] [(.int (Int32.ofNat (j.val / 4))), (.int (3 : Int32))])) _
        refine XS.icmpNo X170.here hx rfl (hb hby at_124) rfl (XT.ii_ge_f qt) ?_
        show Steps p.tables e below (T170.setTop (mkF m 127 #[.val (.int p1), .val (.int p2), .val (.int (Int32.ofNat j.val)), .val (.double (mnF j.val)), .second, .val (.int (Int32.ofNat (j.val / 4))), .val (.int (4 : Int32)), .val (.ref ob), .val (.int (3 : Int32)), .val (.double (9218868437227405312 : UInt64)), .second, .unset, .unset, .unset, .unset, .unset, .unset] [])) _
        refine XS.dload X170.here hx rfl (hb hby at_127) rfl ?_
        show Steps p.tables e below (T170.setTop (mkF m 129 #[.val (.int p1), .val (.int p2), .val (.int (Int32.ofNat j.val)), .val (.double (mnF j.val)), .second, .val (.int (Int32.ofNat (j.val / 4))), .val (.int (4 : Int32)), .val (.ref ob), .val (.int (3 : Int32)), .val (.double (9218868437227405312 : UInt64)), .second, .unset, .unset, .unset, .unset, .unset, .unset] [(.double (9218868437227405312 : UInt64))])) _
        refine Jvm.Stand.ldc2DoubleC X170 hx hown (mvT hZ (hw _ (List.mem_of_getElem? (i := 36) rfl))) (g := (mkF m 129 #[.val (.int p1), .val (.int p2), .val (.int (Int32.ofNat j.val)), .val (.double (mnF j.val)), .second, .val (.int (Int32.ofNat (j.val / 4))), .val (.int (4 : Int32)), .val (.ref ob), .val (.int (3 : Int32)), .val (.double (9218868437227405312 : UInt64)), .second, .unset, .unset, .unset, .unset, .unset, .unset] [(.double (9218868437227405312 : UInt64))])) rfl (hb hby at_129) _ ?_
        show Steps p.tables e below (T170.setTop (mkF m 132 #[.val (.int p1), .val (.int p2), .val (.int (Int32.ofNat j.val)), .val (.double (mnF j.val)), .second, .val (.int (Int32.ofNat (j.val / 4))), .val (.int (4 : Int32)), .val (.ref ob), .val (.int (3 : Int32)), .val (.double (9218868437227405312 : UInt64)), .second, .unset, .unset, .unset, .unset, .unset, .unset] [(.double (9218868437227405312 : UInt64)), (.double (9218868437227405312 : UInt64))])) _
        refine XS.dcmpS X170.here hx rfl (hb hby at_132) rfl hk132 ?_
        show Steps p.tables e below (T170.setTop (mkF m 133 #[.val (.int p1), .val (.int p2), .val (.int (Int32.ofNat j.val)), .val (.double (mnF j.val)), .second, .val (.int (Int32.ofNat (j.val / 4))), .val (.int (4 : Int32)), .val (.ref ob), .val (.int (3 : Int32)), .val (.double (9218868437227405312 : UInt64)), .second, .unset, .unset, .unset, .unset, .unset, .unset] [(.int k132)])) _
        refine XS.ifNo X170.here hx rfl (hb hby at_133) rfl (XT.i0_ne_f e132) ?_
        show Steps p.tables e below (T170.setTop (mkF m 136 #[.val (.int p1), .val (.int p2), .val (.int (Int32.ofNat j.val)), .val (.double (mnF j.val)), .second, .val (.int (Int32.ofNat (j.val / 4))), .val (.int (4 : Int32)), .val (.ref ob), .val (.int (3 : Int32)), .val (.double (9218868437227405312 : UInt64)), .second, .unset, .unset, .unset, .unset, .unset, .unset] [])) _
        refine XS.iconst X170.here hx rfl (hb hby at_136) ?_
        show Steps p.tables e below (T170.setTop (mkF m 137 #[.val (.int p1), .val (.int p2), .val (.int (Int32.ofNat j.val)), .val (.double (mnF j.val)), .second, .val (.int (Int32.ofNat (j.val / 4))), .val (.int (4 : Int32)), .val (.ref ob), .val (.int (3 : Int32)), .val (.double (9218868437227405312 : UInt64)), .second, .unset, .unset, .unset, .unset, .unset, .unset] [(.int (1 : Int32))])) _
        refine XS.goto X170.here hx rfl (pc0 := 137) (pc' := 141) rfl (hb hby at_137) (by decide) (by decide) ?_
        show Steps p.tables e below (T170.setTop (mkF m 141 #[.val (.int p1), .val (.int p2), .val (.int (Int32.ofNat j.val)), .val (.double (mnF j.val)), .second, .val (.int (Int32.ofNat (j.val / 4))), .val (.int (4 : Int32)), .val (.ref ob), .val (.int (3 : Int32)), .val (.double (9218868437227405312 : UInt64)), .second, .unset, .unset, .unset, .unset, .unset, .unset] [(.int (1 : Int32))])) _
        exact k)
      obtain ⟨fs, hr, hrun, hended, hW, hsame⟩ := X170.leave (v := (some (.int (1 : Int32)))) (fun h => by rw [Bd.returns] at h; cases h)
      refine ⟨_, _, pre0 _ (c172 _ (retN X170 hx (t := .boolean) Bd.returns (by simp) (hb hby at_141) hr)), hrun, hended, _, _, rfl, ?_, ⟨_, rfl⟩, hW, hsame.mono (by decide) (by decide)⟩
      show Q_0 Z p1 p2 h0 n0 _ T170.heap _
      rw [e170]
      exact ⟨rfl, M170⟩
    · skip
      obtain ⟨z1, z2, z3, z4, z5⟩ := tl_4 j qt
      obtain ⟨l1, l2, l3, l4, l5, l6⟩ := lw_4 j qt
      obtain ⟨cq173, kq173, q173a, q173b, q173c⟩ := isOf hZ rfl G165_0
      obtain ⟨_, _, ⟨T173, L173, k173', n173⟩, -, X173, ⟨Lc173, hQ173, l173, y173, z173⟩, st173⟩ := X165.virtualBack hx (y := (⟨"com/example/topple/topple/markov/PoissonWeights", "tail", "()D"⟩ : MethodName)) (z := (⟨"com/example/topple/topple/markov/PoissonWeights", "tail", "()D"⟩ : MethodName)) hown (mvT hZ (hw _ (List.mem_of_getElem? (i := 29) rfl))) (mvT hZ (hw _ (List.mem_of_getElem? (i := 30) rfl))) (notFace_of_selects (args := #[]) (mvT hZ (hw _ (List.mem_of_getElem? (i := 32) rfl)))) (mvT hZ (hw _ (List.mem_of_getElem? (i := 32) rfl))) (mvT hZ (hw _ (List.mem_of_getElem? (i := 31) rfl))) (by decide) (backOf (W := 0) (rm_t1 l Z a0 hw [] ob (3 : Int32) (Int32.ofNat (j.val / 4)) (mnF j.val) (WF j.val 3) T165.heap n0 (Nat.le_trans (Nat.le_trans (Nat.le_trans (Nat.le_trans (Nat.le_trans (Nat.le_trans Z0 E137.1) K146.1) K150.1) K155.1) K160.1) K165.1) G165_1 G165_2 G165_3 G165_6 qt (nn_of z1) (nn_of z2) (nn_of z3) (nn_of z4) (nn_of z5)) hZ (hw _ (List.mem_of_getElem? (i := 33) rfl)) (hw _ (List.mem_of_getElem? (i := 4) rfl)) (by decide) (by decide)) q173a q173c (g := (mkF m 115 #[.val (.int p1), .val (.int p2), .val (.int (Int32.ofNat j.val)), .val (.double (mnF j.val)), .second, .val (.int (Int32.ofNat (j.val / 4))), .val (.int (4 : Int32)), .val (.ref ob), .val (.int (3 : Int32)), .unset, .unset, .unset, .unset, .unset, .unset, .unset, .unset] [(.ref ob)])) rfl (by rw [hml]; rfl) (Steps.refl _) (argsL := []) (rest := []) (lenOf pd___D rfl) rfl (by show 2 * 0 + _ ≤ _; exact Nat.le_of_eq rfl) (hb hby at_115) (fun _ _ => ⟨rfl, rfl, (by decide : 2 + 0 ≤ _), (by decide : 14 + 0 ≤ _)⟩)
      dsimp only [Pt.U, Pt.locs, Pt.cells, Pt.slots] at X173 l173 y173 z173 st173 hQ173
      subst l173 y173 z173
      obtain ⟨rfl, N173, e173⟩ := hQ173
      have M173 := Fr.app M165 N173
      have c174 : ∀ t, Steps p.tables e below (T173.setTop (mkF m 118 #[.val (.int p1), .val (.int p2), .val (.int (Int32.ofNat j.val)), .val (.double (mnF j.val)), .second, .val (.int (Int32.ofNat (j.val / 4))), .val (.int (4 : Int32)), .val (.ref ob), .val (.int (3 : Int32)), .unset, .unset, .unset, .unset, .unset, .unset, .unset, .unset] [(.double (FP.ddiv (FP.ddiv (FP.dmul (WF j.val 3) (mnF j.val)) (FP.i2d ((3 : Int32) + (1 : Int32)))) (FP.dsub FP.dconst1 (FP.ddiv (mnF j.val) (FP.i2d ((3 : Int32) + (2 : Int32)))))))])) t → Steps p.tables e below (s₁.setTop (entryFrame m #[(.int p1), (.int p2)] maxLocals)) t := fun t k => c169 t (st173.trans k)
      have c175 : ∀ t, Steps p.tables e below (T173.setTop (mkF m 144 #[.val (.int p1), .val (.int p2), .val (.int (Int32.ofNat j.val)), .val (.double (mnF j.val)), .second, .val (.int (Int32.ofNat (j.val / 4))), .val (.int (4 : Int32)), .val (.ref ob), .val (.int (3 : Int32)), .val (.double (FP.ddiv (FP.ddiv (FP.dmul (WF j.val 3) (mnF j.val)) (FP.i2d ((3 : Int32) + (1 : Int32)))) (FP.dsub FP.dconst1 (FP.ddiv (mnF j.val) (FP.i2d ((3 : Int32) + (2 : Int32))))))), .second, .unset, .unset, .unset, .unset, .unset, .unset] [(.ref ob)])) t → Steps p.tables e below (s₁.setTop (entryFrame m #[(.int p1), (.int p2)] maxLocals)) t := fun t k => c174 t (by
        show Steps p.tables e below (T173.setTop (mkF m 118 #[.val (.int p1), .val (.int p2), .val (.int (Int32.ofNat j.val)), .val (.double (mnF j.val)), .second, .val (.int (Int32.ofNat (j.val / 4))), .val (.int (4 : Int32)), .val (.ref ob), .val (.int (3 : Int32)), .unset, .unset, .unset, .unset, .unset, .unset, .unset, .unset] [(.double (FP.ddiv (FP.ddiv (FP.dmul (WF j.val 3) (mnF j.val)) (FP.i2d ((3 : Int32) + (1 : Int32)))) (FP.dsub FP.dconst1 (FP.ddiv (mnF j.val) (FP.i2d ((3 : Int32) + (2 : Int32)))))))])) _
        refine XS.dstore X173.here hx rfl (hb hby at_118) rfl (l' := #[.val (.int p1), .val (.int p2), .val (.int (Int32.ofNat j.val)), .val (.double (mnF j.val)), .second, .val (.int (Int32.ofNat (j.val / 4))), .val (.int (4 : Int32)), .val (.ref ob), .val (.int (3 : Int32)), .val (.double (FP.ddiv (FP.ddiv (FP.dmul (WF j.val 3) (mnF j.val)) (FP.i2d ((3 : Int32) + (1 : Int32)))) (FP.dsub FP.dconst1 (FP.ddiv (mnF j.val) (FP.i2d ((3 : Int32) + (2 : Int32))))))), .second, .unset, .unset, .unset, .unset, .unset, .unset]) rfl ?_
        show Steps p.tables e below (T173.setTop (mkF m 120 #[.val (.int p1), .val (.int p2), .val (.int (Int32.ofNat j.val)), .val (.double (mnF j.val)), .second, .val (.int (Int32.ofNat (j.val / 4))), .val (.int (4 : Int32)), .val (.ref ob), .val (.int (3 : Int32)), .val (.double (FP.ddiv (FP.ddiv (FP.dmul (WF j.val 3) (mnF j.val)) (FP.i2d ((3 : Int32) + (1 : Int32)))) (FP.dsub FP.dconst1 (FP.ddiv (mnF j.val) (FP.i2d ((3 : Int32) + (2 : Int32))))))), .second, .unset, .unset, .unset, .unset, .unset, .unset] [])) _
        refine XS.iload X173.here hx rfl (hb hby at_120) rfl ?_
        show Steps p.tables e below (T173.setTop (mkF m 122 #[.val (.int p1), .val (.int p2), .val (.int (Int32.ofNat j.val)), .val (.double (mnF j.val)), .second, .val (.int (Int32.ofNat (j.val / 4))), .val (.int (4 : Int32)), .val (.ref ob), .val (.int (3 : Int32)), .val (.double (FP.ddiv (FP.ddiv (FP.dmul (WF j.val 3) (mnF j.val)) (FP.i2d ((3 : Int32) + (1 : Int32)))) (FP.dsub FP.dconst1 (FP.ddiv (mnF j.val) (FP.i2d ((3 : Int32) + (2 : Int32))))))), .second, .unset, .unset, .unset, .unset, .unset, .unset] [(.int (3 : Int32))])) _
        refine XS.iload X173.here hx rfl (hb hby at_122) rfl ?_
        show Steps p.tables e below (T173.setTop (mkF m 124 #[.val (.int p1), .val (.int p2), .val (.int (Int32.ofNat j.val)), .val (.double (mnF j.val)), .second, .val (.int (Int32.ofNat (j.val / 4))), .val (.int (4 : Int32)), .val (.ref ob), .val (.int (3 : Int32)), .val (.double (FP.ddiv (FP.ddiv (FP.dmul (WF j.val 3) (mnF j.val)) (FP.i2d ((3 : Int32) + (1 : Int32)))) (FP.dsub FP.dconst1 (FP.ddiv (mnF j.val) (FP.i2d ((3 : Int32) + (2 : Int32))))))), .second, .unset, .unset, .unset, .unset, .unset, .unset] [(.int (Int32.ofNat (j.val / 4))), (.int (3 : Int32))])) _
        refine XS.icmpYes X173.here hx rfl (pc0 := 124) (pc' := 142) rfl (hb hby at_124) rfl (XT.ii_ge_t qt) (by decide) (by decide) ?_
        show Steps p.tables e below (T173.setTop (mkF m 142 #[.val (.int p1), .val (.int p2), .val (.int (Int32.ofNat j.val)), .val (.double (mnF j.val)), .second, .val (.int (Int32.ofNat (j.val / 4))), .val (.int (4 : Int32)), .val (.ref ob), .val (.int (3 : Int32)), .val (.double (FP.ddiv (FP.ddiv (FP.dmul (WF j.val 3) (mnF j.val)) (FP.i2d ((3 : Int32) + (1 : Int32)))) (FP.dsub FP.dconst1 (FP.ddiv (mnF j.val) (FP.i2d ((3 : Int32) + (2 : Int32))))))), .second, .unset, .unset, .unset, .unset, .unset, .unset] [])) _
        refine XS.aload X173.here hx rfl (hb hby at_142) rfl rfl ?_
        show Steps p.tables e below (T173.setTop (mkF m 144 #[.val (.int p1), .val (.int p2), .val (.int (Int32.ofNat j.val)), .val (.double (mnF j.val)), .second, .val (.int (Int32.ofNat (j.val / 4))), .val (.int (4 : Int32)), .val (.ref ob), .val (.int (3 : Int32)), .val (.double (FP.ddiv (FP.ddiv (FP.dmul (WF j.val 3) (mnF j.val)) (FP.i2d ((3 : Int32) + (1 : Int32)))) (FP.dsub FP.dconst1 (FP.ddiv (mnF j.val) (FP.i2d ((3 : Int32) + (2 : Int32))))))), .second, .unset, .unset, .unset, .unset, .unset, .unset] [(.ref ob)])) _
        exact k)
      obtain ⟨cq176, kq176, q176a, q176b, q176c⟩ := isOf hZ e173 G165_0
      obtain ⟨_, _, ⟨T176, L176, k176', n176⟩, -, X176, ⟨Lc176, hQ176, l176, y176, z176⟩, st176⟩ := X173.virtualBack hx (y := (⟨"com/example/topple/topple/markov/PoissonWeights", "next", "()D"⟩ : MethodName)) (z := (⟨"com/example/topple/topple/markov/PoissonWeights", "next", "()D"⟩ : MethodName)) hown (mvT hZ (hw _ (List.mem_of_getElem? (i := 22) rfl))) (mvT hZ (hw _ (List.mem_of_getElem? (i := 23) rfl))) (notFace_of_selects (args := #[]) (mvT hZ (hw _ (List.mem_of_getElem? (i := 25) rfl)))) (mvT hZ (hw _ (List.mem_of_getElem? (i := 25) rfl))) (mvT hZ (hw _ (List.mem_of_getElem? (i := 24) rfl))) (by decide) (backOf (W := 0) (rm_nx l Z a0 hw [] ob ta (mnF j.val) (3 : Int32) (4 : Int32) (Int32.ofNat (j.val / 4)) (Int32.ofNat 0) (WF j.val 3) (WF j.val 4) (j.val / 4 - 0 + 1) 4 (fun i => tmF j.val (j.val / 4 - 0 - i)) T165.heap n0 (Nat.le_trans (Nat.le_trans (Nat.le_trans (Nat.le_trans (Nat.le_trans (Nat.le_trans Z0 E137.1) K146.1) K150.1) K155.1) K160.1) K165.1) G165_0 G165_1 G165_2 G165_3 G165_4 G165_5 G165_6 (Nat.le_trans Z0 (Nat.le_of_eq g137.symm)) (by decide) ne146 F167 (by decide) (nlo_4 j) (fun q => by
            obtain ⟨x1, x2, x3⟩ := nhi_4 j q
            exact ⟨nn_of x1, nn_of x2, x3⟩)) hZ (hw _ (List.mem_of_getElem? (i := 26) rfl)) (hw _ (List.mem_of_getElem? (i := 4) rfl)) (by decide) (by decide)) q176a q176c (g := (mkF m 144 #[.val (.int p1), .val (.int p2), .val (.int (Int32.ofNat j.val)), .val (.double (mnF j.val)), .second, .val (.int (Int32.ofNat (j.val / 4))), .val (.int (4 : Int32)), .val (.ref ob), .val (.int (3 : Int32)), .val (.double (FP.ddiv (FP.ddiv (FP.dmul (WF j.val 3) (mnF j.val)) (FP.i2d ((3 : Int32) + (1 : Int32)))) (FP.dsub FP.dconst1 (FP.ddiv (mnF j.val) (FP.i2d ((3 : Int32) + (2 : Int32))))))), .second, .unset, .unset, .unset, .unset, .unset, .unset] [(.ref ob)])) rfl (by rw [hml]; rfl) (Steps.refl _) (argsL := []) (rest := []) (lenOf pd___D rfl) rfl (by show 2 * 0 + _ ≤ _; exact Nat.le_of_eq rfl) (hb hby at_144) (fun _ _ => ⟨rfl, e173, (by decide : 2 + 0 ≤ _), (by decide : 14 + 0 ≤ _)⟩)
      dsimp only [Pt.U, Pt.locs, Pt.cells, Pt.slots] at X176 l176 y176 z176 st176 hQ176
      subst l176 y176 z176
      obtain ⟨rfl, N176, K176, G176_0, G176_1, G176_2, G176_3, G176_4, G176_5, G176_6⟩ := hQ176
      have M176 := Fr.app M173 N176
      have F177 : Exa Z T176.heap ob "com/example/topple/topple/markov/PoissonWeights" := (G165_0.keep K176)
      have F178 : OwnArr.Ag Z T176.heap ta .double (j.val / 4 - 0 + 1) (fun i => .double (tmF j.val (j.val / 4 - 0 - i))) := (F167.keep K176 (ninS ne146 nin0))
      have c179 : ∀ t, Steps p.tables e below (T176.setTop (mkF m 147 #[.val (.int p1), .val (.int p2), .val (.int (Int32.ofNat j.val)), .val (.double (mnF j.val)), .second, .val (.int (Int32.ofNat (j.val / 4))), .val (.int (4 : Int32)), .val (.ref ob), .val (.int (3 : Int32)), .val (.double (FP.ddiv (FP.ddiv (FP.dmul (WF j.val 3) (mnF j.val)) (FP.i2d ((3 : Int32) + (1 : Int32)))) (FP.dsub FP.dconst1 (FP.ddiv (mnF j.val) (FP.i2d ((3 : Int32) + (2 : Int32))))))), .second, .unset, .unset, .unset, .unset, .unset, .unset] [(.double (WF j.val 4))])) t → Steps p.tables e below (s₁.setTop (entryFrame m #[(.int p1), (.int p2)] maxLocals)) t := fun t k => c175 t (st176.trans k)
      have c180 : ∀ t, Steps p.tables e below (T176.setTop (mkF m 151 #[.val (.int p1), .val (.int p2), .val (.int (Int32.ofNat j.val)), .val (.double (mnF j.val)), .second, .val (.int (Int32.ofNat (j.val / 4))), .val (.int (4 : Int32)), .val (.ref ob), .val (.int (3 : Int32)), .val (.double (FP.ddiv (FP.ddiv (FP.dmul (WF j.val 3) (mnF j.val)) (FP.i2d ((3 : Int32) + (1 : Int32)))) (FP.dsub FP.dconst1 (FP.ddiv (mnF j.val) (FP.i2d ((3 : Int32) + (2 : Int32))))))), .second, .val (.double (WF j.val 4)), .second, .unset, .unset, .unset, .unset] [(.ref ob)])) t → Steps p.tables e below (s₁.setTop (entryFrame m #[(.int p1), (.int p2)] maxLocals)) t := fun t k => c179 t (by
        show Steps p.tables e below (T176.setTop (mkF m 147 #[.val (.int p1), .val (.int p2), .val (.int (Int32.ofNat j.val)), .val (.double (mnF j.val)), .second, .val (.int (Int32.ofNat (j.val / 4))), .val (.int (4 : Int32)), .val (.ref ob), .val (.int (3 : Int32)), .val (.double (FP.ddiv (FP.ddiv (FP.dmul (WF j.val 3) (mnF j.val)) (FP.i2d ((3 : Int32) + (1 : Int32)))) (FP.dsub FP.dconst1 (FP.ddiv (mnF j.val) (FP.i2d ((3 : Int32) + (2 : Int32))))))), .second, .unset, .unset, .unset, .unset, .unset, .unset] [(.double (WF j.val 4))])) _
        refine XS.dstore X176.here hx rfl (hb hby at_147) rfl (l' := #[.val (.int p1), .val (.int p2), .val (.int (Int32.ofNat j.val)), .val (.double (mnF j.val)), .second, .val (.int (Int32.ofNat (j.val / 4))), .val (.int (4 : Int32)), .val (.ref ob), .val (.int (3 : Int32)), .val (.double (FP.ddiv (FP.ddiv (FP.dmul (WF j.val 3) (mnF j.val)) (FP.i2d ((3 : Int32) + (1 : Int32)))) (FP.dsub FP.dconst1 (FP.ddiv (mnF j.val) (FP.i2d ((3 : Int32) + (2 : Int32))))))), .second, .val (.double (WF j.val 4)), .second, .unset, .unset, .unset, .unset]) rfl ?_
        show Steps p.tables e below (T176.setTop (mkF m 149 #[.val (.int p1), .val (.int p2), .val (.int (Int32.ofNat j.val)), .val (.double (mnF j.val)), .second, .val (.int (Int32.ofNat (j.val / 4))), .val (.int (4 : Int32)), .val (.ref ob), .val (.int (3 : Int32)), .val (.double (FP.ddiv (FP.ddiv (FP.dmul (WF j.val 3) (mnF j.val)) (FP.i2d ((3 : Int32) + (1 : Int32)))) (FP.dsub FP.dconst1 (FP.ddiv (mnF j.val) (FP.i2d ((3 : Int32) + (2 : Int32))))))), .second, .val (.double (WF j.val 4)), .second, .unset, .unset, .unset, .unset] [])) _
        refine XS.aload X176.here hx rfl (hb hby at_149) rfl rfl ?_
        show Steps p.tables e below (T176.setTop (mkF m 151 #[.val (.int p1), .val (.int p2), .val (.int (Int32.ofNat j.val)), .val (.double (mnF j.val)), .second, .val (.int (Int32.ofNat (j.val / 4))), .val (.int (4 : Int32)), .val (.ref ob), .val (.int (3 : Int32)), .val (.double (FP.ddiv (FP.ddiv (FP.dmul (WF j.val 3) (mnF j.val)) (FP.i2d ((3 : Int32) + (1 : Int32)))) (FP.dsub FP.dconst1 (FP.ddiv (mnF j.val) (FP.i2d ((3 : Int32) + (2 : Int32))))))), .second, .val (.double (WF j.val 4)), .second, .unset, .unset, .unset, .unset] [(.ref ob)])) _
        exact k)
      obtain ⟨cq181, kq181, q181a, q181b, q181c⟩ := isOf hZ rfl G176_0
      obtain ⟨_, _, ⟨T181, L181, k181', n181⟩, -, X181, ⟨Lc181, hQ181, l181, y181, z181⟩, st181⟩ := X176.virtualBack hx (y := (⟨"com/example/topple/topple/markov/PoissonWeights", "next", "()D"⟩ : MethodName)) (z := (⟨"com/example/topple/topple/markov/PoissonWeights", "next", "()D"⟩ : MethodName)) hown (mvT hZ (hw _ (List.mem_of_getElem? (i := 22) rfl))) (mvT hZ (hw _ (List.mem_of_getElem? (i := 23) rfl))) (notFace_of_selects (args := #[]) (mvT hZ (hw _ (List.mem_of_getElem? (i := 25) rfl)))) (mvT hZ (hw _ (List.mem_of_getElem? (i := 25) rfl))) (mvT hZ (hw _ (List.mem_of_getElem? (i := 24) rfl))) (by decide) (backOf (W := 0) (rm_nx l Z a0 hw [] ob ta (mnF j.val) (4 : Int32) (5 : Int32) (Int32.ofNat (j.val / 4)) (Int32.ofNat 0) (WF j.val 4) (WF j.val 5) (j.val / 4 - 0 + 1) 5 (fun i => tmF j.val (j.val / 4 - 0 - i)) T176.heap n0 (Nat.le_trans (Nat.le_trans (Nat.le_trans (Nat.le_trans (Nat.le_trans (Nat.le_trans (Nat.le_trans Z0 E137.1) K146.1) K150.1) K155.1) K160.1) K165.1) K176.1) G176_0 G176_1 G176_2 G176_3 G176_4 G176_5 G176_6 (Nat.le_trans Z0 (Nat.le_of_eq g137.symm)) (by decide) ne146 F178 (by decide) (nlo_5 j) (fun q => by
            obtain ⟨x1, x2, x3⟩ := nhi_5 j q
            exact ⟨nn_of x1, nn_of x2, x3⟩)) hZ (hw _ (List.mem_of_getElem? (i := 26) rfl)) (hw _ (List.mem_of_getElem? (i := 4) rfl)) (by decide) (by decide)) q181a q181c (g := (mkF m 151 #[.val (.int p1), .val (.int p2), .val (.int (Int32.ofNat j.val)), .val (.double (mnF j.val)), .second, .val (.int (Int32.ofNat (j.val / 4))), .val (.int (4 : Int32)), .val (.ref ob), .val (.int (3 : Int32)), .val (.double (FP.ddiv (FP.ddiv (FP.dmul (WF j.val 3) (mnF j.val)) (FP.i2d ((3 : Int32) + (1 : Int32)))) (FP.dsub FP.dconst1 (FP.ddiv (mnF j.val) (FP.i2d ((3 : Int32) + (2 : Int32))))))), .second, .val (.double (WF j.val 4)), .second, .unset, .unset, .unset, .unset] [(.ref ob)])) rfl (by rw [hml]; rfl) (Steps.refl _) (argsL := []) (rest := []) (lenOf pd___D rfl) rfl (by show 2 * 0 + _ ≤ _; exact Nat.le_of_eq rfl) (hb hby at_151) (fun _ _ => ⟨rfl, rfl, (by decide : 2 + 0 ≤ _), (by decide : 14 + 0 ≤ _)⟩)
      dsimp only [Pt.U, Pt.locs, Pt.cells, Pt.slots] at X181 l181 y181 z181 st181 hQ181
      subst l181 y181 z181
      obtain ⟨rfl, N181, K181, G181_0, G181_1, G181_2, G181_3, G181_4, G181_5, G181_6⟩ := hQ181
      have M181 := Fr.app M176 N181
      have F182 : Exa Z T181.heap ob "com/example/topple/topple/markov/PoissonWeights" := (G176_0.keep K181)
      have F183 : OwnArr.Ag Z T181.heap ta .double (j.val / 4 - 0 + 1) (fun i => .double (tmF j.val (j.val / 4 - 0 - i))) := (F178.keep K181 (ninS ne146 nin0))
      have c184 : ∀ t, Steps p.tables e below (T181.setTop (mkF m 154 #[.val (.int p1), .val (.int p2), .val (.int (Int32.ofNat j.val)), .val (.double (mnF j.val)), .second, .val (.int (Int32.ofNat (j.val / 4))), .val (.int (4 : Int32)), .val (.ref ob), .val (.int (3 : Int32)), .val (.double (FP.ddiv (FP.ddiv (FP.dmul (WF j.val 3) (mnF j.val)) (FP.i2d ((3 : Int32) + (1 : Int32)))) (FP.dsub FP.dconst1 (FP.ddiv (mnF j.val) (FP.i2d ((3 : Int32) + (2 : Int32))))))), .second, .val (.double (WF j.val 4)), .second, .unset, .unset, .unset, .unset] [(.double (WF j.val 5))])) t → Steps p.tables e below (s₁.setTop (entryFrame m #[(.int p1), (.int p2)] maxLocals)) t := fun t k => c180 t (st181.trans k)
      obtain ⟨d161, hd161⟩ : ∃ v : UInt64, FP.i2d (5 : Int32) = v := ⟨_, rfl⟩
      obtain ⟨d162, hd162⟩ : ∃ v : UInt64, FP.ddiv (mnF j.val) d161 = v := ⟨_, rfl⟩
      have n162 : Jvm.Free.Fl.NoNaN64 (FP.ddiv (mnF j.val) d161) := by rw [← hd161]; exact nn_of l1
      obtain ⟨d172, hd172⟩ : ∃ v : UInt64, FP.dsub FP.dconst1 d162 = v := ⟨_, rfl⟩
      have n172 : Jvm.Free.Fl.NoNaN64 (FP.dsub FP.dconst1 d162) := by rw [← hd162, ← hd161]; exact nn_of l2
      obtain ⟨d173, hd173⟩ : ∃ v : UInt64, FP.ddiv (WF j.val 4) d172 = v := ⟨_, rfl⟩
      have n173 : Jvm.Free.Fl.NoNaN64 (FP.ddiv (WF j.val 4) d172) := by rw [← hd172, ← hd162, ← hd161]; exact nn_of l3
      obtain ⟨k174, hk174⟩ : ∃ v : Int32, cmpValue (FP.dcmp (FP.ddiv (FP.ddiv (FP.dmul (WF j.val 3) (mnF j.val)) (FP.i2d ((3 : Int32) + (1 : Int32)))) (FP.dsub FP.dconst1 (FP.ddiv (mnF j.val) (FP.i2d ((3 : Int32) + (2 : Int32)))))) d173) .l = v := ⟨_, rfl⟩
      have e174 : k174 = 0 := by rw [← hk174, ← hd173, ← hd172, ← hd162, ← hd161]; exact l4
      obtain ⟨d184, hd184⟩ : ∃ v : UInt64, FP.dadd (WF j.val 4) (WF j.val 5) = v := ⟨_, rfl⟩
      obtain ⟨k185, hk185⟩ : ∃ v : Int32, cmpValue (FP.dcmp (FP.ddiv (FP.ddiv (FP.dmul (WF j.val 3) (mnF j.val)) (FP.i2d ((3 : Int32) + (1 : Int32)))) (FP.dsub FP.dconst1 (FP.ddiv (mnF j.val) (FP.i2d ((3 : Int32) + (2 : Int32)))))) d184) .l = v := ⟨_, rfl⟩
      have e185 : ¬ k185 < 0 := by rw [← hk185, ← hd184]; exact l6
      have c185 : ∀ t, Steps p.tables e below (T181.setTop (mkF m 194 #[.val (.int p1), .val (.int p2), .val (.int (Int32.ofNat j.val)), .val (.double (mnF j.val)), .second, .val (.int (Int32.ofNat (j.val / 4))), .val (.int (4 : Int32)), .val (.ref ob), .val (.int (3 : Int32)), .val (.double (FP.ddiv (FP.ddiv (FP.dmul (WF j.val 3) (mnF j.val)) (FP.i2d ((3 : Int32) + (1 : Int32)))) (FP.dsub FP.dconst1 (FP.ddiv (mnF j.val) (FP.i2d ((3 : Int32) + (2 : Int32))))))), .second, .val (.double (WF j.val 4)), .second, .val (.double (WF j.val 5)), .second, .val (.double d162), .second] [(.int (1 : Int32))])) t → Steps p.tables e below (s₁.setTop (entryFrame m #[(.int p1), (.int p2)] maxLocals)) t := fun t k => c184 t (by
        show Steps p.tables e below (T181.setTop (mkF m 154 #[.val (.int p1), .val (.int p2), .val (.int (Int32.ofNat j.val)), .val (.double (mnF j.val)), .second, .val (.int (Int32.ofNat (j.val / 4))), .val (.int (4 : Int32)), .val (.ref ob), .val (.int (3 : Int32)), .val (.double (FP.ddiv (FP.ddiv (FP.dmul (WF j.val 3) (mnF j.val)) (FP.i2d ((3 : Int32) + (1 : Int32)))) (FP.dsub FP.dconst1 (FP.ddiv (mnF j.val) (FP.i2d ((3 : Int32) + (2 : Int32))))))), .second, .val (.double (WF j.val 4)), .second, .unset, .unset, .unset, .unset] [(.double (WF j.val 5))])) _
        refine XS.dstore X181.here hx rfl (hb hby at_154) rfl (l' := #[.val (.int p1), .val (.int p2), .val (.int (Int32.ofNat j.val)), .val (.double (mnF j.val)), .second, .val (.int (Int32.ofNat (j.val / 4))), .val (.int (4 : Int32)), .val (.ref ob), .val (.int (3 : Int32)), .val (.double (FP.ddiv (FP.ddiv (FP.dmul (WF j.val 3) (mnF j.val)) (FP.i2d ((3 : Int32) + (1 : Int32)))) (FP.dsub FP.dconst1 (FP.ddiv (mnF j.val) (FP.i2d ((3 : Int32) + (2 : Int32))))))), .second, .val (.double (WF j.val 4)), .second, .val (.double (WF j.val 5)), .second, .unset, .unset]) rfl ?_
        show Steps p.tables e below (T181.setTop (mkF m 156 #[.val (.int p1), .val (.int p2), .val (.int (Int32.ofNat j.val)), .val (.double (mnF j.val)), .second, .val (.int (Int32.ofNat (j.val / 4))), .val (.int (4 : Int32)), .val (.ref ob), .val (.int (3 : Int32)), .val (.double (FP.ddiv (FP.ddiv (FP.dmul (WF j.val 3) (mnF j.val)) (FP.i2d ((3 : Int32) + (1 : Int32)))) (FP.dsub FP.dconst1 (FP.ddiv (mnF j.val) (FP.i2d ((3 : Int32) + (2 : Int32))))))), .second, .val (.double (WF j.val 4)), .second, .val (.double (WF j.val 5)), .second, .unset, .unset] [])) _
        refine XS.dloadN X181.here hx rfl (hb hby at_156) rfl ?_
        show Steps p.tables e below (T181.setTop (mkF m 157 #[.val (.int p1), .val (.int p2), .val (.int (Int32.ofNat j.val)), .val (.double (mnF j.val)), .second, .val (.int (Int32.ofNat (j.val / 4))), .val (.int (4 : Int32)), .val (.ref ob), .val (.int (3 : Int32)), .val (.double (FP.ddiv (FP.ddiv (FP.dmul (WF j.val 3) (mnF j.val)) (FP.i2d ((3 : Int32) + (1 : Int32)))) (FP.dsub FP.dconst1 (FP.ddiv (mnF j.val) (FP.i2d ((3 : Int32) + (2 : Int32))))))), .second, .val (.double (WF j.val 4)), .second, .val (.double (WF j.val 5)), .second, .unset, .unset] [(.double (mnF j.val))])) _
        refine XS.iload X181.here hx rfl (hb hby at_157) rfl ?_
        show Steps p.tables e below (T181.setTop (mkF m 159 #[.val (.int p1), .val (.int p2), .val (.int (Int32.ofNat j.val)), .val (.double (mnF j.val)), .second, .val (.int (Int32.ofNat (j.val / 4))), .val (.int (4 : Int32)), .val (.ref ob), .val (.int (3 : Int32)), .val (.double (FP.ddiv (FP.ddiv (FP.dmul (WF j.val 3) (mnF j.val)) (FP.i2d ((3 : Int32) + (1 : Int32)))) (FP.dsub FP.dconst1 (FP.ddiv (mnF j.val) (FP.i2d ((3 : Int32) + (2 : Int32))))))), .second, .val (.double (WF j.val 4)), .second, .val (.double (WF j.val 5)), .second, .unset, .unset] [(.int (3 : Int32)), (.double (mnF j.val))])) _
        refine XS.iconst X181.here hx rfl (hb hby at_159) ?_
        show Steps p.tables e below (T181.setTop (mkF m 160 #[.val (.int p1), .val (.int p2), .val (.int (Int32.ofNat j.val)), .val (.double (mnF j.val)), .second, .val (.int (Int32.ofNat (j.val / 4))), .val (.int (4 : Int32)), .val (.ref ob), .val (.int (3 : Int32)), .val (.double (FP.ddiv (FP.ddiv (FP.dmul (WF j.val 3) (mnF j.val)) (FP.i2d ((3 : Int32) + (1 : Int32)))) (FP.dsub FP.dconst1 (FP.ddiv (mnF j.val) (FP.i2d ((3 : Int32) + (2 : Int32))))))), .second, .val (.double (WF j.val 4)), .second, .val (.double (WF j.val 5)), .second, .unset, .unset] [(.int (2 : Int32)), (.int (3 : Int32)), (.double (mnF j.val))])) _
        refine XS.iadd X181.here hx rfl (hb hby at_160) rfl ?_
        show Steps p.tables e below (T181.setTop (mkF m 161 #[.val (.int p1), .val (.int p2), .val (.int (Int32.ofNat j.val)), .val (.double (mnF j.val)), .second, .val (.int (Int32.ofNat (j.val / 4))), .val (.int (4 : Int32)), .val (.ref ob), .val (.int (3 : Int32)), .val (.double (FP.ddiv (FP.ddiv (FP.dmul (WF j.val 3) (mnF j.val)) (FP.i2d ((3 : Int32) + (1 : Int32)))) (FP.dsub FP.dconst1 (FP.ddiv (mnF j.val) (FP.i2d ((3 : Int32) + (2 : Int32))))))), .second, .val (.double (WF j.val 4)), .second, .val (.double (WF j.val 5)), .second, .unset, .unset] [(.int (5 : Int32)), (.double (mnF j.val))])) _
        refine XS.i2dS X181.here hx rfl (hb hby at_161) rfl hd161 ?_
        show Steps p.tables e below (T181.setTop (mkF m 162 #[.val (.int p1), .val (.int p2), .val (.int (Int32.ofNat j.val)), .val (.double (mnF j.val)), .second, .val (.int (Int32.ofNat (j.val / 4))), .val (.int (4 : Int32)), .val (.ref ob), .val (.int (3 : Int32)), .val (.double (FP.ddiv (FP.ddiv (FP.dmul (WF j.val 3) (mnF j.val)) (FP.i2d ((3 : Int32) + (1 : Int32)))) (FP.dsub FP.dconst1 (FP.ddiv (mnF j.val) (FP.i2d ((3 : Int32) + (2 : Int32))))))), .second, .val (.double (WF j.val 4)), .second, .val (.double (WF j.val 5)), .second, .unset, .unset] [(.double d161), (.double (mnF j.val))])) _
        refine XS.ddivS X181.here hx rfl (hb hby at_162) rfl n162 hd162 ?_
        show Steps p.tables e below (T181.setTop (mkF m 163 #[.val (.int p1), .val (.int p2), .val (.int (Int32.ofNat j.val)), .val (.double (mnF j.val)), .second, .val (.int (Int32.ofNat (j.val / 4))), .val (.int (4 : Int32)), .val (.ref ob), .val (.int (3 : Int32)), .val (.double (FP.ddiv (FP.ddiv (FP.dmul (WF j.val 3) (mnF j.val)) (FP.i2d ((3 : Int32) + (1 : Int32)))) (FP.dsub FP.dconst1 (FP.ddiv (mnF j.val) (FP.i2d ((3 : Int32) + (2 : Int32))))))), .second, .val (.double (WF j.val 4)), .second, .val (.double (WF j.val 5)), .second, .unset, .unset] [(.double d162)])) _
        refine XS.dstore X181.here hx rfl (hb hby at_163) rfl (l' := #[.val (.int p1), .val (.int p2), .val (.int (Int32.ofNat j.val)), .val (.double (mnF j.val)), .second, .val (.int (Int32.ofNat (j.val / 4))), .val (.int (4 : Int32)), .val (.ref ob), .val (.int (3 : Int32)), .val (.double (FP.ddiv (FP.ddiv (FP.dmul (WF j.val 3) (mnF j.val)) (FP.i2d ((3 : Int32) + (1 : Int32)))) (FP.dsub FP.dconst1 (FP.ddiv (mnF j.val) (FP.i2d ((3 : Int32) + (2 : Int32))))))), .second, .val (.double (WF j.val 4)), .second, .val (.double (WF j.val 5)), .second, .val (.double d162), .second]) rfl ?_
        show Steps p.tables e below (T181.setTop (mkF m 165 #[.val (.int p1), .val (.int p2), .val (.int (Int32.ofNat j.val)), .val (.double (mnF j.val)), .second, .val (.int (Int32.ofNat (j.val / 4))), .val (.int (4 : Int32)), .val (.ref ob), .val (.int (3 : Int32)), .val (.double (FP.ddiv (FP.ddiv (FP.dmul (WF j.val 3) (mnF j.val)) (FP.i2d ((3 : Int32) + (1 : Int32)))) (FP.dsub FP.dconst1 (FP.ddiv (mnF j.val) (FP.i2d ((3 : Int32) + (2 : Int32))))))), .second, .val (.double (WF j.val 4)), .second, .val (.double (WF j.val 5)), .second, .val (.double d162), .second] [])) _
        refine XS.dload X181.here hx rfl (hb hby at_165) rfl ?_
        show Steps p.tables e below (T181.setTop (mkF m 167 #[.val (.int p1), .val (.int p2), .val (.int (Int32.ofNat j.val)), .val (.double (mnF j.val)), .second, .val (.int (Int32.ofNat (j.val / 4))), .val (.int (4 : Int32)), .val (.ref ob), .val (.int (3 : Int32)), .val (.double (FP.ddiv (FP.ddiv (FP.dmul (WF j.val 3) (mnF j.val)) (FP.i2d ((3 : Int32) + (1 : Int32)))) (FP.dsub FP.dconst1 (FP.ddiv (mnF j.val) (FP.i2d ((3 : Int32) + (2 : Int32))))))), .second, .val (.double (WF j.val 4)), .second, .val (.double (WF j.val 5)), .second, .val (.double d162), .second] [(.double (FP.ddiv (FP.ddiv (FP.dmul (WF j.val 3) (mnF j.val)) (FP.i2d ((3 : Int32) + (1 : Int32)))) (FP.dsub FP.dconst1 (FP.ddiv (mnF j.val) (FP.i2d ((3 : Int32) + (2 : Int32)))))))])) _
        refine XS.dload X181.here hx rfl (hb hby at_167) rfl ?_
        show Steps p.tables e below (T181.setTop (mkF m 169 #[.val (.int p1), .val (.int p2), .val (.int (Int32.ofNat j.val)), .val (.double (mnF j.val)), .second, .val (.int (Int32.ofNat (j.val / 4))), .val (.int (4 : Int32)), .val (.ref ob), .val (.int (3 : Int32)), .val (.double (FP.ddiv (FP.ddiv (FP.dmul (WF j.val 3) (mnF j.val)) (FP.i2d ((3 : Int32) + (1 : Int32)))) (FP.dsub FP.dconst1 (FP.ddiv (mnF j.val) (FP.i2d ((3 : Int32) + (2 : Int32))))))), .second, .val (.double (WF j.val 4)), .second, .val (.double (WF j.val 5)), .second, .val (.double d162), .second] [(.double (WF j.val 4)), (.double (FP.ddiv (FP.ddiv (FP.dmul (WF j.val 3) (mnF j.val)) (FP.i2d ((3 : Int32) + (1 : Int32)))) (FP.dsub FP.dconst1 (FP.ddiv (mnF j.val) (FP.i2d ((3 : Int32) + (2 : Int32)))))))])) _
        refine XS.dconst1 X181.here hx rfl (hb hby at_169) rfl ?_
        show Steps p.tables e below (T181.setTop (mkF m 170 #[.val (.int p1), .val (.int p2), .val (.int (Int32.ofNat j.val)), .val (.double (mnF j.val)), .second, .val (.int (Int32.ofNat (j.val / 4))), .val (.int (4 : Int32)), .val (.ref ob), .val (.int (3 : Int32)), .val (.double (FP.ddiv (FP.ddiv (FP.dmul (WF j.val 3) (mnF j.val)) (FP.i2d ((3 : Int32) + (1 : Int32)))) (FP.dsub FP.dconst1 (FP.ddiv (mnF j.val) (FP.i2d ((3 : Int32) + (2 : Int32))))))), .second, .val (.double (WF j.val 4)), .second, .val (.double (WF j.val 5)), .second, .val (.double d162), .second] [(.double FP.dconst1), (.double (WF j.val 4)), (.double (FP.ddiv (FP.ddiv (FP.dmul (WF j.val 3) (mnF j.val)) (FP.i2d ((3 : Int32) + (1 : Int32)))) (FP.dsub FP.dconst1 (FP.ddiv (mnF j.val) (FP.i2d ((3 : Int32) + (2 : Int32)))))))])) _
        refine XS.dload X181.here hx rfl (hb hby at_170) rfl ?_
        show Steps p.tables e below (T181.setTop (mkF m 172 #[.val (.int p1), .val (.int p2), .val (.int (Int32.ofNat j.val)), .val (.double (mnF j.val)), .second, .val (.int (Int32.ofNat (j.val / 4))), .val (.int (4 : Int32)), .val (.ref ob), .val (.int (3 : Int32)), .val (.double (FP.ddiv (FP.ddiv (FP.dmul (WF j.val 3) (mnF j.val)) (FP.i2d ((3 : Int32) + (1 : Int32)))) (FP.dsub FP.dconst1 (FP.ddiv (mnF j.val) (FP.i2d ((3 : Int32) + (2 : Int32))))))), .second, .val (.double (WF j.val 4)), .second, .val (.double (WF j.val 5)), .second, .val (.double d162), .second] [(.double d162), (.double FP.dconst1), (.double (WF j.val 4)), (.double (FP.ddiv (FP.ddiv (FP.dmul (WF j.val 3) (mnF j.val)) (FP.i2d ((3 : Int32) + (1 : Int32)))) (FP.dsub FP.dconst1 (FP.ddiv (mnF j.val) (FP.i2d ((3 : Int32) + (2 : Int32)))))))])) _
        refine XS.dsubS X181.here hx rfl (hb hby at_172) rfl n172 hd172 ?_
        show Steps p.tables e below (T181.setTop (mkF m 173 #[.val (.int p1), .val (.int p2), .val (.int (Int32.ofNat j.val)), .val (.double (mnF j.val)), .second, .val (.int (Int32.ofNat (j.val / 4))), .val (.int (4 : Int32)), .val (.ref ob), .val (.int (3 : Int32)), .val (.double (FP.ddiv (FP.ddiv (FP.dmul (WF j.val 3) (mnF j.val)) (FP.i2d ((3 : Int32) + (1 : Int32)))) (FP.dsub FP.dconst1 (FP.ddiv (mnF j.val) (FP.i2d ((3 : Int32) + (2 : Int32))))))), .second, .val (.double (WF j.val 4)), .second, .val (.double (WF j.val 5)), .second, .val (.double d162), .second] [(.double d172), (.double (WF j.val 4)), (.double (FP.ddiv (FP.ddiv (FP.dmul (WF j.val 3) (mnF j.val)) (FP.i2d ((3 : Int32) + (1 : Int32)))) (FP.dsub FP.dconst1 (FP.ddiv (mnF j.val) (FP.i2d ((3 : Int32) + (2 : Int32)))))))])) _
        refine XS.ddivS X181.here hx rfl (hb hby at_173) rfl n173 hd173 ?_
        show Steps p.tables e below (T181.setTop (mkF m 174 #[.val (.int p1), .val (.int p2), .val (.int (Int32.ofNat j.val)), .val (.double (mnF j.val)), .second, .val (.int (Int32.ofNat (j.val / 4))), .val (.int (4 : Int32)), .val (.ref ob), .val (.int (3 : Int32)), .val (.double (FP.ddiv (FP.ddiv (FP.dmul (WF j.val 3) (mnF j.val)) (FP.i2d ((3 : Int32) + (1 : Int32)))) (FP.dsub FP.dconst1 (FP.ddiv (mnF j.val) (FP.i2d ((3 : Int32) + (2 : Int32))))))), .second, .val (.double (WF j.val 4)), .second, .val (.double (WF j.val 5)), .second, .val (.double d162), .second] [(.double d173), (.double (FP.ddiv (FP.ddiv (FP.dmul (WF j.val 3) (mnF j.val)) (FP.i2d ((3 : Int32) + (1 : Int32)))) (FP.dsub FP.dconst1 (FP.ddiv (mnF j.val) (FP.i2d ((3 : Int32) + (2 : Int32)))))))])) _
        refine XS.dcmpS X181.here hx rfl (hb hby at_174) rfl hk174 ?_
        show Steps p.tables e below (T181.setTop (mkF m 175 #[.val (.int p1), .val (.int p2), .val (.int (Int32.ofNat j.val)), .val (.double (mnF j.val)), .second, .val (.int (Int32.ofNat (j.val / 4))), .val (.int (4 : Int32)), .val (.ref ob), .val (.int (3 : Int32)), .val (.double (FP.ddiv (FP.ddiv (FP.dmul (WF j.val 3) (mnF j.val)) (FP.i2d ((3 : Int32) + (1 : Int32)))) (FP.dsub FP.dconst1 (FP.ddiv (mnF j.val) (FP.i2d ((3 : Int32) + (2 : Int32))))))), .second, .val (.double (WF j.val 4)), .second, .val (.double (WF j.val 5)), .second, .val (.double d162), .second] [(.int k174)])) _
        refine XS.ifNo X181.here hx rfl (hb hby at_175) rfl (XT.i0_ne_f e174) ?_
        show Steps p.tables e below (T181.setTop (mkF m 178 #[.val (.int p1), .val (.int p2), .val (.int (Int32.ofNat j.val)), .val (.double (mnF j.val)), .second, .val (.int (Int32.ofNat (j.val / 4))), .val (.int (4 : Int32)), .val (.ref ob), .val (.int (3 : Int32)), .val (.double (FP.ddiv (FP.ddiv (FP.dmul (WF j.val 3) (mnF j.val)) (FP.i2d ((3 : Int32) + (1 : Int32)))) (FP.dsub FP.dconst1 (FP.ddiv (mnF j.val) (FP.i2d ((3 : Int32) + (2 : Int32))))))), .second, .val (.double (WF j.val 4)), .second, .val (.double (WF j.val 5)), .second, .val (.double d162), .second] [])) _
        refine XS.dload X181.here hx rfl (hb hby at_178) rfl ?_
        show Steps p.tables e below (T181.setTop (mkF m 180 #[.val (.int p1), .val (.int p2), .val (.int (Int32.ofNat j.val)), .val (.double (mnF j.val)), .second, .val (.int (Int32.ofNat (j.val / 4))), .val (.int (4 : Int32)), .val (.ref ob), .val (.int (3 : Int32)), .val (.double (FP.ddiv (FP.ddiv (FP.dmul (WF j.val 3) (mnF j.val)) (FP.i2d ((3 : Int32) + (1 : Int32)))) (FP.dsub FP.dconst1 (FP.ddiv (mnF j.val) (FP.i2d ((3 : Int32) + (2 : Int32))))))), .second, .val (.double (WF j.val 4)), .second, .val (.double (WF j.val 5)), .second, .val (.double d162), .second] [(.double (FP.ddiv (FP.ddiv (FP.dmul (WF j.val 3) (mnF j.val)) (FP.i2d ((3 : Int32) + (1 : Int32)))) (FP.dsub FP.dconst1 (FP.ddiv (mnF j.val) (FP.i2d ((3 : Int32) + (2 : Int32)))))))])) _
        refine XS.dload X181.here hx rfl (hb hby at_180) rfl ?_
        show Steps p.tables e below (T181.setTop (mkF m 182 #[.val (.int p1), .val (.int p2), .val (.int (Int32.ofNat j.val)), .val (.double (mnF j.val)), .second, .val (.int (Int32.ofNat (j.val / 4))), .val (.int (4 : Int32)), .val (.ref ob), .val (.int (3 : Int32)), .val (.double (FP.ddiv (FP.ddiv (FP.dmul (WF j.val 3) (mnF j.val)) (FP.i2d ((3 : Int32) + (1 : Int32)))) (FP.dsub FP.dconst1 (FP.ddiv (mnF j.val) (FP.i2d ((3 : Int32) + (2 : Int32))))))), .second, .val (.double (WF j.val 4)), .second, .val (.double (WF j.val 5)), .second, .val (.double d162), .second] [(.double (WF j.val 4)), (.double (FP.ddiv (FP.ddiv (FP.dmul (WF j.val 3) (mnF j.val)) (FP.i2d ((3 : Int32) + (1 : Int32)))) (FP.dsub FP.dconst1 (FP.ddiv (mnF j.val) (FP.i2d ((3 : Int32) + (2 : Int32)))))))])) _
        refine XS.dload X181.here hx rfl (hb hby at_182) rfl ?_
        show Steps p.tables e below (T181.setTop (mkF m 184 #[.val (.int p1), .val (.int p2), .val (.int (Int32.ofNat j.val)), .val (.double (mnF j.val)), .second, .val (.int (Int32.ofNat (j.val / 4))), .val (.int (4 : Int32)), .val (.ref ob), .val (.int (3 : Int32)), .val (.double (FP.ddiv (FP.ddiv (FP.dmul (WF j.val 3) (mnF j.val)) (FP.i2d ((3 : Int32) + (1 : Int32)))) (FP.dsub FP.dconst1 (FP.ddiv (mnF j.val) (FP.i2d ((3 : Int32) + (2 : Int32))))))), .second, .val (.double (WF j.val 4)), .second, .val (.double (WF j.val 5)), .second, .val (.double d162), .second] [(.double (WF j.val 5)), (.double (WF j.val 4)), (.double (FP.ddiv (FP.ddiv (FP.dmul (WF j.val 3) (mnF j.val)) (FP.i2d ((3 : Int32) + (1 : Int32)))) (FP.dsub FP.dconst1 (FP.ddiv (mnF j.val) (FP.i2d ((3 : Int32) + (2 : Int32)))))))])) _
        refine XS.daddS X181.here hx rfl (hb hby at_184) rfl (nn_of l5) hd184 ?_
        show Steps p.tables e below (T181.setTop (mkF m 185 #[.val (.int p1), .val (.int p2), .val (.int (Int32.ofNat j.val)), .val (.double (mnF j.val)), .second, .val (.int (Int32.ofNat (j.val / 4))), .val (.int (4 : Int32)), .val (.ref ob), .val (.int (3 : Int32)), .val (.double (FP.ddiv (FP.ddiv (FP.dmul (WF j.val 3) (mnF j.val)) (FP.i2d ((3 : Int32) + (1 : Int32)))) (FP.dsub FP.dconst1 (FP.ddiv (mnF j.val) (FP.i2d ((3 : Int32) + (2 : Int32))))))), .second, .val (.double (WF j.val 4)), .second, .val (.double (WF j.val 5)), .second, .val (.double d162), .second] [(.double d184), (.double (FP.ddiv (FP.ddiv (FP.dmul (WF j.val 3) (mnF j.val)) (FP.i2d ((3 : Int32) + (1 : Int32)))) (FP.dsub FP.dconst1 (FP.ddiv (mnF j.val) (FP.i2d ((3 : Int32) + (2 : Int32)))))))])) _
        refine XS.dcmpS X181.here hx rfl (hb hby at_185) rfl hk185 ?_
        show Steps p.tables e below (T181.setTop (mkF m 186 #[.val (.int p1), .val (.int p2), .val (.int (Int32.ofNat j.val)), .val (.double (mnF j.val)), .second, .val (.int (Int32.ofNat (j.val / 4))), .val (.int (4 : Int32)), .val (.ref ob), .val (.int (3 : Int32)), .val (.double (FP.ddiv (FP.ddiv (FP.dmul (WF j.val 3) (mnF j.val)) (FP.i2d ((3 : Int32) + (1 : Int32)))) (FP.dsub FP.dconst1 (FP.ddiv (mnF j.val) (FP.i2d ((3 : Int32) + (2 : Int32))))))), .second, .val (.double (WF j.val 4)), .second, .val (.double (WF j.val 5)), .second, .val (.double d162), .second] [(.int k185)])) _
        refine XS.ifNo X181.here hx rfl (hb hby at_186) rfl (XT.i0_lt_f e185) ?_
        show Steps p.tables e below (T181.setTop (mkF m 189 #[.val (.int p1), .val (.int p2), .val (.int (Int32.ofNat j.val)), .val (.double (mnF j.val)), .second, .val (.int (Int32.ofNat (j.val / 4))), .val (.int (4 : Int32)), .val (.ref ob), .val (.int (3 : Int32)), .val (.double (FP.ddiv (FP.ddiv (FP.dmul (WF j.val 3) (mnF j.val)) (FP.i2d ((3 : Int32) + (1 : Int32)))) (FP.dsub FP.dconst1 (FP.ddiv (mnF j.val) (FP.i2d ((3 : Int32) + (2 : Int32))))))), .second, .val (.double (WF j.val 4)), .second, .val (.double (WF j.val 5)), .second, .val (.double d162), .second] [])) _
        refine XS.iconst X181.here hx rfl (hb hby at_189) ?_
        show Steps p.tables e below (T181.setTop (mkF m 190 #[.val (.int p1), .val (.int p2), .val (.int (Int32.ofNat j.val)), .val (.double (mnF j.val)), .second, .val (.int (Int32.ofNat (j.val / 4))), .val (.int (4 : Int32)), .val (.ref ob), .val (.int (3 : Int32)), .val (.double (FP.ddiv (FP.ddiv (FP.dmul (WF j.val 3) (mnF j.val)) (FP.i2d ((3 : Int32) + (1 : Int32)))) (FP.dsub FP.dconst1 (FP.ddiv (mnF j.val) (FP.i2d ((3 : Int32) + (2 : Int32))))))), .second, .val (.double (WF j.val 4)), .second, .val (.double (WF j.val 5)), .second, .val (.double d162), .second] [(.int (1 : Int32))])) _
        refine XS.goto X181.here hx rfl (pc0 := 190) (pc' := 194) rfl (hb hby at_190) (by decide) (by decide) ?_
        show Steps p.tables e below (T181.setTop (mkF m 194 #[.val (.int p1), .val (.int p2), .val (.int (Int32.ofNat j.val)), .val (.double (mnF j.val)), .second, .val (.int (Int32.ofNat (j.val / 4))), .val (.int (4 : Int32)), .val (.ref ob), .val (.int (3 : Int32)), .val (.double (FP.ddiv (FP.ddiv (FP.dmul (WF j.val 3) (mnF j.val)) (FP.i2d ((3 : Int32) + (1 : Int32)))) (FP.dsub FP.dconst1 (FP.ddiv (mnF j.val) (FP.i2d ((3 : Int32) + (2 : Int32))))))), .second, .val (.double (WF j.val 4)), .second, .val (.double (WF j.val 5)), .second, .val (.double d162), .second] [(.int (1 : Int32))])) _
        exact k)
      obtain ⟨fs, hr, hrun, hended, hW, hsame⟩ := X181.leave (v := (some (.int (1 : Int32)))) (fun h => by rw [Bd.returns] at h; cases h)
      refine ⟨_, _, pre0 _ (c185 _ (retN X181 hx (t := .boolean) Bd.returns (by simp) (hb hby at_194) hr)), hrun, hended, _, _, rfl, ?_, ⟨_, rfl⟩, hW, hsame.mono (by decide) (by decide)⟩
      show Q_0 Z p1 p2 h0 n0 _ T181.heap _
      exact ⟨rfl, M181⟩
  · rw [nk] at c3
    obtain ⟨T186, h186, X186, e186, E186, A186, D186, -, st186⟩ := newO X0 hx hZ hown (hw _ (List.mem_of_getElem? (i := 2) rfl)) (hw _ (List.mem_of_getElem? (i := 3) rfl)) (hw _ (List.mem_of_getElem? (i := 4) rfl)) e0 (g := (mkF m 26 #[.val (.int p1), .val (.int p2), .val (.int (Int32.ofNat j.val)), .val (.double (mnF j.val)), .second, .val (.int (Int32.ofNat (j.val / 4))), .val (.int (5 : Int32)), .unset, .unset, .unset, .unset, .unset, .unset, .unset, .unset, .unset, .unset] [])) rfl (hb hby at_26) (by decide) (by decide)
    obtain ⟨ob, g186⟩ : ∃ z, z = h0.size := ⟨_, rfl⟩
    rw [← g186] at A186 D186 st186
    have F187 : Fld Z h186 ob "com/example/topple/topple/markov/PoissonWeights" "count" "I" (.int (0 : Int32)) := (D186 (Or.inl (hw _ (List.mem_of_getElem? (i := 12) rfl))) (ty := .int) (by decide))
    have F188 : Fld Z h186 ob "com/example/topple/topple/markov/PoissonWeights" "mean" "D" (.double (0 : UInt64)) := (D186 (Or.inr (hw _ (List.mem_of_getElem? (i := 14) rfl))) (ty := .double) (by decide))
    have F189 : Fld Z h186 ob "com/example/topple/topple/markov/PoissonWeights" "mode" "I" (.int (0 : Int32)) := (D186 (Or.inr (hw _ (List.mem_of_getElem? (i := 16) rfl))) (ty := .int) (by decide))
    have F190 : Fld Z h186 ob "com/example/topple/topple/markov/PoissonWeights" "fewest" "I" (.int (0 : Int32)) := (D186 (Or.inr (hw _ (List.mem_of_getElem? (i := 18) rfl))) (ty := .int) (by decide))
    have F191 : Fld Z h186 ob "com/example/topple/topple/markov/PoissonWeights" "toMode" "[D" .null := (D186 (Or.inr (hw _ (List.mem_of_getElem? (i := 21) rfl))) (ty := (.array .double)) (by decide))
    have F192 : Fld Z h186 ob "com/example/topple/topple/markov/PoissonWeights" "weight" "D" (.double (0 : UInt64)) := (D186 (Or.inl (hw _ (List.mem_of_getElem? (i := 28) rfl))) (ty := .double) (by decide))
    have c193 : ∀ t, Steps p.tables e below (T186.setTop (mkF m 29 #[.val (.int p1), .val (.int p2), .val (.int (Int32.ofNat j.val)), .val (.double (mnF j.val)), .second, .val (.int (Int32.ofNat (j.val / 4))), .val (.int (5 : Int32)), .unset, .unset, .unset, .unset, .unset, .unset, .unset, .unset, .unset, .unset] [(.ref ob)])) t → Steps p.tables e below (s₁.setTop (entryFrame m #[(.int p1), (.int p2)] maxLocals)) t := fun t k => c3 t (st186 _ k)
    have c194 : ∀ t, Steps p.tables e below (T186.setTop (mkF m 31 #[.val (.int p1), .val (.int p2), .val (.int (Int32.ofNat j.val)), .val (.double (mnF j.val)), .second, .val (.int (Int32.ofNat (j.val / 4))), .val (.int (5 : Int32)), .unset, .unset, .unset, .unset, .unset, .unset, .unset, .unset, .unset, .unset] [(.double (mnF j.val)), (.ref ob), (.ref ob)])) t → Steps p.tables e below (s₁.setTop (entryFrame m #[(.int p1), (.int p2)] maxLocals)) t := fun t k => c193 t (by
      show Steps p.tables e below (T186.setTop (mkF m 29 #[.val (.int p1), .val (.int p2), .val (.int (Int32.ofNat j.val)), .val (.double (mnF j.val)), .second, .val (.int (Int32.ofNat (j.val / 4))), .val (.int (5 : Int32)), .unset, .unset, .unset, .unset, .unset, .unset, .unset, .unset, .unset, .unset] [(.ref ob)])) _
      refine XS.dup X186.here hx rfl (hb hby at_29) rfl rfl ?_
      show Steps p.tables e below (T186.setTop (mkF m 30 #[.val (.int p1), .val (.int p2), .val (.int (Int32.ofNat j.val)), .val (.double (mnF j.val)), .second, .val (.int (Int32.ofNat (j.val / 4))), .val (.int (5 : Int32)), .unset, .unset, .unset, .unset, .unset, .unset, .unset, .unset, .unset, .unset] [(.ref ob), (.ref ob)])) _
      refine XS.dloadN X186.here hx rfl (hb hby at_30) rfl ?_
      show Steps p.tables e below (T186.setTop (mkF m 31 #[.val (.int p1), .val (.int p2), .val (.int (Int32.ofNat j.val)), .val (.double (mnF j.val)), .second, .val (.int (Int32.ofNat (j.val / 4))), .val (.int (5 : Int32)), .unset, .unset, .unset, .unset, .unset, .unset, .unset, .unset, .unset, .unset] [(.double (mnF j.val)), (.ref ob), (.ref ob)])) _
      exact k)
    obtain ⟨_, _, ⟨T195, L195, k195', n195⟩, -, X195, ⟨Lc195, hQ195, l195, y195, z195⟩, st195⟩ := X186.specialBack hx (y := (⟨"com/example/topple/topple/markov/PoissonWeights", "<init>", "(D)V"⟩ : MethodName)) rfl hown (mvT hZ (hw _ (List.mem_of_getElem? (i := 5) rfl))) (mvT hZ (hw _ (List.mem_of_getElem? (i := 6) rfl))) (mvT hZ (hw _ (List.mem_of_getElem? (i := 7) rfl))) (by decide) (backOf (W := 1) (rm_ct l Z a0 hw [] ob (mnF j.val) (j.val / 4) 0 (prF j.val) (tmF j.val) h186 n0 (Nat.le_trans Z0 E186.1) A186 F187 F188 F189 F190 F191 F192 (Nat.le_trans Z0 (Nat.le_of_eq g186.symm)) (by omega) (Nat.zero_le _) (by omega) (mn_md j) rfl (fun k hk => by
          obtain ⟨x1, x2, x3⟩ := hp_c j ⟨k, by omega⟩ hk
          exact ⟨nn_of x1, rfl, nn_of x2, x3⟩) (Or.inl rfl) rfl (fun k hk => by
          obtain ⟨x1, x2⟩ := ht_c j ⟨k, by omega⟩ hk
          exact ⟨nn_of x1, nn_of x2, rfl⟩)) hZ (hw _ (List.mem_of_getElem? (i := 7) rfl)) (hw _ (List.mem_of_getElem? (i := 4) rfl)) (by decide) (by decide)) (g := (mkF m 31 #[.val (.int p1), .val (.int p2), .val (.int (Int32.ofNat j.val)), .val (.double (mnF j.val)), .second, .val (.int (Int32.ofNat (j.val / 4))), .val (.int (5 : Int32)), .unset, .unset, .unset, .unset, .unset, .unset, .unset, .unset, .unset, .unset] [(.double (mnF j.val)), (.ref ob), (.ref ob)])) rfl (by rw [hml]; rfl) (Steps.refl _) (a := ob) (argsL := [(.double (mnF j.val))]) (rest := [(.ref ob)]) (lenOf pd__D_V rfl) rfl (by show 2 * 0 + _ ≤ _; exact Nat.le_of_eq rfl) (hb hby at_31) (fun _ _ => ⟨rfl, e186, (by decide : 1 + 1 ≤ _), (by decide : 6 + 8 ≤ _)⟩)
    dsimp only [Pt.U, Pt.locs, Pt.cells, Pt.slots] at X195 l195 y195 z195 st195 hQ195
    subst l195 y195 z195
    obtain ⟨ta, rfl, N195, K195, ne195, G195_0, G195_1, G195_2, G195_3, G195_4, G195_5, G195_6, G195_7⟩ := hQ195
    have M195 := Fr.app N0 N195
    have F196 : Exa Z T195.heap ob "com/example/topple/topple/markov/PoissonWeights" := (A186.keep K195)
    have c197 : ∀ t, Steps p.tables e below (T195.setTop (mkF m 34 #[.val (.int p1), .val (.int p2), .val (.int (Int32.ofNat j.val)), .val (.double (mnF j.val)), .second, .val (.int (Int32.ofNat (j.val / 4))), .val (.int (5 : Int32)), .unset, .unset, .unset, .unset, .unset, .unset, .unset, .unset, .unset, .unset] [(.ref ob)])) t → Steps p.tables e below (s₁.setTop (entryFrame m #[(.int p1), (.int p2)] maxLocals)) t := fun t k => c194 t (st195.trans k)
    have c198 : ∀ t, Steps p.tables e below (T195.setTop (mkF m 43 #[.val (.int p1), .val (.int p2), .val (.int (Int32.ofNat j.val)), .val (.double (mnF j.val)), .second, .val (.int (Int32.ofNat (j.val / 4))), .val (.int (5 : Int32)), .val (.ref ob), .unset, .unset, .unset, .unset, .unset, .unset, .unset, .unset, .unset] [(.ref ob)])) t → Steps p.tables e below (s₁.setTop (entryFrame m #[(.int p1), (.int p2)] maxLocals)) t := fun t k => c197 t (by
      show Steps p.tables e below (T195.setTop (mkF m 34 #[.val (.int p1), .val (.int p2), .val (.int (Int32.ofNat j.val)), .val (.double (mnF j.val)), .second, .val (.int (Int32.ofNat (j.val / 4))), .val (.int (5 : Int32)), .unset, .unset, .unset, .unset, .unset, .unset, .unset, .unset, .unset, .unset] [(.ref ob)])) _
      refine XS.astore X195.here hx rfl (hb hby at_34) rfl rfl (l' := #[.val (.int p1), .val (.int p2), .val (.int (Int32.ofNat j.val)), .val (.double (mnF j.val)), .second, .val (.int (Int32.ofNat (j.val / 4))), .val (.int (5 : Int32)), .val (.ref ob), .unset, .unset, .unset, .unset, .unset, .unset, .unset, .unset, .unset]) rfl ?_
      show Steps p.tables e below (T195.setTop (mkF m 36 #[.val (.int p1), .val (.int p2), .val (.int (Int32.ofNat j.val)), .val (.double (mnF j.val)), .second, .val (.int (Int32.ofNat (j.val / 4))), .val (.int (5 : Int32)), .val (.ref ob), .unset, .unset, .unset, .unset, .unset, .unset, .unset, .unset, .unset] [])) _
      refine XS.iload X195.here hx rfl (hb hby at_36) rfl ?_
      show Steps p.tables e below (T195.setTop (mkF m 38 #[.val (.int p1), .val (.int p2), .val (.int (Int32.ofNat j.val)), .val (.double (mnF j.val)), .second, .val (.int (Int32.ofNat (j.val / 4))), .val (.int (5 : Int32)), .val (.ref ob), .unset, .unset, .unset, .unset, .unset, .unset, .unset, .unset, .unset] [(.int (5 : Int32))])) _
      refine XS.ifNo X195.here hx rfl (hb hby at_38) rfl (XT.i0_le_f (by decide)) ?_
      show Steps p.tables e below (T195.setTop (mkF m 41 #[.val (.int p1), .val (.int p2), .val (.int (Int32.ofNat j.val)), .val (.double (mnF j.val)), .second, .val (.int (Int32.ofNat (j.val / 4))), .val (.int (5 : Int32)), .val (.ref ob), .unset, .unset, .unset, .unset, .unset, .unset, .unset, .unset, .unset] [])) _
      refine XS.aload X195.here hx rfl (hb hby at_41) rfl rfl ?_
      show Steps p.tables e below (T195.setTop (mkF m 43 #[.val (.int p1), .val (.int p2), .val (.int (Int32.ofNat j.val)), .val (.double (mnF j.val)), .second, .val (.int (Int32.ofNat (j.val / 4))), .val (.int (5 : Int32)), .val (.ref ob), .unset, .unset, .unset, .unset, .unset, .unset, .unset, .unset, .unset] [(.ref ob)])) _
      exact k)
    obtain ⟨cq199, kq199, q199a, q199b, q199c⟩ := isOf hZ rfl G195_0
    obtain ⟨_, _, ⟨T199, L199, k199', n199⟩, -, X199, ⟨Lc199, hQ199, l199, y199, z199⟩, st199⟩ := X195.virtualBack hx (y := (⟨"com/example/topple/topple/markov/PoissonWeights", "next", "()D"⟩ : MethodName)) (z := (⟨"com/example/topple/topple/markov/PoissonWeights", "next", "()D"⟩ : MethodName)) hown (mvT hZ (hw _ (List.mem_of_getElem? (i := 22) rfl))) (mvT hZ (hw _ (List.mem_of_getElem? (i := 23) rfl))) (notFace_of_selects (args := #[]) (mvT hZ (hw _ (List.mem_of_getElem? (i := 25) rfl)))) (mvT hZ (hw _ (List.mem_of_getElem? (i := 25) rfl))) (mvT hZ (hw _ (List.mem_of_getElem? (i := 24) rfl))) (by decide) (backOf (W := 0) (rm_nx l Z a0 hw [] ob ta (mnF j.val) (-1 : Int32) (0 : Int32) (Int32.ofNat (j.val / 4)) (Int32.ofNat 0) (0 : UInt64) (WF j.val 0) (j.val / 4 - 0 + 1) 0 (fun i => tmF j.val (j.val / 4 - 0 - i)) T195.heap n0 (Nat.le_trans (Nat.le_trans Z0 E186.1) K195.1) G195_0 G195_1 G195_2 G195_3 G195_4 G195_5 G195_6 (Nat.le_trans Z0 (Nat.le_of_eq g186.symm)) (by decide) ne195 G195_7 (by decide) (nlo_0 j) (fun q => by
          obtain ⟨x1, x2, x3⟩ := nhi_0 j q
          exact ⟨nn_of x1, nn_of x2, x3⟩)) hZ (hw _ (List.mem_of_getElem? (i := 26) rfl)) (hw _ (List.mem_of_getElem? (i := 4) rfl)) (by decide) (by decide)) q199a q199c (g := (mkF m 43 #[.val (.int p1), .val (.int p2), .val (.int (Int32.ofNat j.val)), .val (.double (mnF j.val)), .second, .val (.int (Int32.ofNat (j.val / 4))), .val (.int (5 : Int32)), .val (.ref ob), .unset, .unset, .unset, .unset, .unset, .unset, .unset, .unset, .unset] [(.ref ob)])) rfl (by rw [hml]; rfl) (Steps.refl _) (argsL := []) (rest := []) (lenOf pd___D rfl) rfl (by show 2 * 0 + _ ≤ _; exact Nat.le_of_eq rfl) (hb hby at_43) (fun _ _ => ⟨rfl, rfl, (by decide : 2 + 0 ≤ _), (by decide : 14 + 0 ≤ _)⟩)
    dsimp only [Pt.U, Pt.locs, Pt.cells, Pt.slots] at X199 l199 y199 z199 st199 hQ199
    subst l199 y199 z199
    obtain ⟨rfl, N199, K199, G199_0, G199_1, G199_2, G199_3, G199_4, G199_5, G199_6⟩ := hQ199
    have M199 := Fr.app M195 N199
    have F200 : Exa Z T199.heap ob "com/example/topple/topple/markov/PoissonWeights" := (G195_0.keep K199)
    have F201 : OwnArr.Ag Z T199.heap ta .double (j.val / 4 - 0 + 1) (fun i => .double (tmF j.val (j.val / 4 - 0 - i))) := (G195_7.keep K199 (ninS ne195 nin0))
    have c202 : ∀ t, Steps p.tables e below (T199.setTop (mkF m 46 #[.val (.int p1), .val (.int p2), .val (.int (Int32.ofNat j.val)), .val (.double (mnF j.val)), .second, .val (.int (Int32.ofNat (j.val / 4))), .val (.int (5 : Int32)), .val (.ref ob), .unset, .unset, .unset, .unset, .unset, .unset, .unset, .unset, .unset] [(.double (WF j.val 0))])) t → Steps p.tables e below (s₁.setTop (entryFrame m #[(.int p1), (.int p2)] maxLocals)) t := fun t k => c198 t (st199.trans k)
    have c203 : ∀ t, Steps p.tables e below (T199.setTop (mkF m 55 #[.val (.int p1), .val (.int p2), .val (.int (Int32.ofNat j.val)), .val (.double (mnF j.val)), .second, .val (.int (Int32.ofNat (j.val / 4))), .val (.int (5 : Int32)), .val (.ref ob), .unset, .unset, .unset, .unset, .unset, .unset, .unset, .unset, .unset] [(.ref ob)])) t → Steps p.tables e below (s₁.setTop (entryFrame m #[(.int p1), (.int p2)] maxLocals)) t := fun t k => c202 t (by
      show Steps p.tables e below (T199.setTop (mkF m 46 #[.val (.int p1), .val (.int p2), .val (.int (Int32.ofNat j.val)), .val (.double (mnF j.val)), .second, .val (.int (Int32.ofNat (j.val / 4))), .val (.int (5 : Int32)), .val (.ref ob), .unset, .unset, .unset, .unset, .unset, .unset, .unset, .unset, .unset] [(.double (WF j.val 0))])) _
      refine Jvm.OwnP2.pop2D X199.here hx rfl (hb hby at_46) rfl ?_
      show Steps p.tables e below (T199.setTop (mkF m 47 #[.val (.int p1), .val (.int p2), .val (.int (Int32.ofNat j.val)), .val (.double (mnF j.val)), .second, .val (.int (Int32.ofNat (j.val / 4))), .val (.int (5 : Int32)), .val (.ref ob), .unset, .unset, .unset, .unset, .unset, .unset, .unset, .unset, .unset] [])) _
      refine XS.iload X199.here hx rfl (hb hby at_47) rfl ?_
      show Steps p.tables e below (T199.setTop (mkF m 49 #[.val (.int p1), .val (.int p2), .val (.int (Int32.ofNat j.val)), .val (.double (mnF j.val)), .second, .val (.int (Int32.ofNat (j.val / 4))), .val (.int (5 : Int32)), .val (.ref ob), .unset, .unset, .unset, .unset, .unset, .unset, .unset, .unset, .unset] [(.int (5 : Int32))])) _
      refine XS.iconst X199.here hx rfl (hb hby at_49) ?_
      show Steps p.tables e below (T199.setTop (mkF m 50 #[.val (.int p1), .val (.int p2), .val (.int (Int32.ofNat j.val)), .val (.double (mnF j.val)), .second, .val (.int (Int32.ofNat (j.val / 4))), .val (.int (5 : Int32)), .val (.ref ob), .unset, .unset, .unset, .unset, .unset, .unset, .unset, .unset, .unset] [(.int (1 : Int32)), (.int (5 : Int32))])) _
      refine XS.icmpNo X199.here hx rfl (hb hby at_50) rfl (XT.ii_le_f (by decide)) ?_
      show Steps p.tables e below (T199.setTop (mkF m 53 #[.val (.int p1), .val (.int p2), .val (.int (Int32.ofNat j.val)), .val (.double (mnF j.val)), .second, .val (.int (Int32.ofNat (j.val / 4))), .val (.int (5 : Int32)), .val (.ref ob), .unset, .unset, .unset, .unset, .unset, .unset, .unset, .unset, .unset] [])) _
      refine XS.aload X199.here hx rfl (hb hby at_53) rfl rfl ?_
      show Steps p.tables e below (T199.setTop (mkF m 55 #[.val (.int p1), .val (.int p2), .val (.int (Int32.ofNat j.val)), .val (.double (mnF j.val)), .second, .val (.int (Int32.ofNat (j.val / 4))), .val (.int (5 : Int32)), .val (.ref ob), .unset, .unset, .unset, .unset, .unset, .unset, .unset, .unset, .unset] [(.ref ob)])) _
      exact k)
    obtain ⟨cq204, kq204, q204a, q204b, q204c⟩ := isOf hZ rfl G199_0
    obtain ⟨_, _, ⟨T204, L204, k204', n204⟩, -, X204, ⟨Lc204, hQ204, l204, y204, z204⟩, st204⟩ := X199.virtualBack hx (y := (⟨"com/example/topple/topple/markov/PoissonWeights", "next", "()D"⟩ : MethodName)) (z := (⟨"com/example/topple/topple/markov/PoissonWeights", "next", "()D"⟩ : MethodName)) hown (mvT hZ (hw _ (List.mem_of_getElem? (i := 22) rfl))) (mvT hZ (hw _ (List.mem_of_getElem? (i := 23) rfl))) (notFace_of_selects (args := #[]) (mvT hZ (hw _ (List.mem_of_getElem? (i := 25) rfl)))) (mvT hZ (hw _ (List.mem_of_getElem? (i := 25) rfl))) (mvT hZ (hw _ (List.mem_of_getElem? (i := 24) rfl))) (by decide) (backOf (W := 0) (rm_nx l Z a0 hw [] ob ta (mnF j.val) (0 : Int32) (1 : Int32) (Int32.ofNat (j.val / 4)) (Int32.ofNat 0) (WF j.val 0) (WF j.val 1) (j.val / 4 - 0 + 1) 1 (fun i => tmF j.val (j.val / 4 - 0 - i)) T199.heap n0 (Nat.le_trans (Nat.le_trans (Nat.le_trans Z0 E186.1) K195.1) K199.1) G199_0 G199_1 G199_2 G199_3 G199_4 G199_5 G199_6 (Nat.le_trans Z0 (Nat.le_of_eq g186.symm)) (by decide) ne195 F201 (by decide) (nlo_1 j) (fun q => by
          obtain ⟨x1, x2, x3⟩ := nhi_1 j q
          exact ⟨nn_of x1, nn_of x2, x3⟩)) hZ (hw _ (List.mem_of_getElem? (i := 26) rfl)) (hw _ (List.mem_of_getElem? (i := 4) rfl)) (by decide) (by decide)) q204a q204c (g := (mkF m 55 #[.val (.int p1), .val (.int p2), .val (.int (Int32.ofNat j.val)), .val (.double (mnF j.val)), .second, .val (.int (Int32.ofNat (j.val / 4))), .val (.int (5 : Int32)), .val (.ref ob), .unset, .unset, .unset, .unset, .unset, .unset, .unset, .unset, .unset] [(.ref ob)])) rfl (by rw [hml]; rfl) (Steps.refl _) (argsL := []) (rest := []) (lenOf pd___D rfl) rfl (by show 2 * 0 + _ ≤ _; exact Nat.le_of_eq rfl) (hb hby at_55) (fun _ _ => ⟨rfl, rfl, (by decide : 2 + 0 ≤ _), (by decide : 14 + 0 ≤ _)⟩)
    dsimp only [Pt.U, Pt.locs, Pt.cells, Pt.slots] at X204 l204 y204 z204 st204 hQ204
    subst l204 y204 z204
    obtain ⟨rfl, N204, K204, G204_0, G204_1, G204_2, G204_3, G204_4, G204_5, G204_6⟩ := hQ204
    have M204 := Fr.app M199 N204
    have F205 : Exa Z T204.heap ob "com/example/topple/topple/markov/PoissonWeights" := (G199_0.keep K204)
    have F206 : OwnArr.Ag Z T204.heap ta .double (j.val / 4 - 0 + 1) (fun i => .double (tmF j.val (j.val / 4 - 0 - i))) := (F201.keep K204 (ninS ne195 nin0))
    have c207 : ∀ t, Steps p.tables e below (T204.setTop (mkF m 58 #[.val (.int p1), .val (.int p2), .val (.int (Int32.ofNat j.val)), .val (.double (mnF j.val)), .second, .val (.int (Int32.ofNat (j.val / 4))), .val (.int (5 : Int32)), .val (.ref ob), .unset, .unset, .unset, .unset, .unset, .unset, .unset, .unset, .unset] [(.double (WF j.val 1))])) t → Steps p.tables e below (s₁.setTop (entryFrame m #[(.int p1), (.int p2)] maxLocals)) t := fun t k => c203 t (st204.trans k)
    have c208 : ∀ t, Steps p.tables e below (T204.setTop (mkF m 67 #[.val (.int p1), .val (.int p2), .val (.int (Int32.ofNat j.val)), .val (.double (mnF j.val)), .second, .val (.int (Int32.ofNat (j.val / 4))), .val (.int (5 : Int32)), .val (.ref ob), .unset, .unset, .unset, .unset, .unset, .unset, .unset, .unset, .unset] [(.ref ob)])) t → Steps p.tables e below (s₁.setTop (entryFrame m #[(.int p1), (.int p2)] maxLocals)) t := fun t k => c207 t (by
      show Steps p.tables e below (T204.setTop (mkF m 58 #[.val (.int p1), .val (.int p2), .val (.int (Int32.ofNat j.val)), .val (.double (mnF j.val)), .second, .val (.int (Int32.ofNat (j.val / 4))), .val (.int (5 : Int32)), .val (.ref ob), .unset, .unset, .unset, .unset, .unset, .unset, .unset, .unset, .unset] [(.double (WF j.val 1))])) _
      refine Jvm.OwnP2.pop2D X204.here hx rfl (hb hby at_58) rfl ?_
      show Steps p.tables e below (T204.setTop (mkF m 59 #[.val (.int p1), .val (.int p2), .val (.int (Int32.ofNat j.val)), .val (.double (mnF j.val)), .second, .val (.int (Int32.ofNat (j.val / 4))), .val (.int (5 : Int32)), .val (.ref ob), .unset, .unset, .unset, .unset, .unset, .unset, .unset, .unset, .unset] [])) _
      refine XS.iload X204.here hx rfl (hb hby at_59) rfl ?_
      show Steps p.tables e below (T204.setTop (mkF m 61 #[.val (.int p1), .val (.int p2), .val (.int (Int32.ofNat j.val)), .val (.double (mnF j.val)), .second, .val (.int (Int32.ofNat (j.val / 4))), .val (.int (5 : Int32)), .val (.ref ob), .unset, .unset, .unset, .unset, .unset, .unset, .unset, .unset, .unset] [(.int (5 : Int32))])) _
      refine XS.iconst X204.here hx rfl (hb hby at_61) ?_
      show Steps p.tables e below (T204.setTop (mkF m 62 #[.val (.int p1), .val (.int p2), .val (.int (Int32.ofNat j.val)), .val (.double (mnF j.val)), .second, .val (.int (Int32.ofNat (j.val / 4))), .val (.int (5 : Int32)), .val (.ref ob), .unset, .unset, .unset, .unset, .unset, .unset, .unset, .unset, .unset] [(.int (2 : Int32)), (.int (5 : Int32))])) _
      refine XS.icmpNo X204.here hx rfl (hb hby at_62) rfl (XT.ii_le_f (by decide)) ?_
      show Steps p.tables e below (T204.setTop (mkF m 65 #[.val (.int p1), .val (.int p2), .val (.int (Int32.ofNat j.val)), .val (.double (mnF j.val)), .second, .val (.int (Int32.ofNat (j.val / 4))), .val (.int (5 : Int32)), .val (.ref ob), .unset, .unset, .unset, .unset, .unset, .unset, .unset, .unset, .unset] [])) _
      refine XS.aload X204.here hx rfl (hb hby at_65) rfl rfl ?_
      show Steps p.tables e below (T204.setTop (mkF m 67 #[.val (.int p1), .val (.int p2), .val (.int (Int32.ofNat j.val)), .val (.double (mnF j.val)), .second, .val (.int (Int32.ofNat (j.val / 4))), .val (.int (5 : Int32)), .val (.ref ob), .unset, .unset, .unset, .unset, .unset, .unset, .unset, .unset, .unset] [(.ref ob)])) _
      exact k)
    obtain ⟨cq209, kq209, q209a, q209b, q209c⟩ := isOf hZ rfl G204_0
    obtain ⟨_, _, ⟨T209, L209, k209', n209⟩, -, X209, ⟨Lc209, hQ209, l209, y209, z209⟩, st209⟩ := X204.virtualBack hx (y := (⟨"com/example/topple/topple/markov/PoissonWeights", "next", "()D"⟩ : MethodName)) (z := (⟨"com/example/topple/topple/markov/PoissonWeights", "next", "()D"⟩ : MethodName)) hown (mvT hZ (hw _ (List.mem_of_getElem? (i := 22) rfl))) (mvT hZ (hw _ (List.mem_of_getElem? (i := 23) rfl))) (notFace_of_selects (args := #[]) (mvT hZ (hw _ (List.mem_of_getElem? (i := 25) rfl)))) (mvT hZ (hw _ (List.mem_of_getElem? (i := 25) rfl))) (mvT hZ (hw _ (List.mem_of_getElem? (i := 24) rfl))) (by decide) (backOf (W := 0) (rm_nx l Z a0 hw [] ob ta (mnF j.val) (1 : Int32) (2 : Int32) (Int32.ofNat (j.val / 4)) (Int32.ofNat 0) (WF j.val 1) (WF j.val 2) (j.val / 4 - 0 + 1) 2 (fun i => tmF j.val (j.val / 4 - 0 - i)) T204.heap n0 (Nat.le_trans (Nat.le_trans (Nat.le_trans (Nat.le_trans Z0 E186.1) K195.1) K199.1) K204.1) G204_0 G204_1 G204_2 G204_3 G204_4 G204_5 G204_6 (Nat.le_trans Z0 (Nat.le_of_eq g186.symm)) (by decide) ne195 F206 (by decide) (nlo_2 j) (fun q => by
          obtain ⟨x1, x2, x3⟩ := nhi_2 j q
          exact ⟨nn_of x1, nn_of x2, x3⟩)) hZ (hw _ (List.mem_of_getElem? (i := 26) rfl)) (hw _ (List.mem_of_getElem? (i := 4) rfl)) (by decide) (by decide)) q209a q209c (g := (mkF m 67 #[.val (.int p1), .val (.int p2), .val (.int (Int32.ofNat j.val)), .val (.double (mnF j.val)), .second, .val (.int (Int32.ofNat (j.val / 4))), .val (.int (5 : Int32)), .val (.ref ob), .unset, .unset, .unset, .unset, .unset, .unset, .unset, .unset, .unset] [(.ref ob)])) rfl (by rw [hml]; rfl) (Steps.refl _) (argsL := []) (rest := []) (lenOf pd___D rfl) rfl (by show 2 * 0 + _ ≤ _; exact Nat.le_of_eq rfl) (hb hby at_67) (fun _ _ => ⟨rfl, rfl, (by decide : 2 + 0 ≤ _), (by decide : 14 + 0 ≤ _)⟩)
    dsimp only [Pt.U, Pt.locs, Pt.cells, Pt.slots] at X209 l209 y209 z209 st209 hQ209
    subst l209 y209 z209
    obtain ⟨rfl, N209, K209, G209_0, G209_1, G209_2, G209_3, G209_4, G209_5, G209_6⟩ := hQ209
    have M209 := Fr.app M204 N209
    have F210 : Exa Z T209.heap ob "com/example/topple/topple/markov/PoissonWeights" := (G204_0.keep K209)
    have F211 : OwnArr.Ag Z T209.heap ta .double (j.val / 4 - 0 + 1) (fun i => .double (tmF j.val (j.val / 4 - 0 - i))) := (F206.keep K209 (ninS ne195 nin0))
    have c212 : ∀ t, Steps p.tables e below (T209.setTop (mkF m 70 #[.val (.int p1), .val (.int p2), .val (.int (Int32.ofNat j.val)), .val (.double (mnF j.val)), .second, .val (.int (Int32.ofNat (j.val / 4))), .val (.int (5 : Int32)), .val (.ref ob), .unset, .unset, .unset, .unset, .unset, .unset, .unset, .unset, .unset] [(.double (WF j.val 2))])) t → Steps p.tables e below (s₁.setTop (entryFrame m #[(.int p1), (.int p2)] maxLocals)) t := fun t k => c208 t (st209.trans k)
    have c213 : ∀ t, Steps p.tables e below (T209.setTop (mkF m 79 #[.val (.int p1), .val (.int p2), .val (.int (Int32.ofNat j.val)), .val (.double (mnF j.val)), .second, .val (.int (Int32.ofNat (j.val / 4))), .val (.int (5 : Int32)), .val (.ref ob), .unset, .unset, .unset, .unset, .unset, .unset, .unset, .unset, .unset] [(.ref ob)])) t → Steps p.tables e below (s₁.setTop (entryFrame m #[(.int p1), (.int p2)] maxLocals)) t := fun t k => c212 t (by
      show Steps p.tables e below (T209.setTop (mkF m 70 #[.val (.int p1), .val (.int p2), .val (.int (Int32.ofNat j.val)), .val (.double (mnF j.val)), .second, .val (.int (Int32.ofNat (j.val / 4))), .val (.int (5 : Int32)), .val (.ref ob), .unset, .unset, .unset, .unset, .unset, .unset, .unset, .unset, .unset] [(.double (WF j.val 2))])) _
      refine Jvm.OwnP2.pop2D X209.here hx rfl (hb hby at_70) rfl ?_
      show Steps p.tables e below (T209.setTop (mkF m 71 #[.val (.int p1), .val (.int p2), .val (.int (Int32.ofNat j.val)), .val (.double (mnF j.val)), .second, .val (.int (Int32.ofNat (j.val / 4))), .val (.int (5 : Int32)), .val (.ref ob), .unset, .unset, .unset, .unset, .unset, .unset, .unset, .unset, .unset] [])) _
      refine XS.iload X209.here hx rfl (hb hby at_71) rfl ?_
      show Steps p.tables e below (T209.setTop (mkF m 73 #[.val (.int p1), .val (.int p2), .val (.int (Int32.ofNat j.val)), .val (.double (mnF j.val)), .second, .val (.int (Int32.ofNat (j.val / 4))), .val (.int (5 : Int32)), .val (.ref ob), .unset, .unset, .unset, .unset, .unset, .unset, .unset, .unset, .unset] [(.int (5 : Int32))])) _
      refine XS.iconst X209.here hx rfl (hb hby at_73) ?_
      show Steps p.tables e below (T209.setTop (mkF m 74 #[.val (.int p1), .val (.int p2), .val (.int (Int32.ofNat j.val)), .val (.double (mnF j.val)), .second, .val (.int (Int32.ofNat (j.val / 4))), .val (.int (5 : Int32)), .val (.ref ob), .unset, .unset, .unset, .unset, .unset, .unset, .unset, .unset, .unset] [(.int (3 : Int32)), (.int (5 : Int32))])) _
      refine XS.icmpNo X209.here hx rfl (hb hby at_74) rfl (XT.ii_le_f (by decide)) ?_
      show Steps p.tables e below (T209.setTop (mkF m 77 #[.val (.int p1), .val (.int p2), .val (.int (Int32.ofNat j.val)), .val (.double (mnF j.val)), .second, .val (.int (Int32.ofNat (j.val / 4))), .val (.int (5 : Int32)), .val (.ref ob), .unset, .unset, .unset, .unset, .unset, .unset, .unset, .unset, .unset] [])) _
      refine XS.aload X209.here hx rfl (hb hby at_77) rfl rfl ?_
      show Steps p.tables e below (T209.setTop (mkF m 79 #[.val (.int p1), .val (.int p2), .val (.int (Int32.ofNat j.val)), .val (.double (mnF j.val)), .second, .val (.int (Int32.ofNat (j.val / 4))), .val (.int (5 : Int32)), .val (.ref ob), .unset, .unset, .unset, .unset, .unset, .unset, .unset, .unset, .unset] [(.ref ob)])) _
      exact k)
    obtain ⟨cq214, kq214, q214a, q214b, q214c⟩ := isOf hZ rfl G209_0
    obtain ⟨_, _, ⟨T214, L214, k214', n214⟩, -, X214, ⟨Lc214, hQ214, l214, y214, z214⟩, st214⟩ := X209.virtualBack hx (y := (⟨"com/example/topple/topple/markov/PoissonWeights", "next", "()D"⟩ : MethodName)) (z := (⟨"com/example/topple/topple/markov/PoissonWeights", "next", "()D"⟩ : MethodName)) hown (mvT hZ (hw _ (List.mem_of_getElem? (i := 22) rfl))) (mvT hZ (hw _ (List.mem_of_getElem? (i := 23) rfl))) (notFace_of_selects (args := #[]) (mvT hZ (hw _ (List.mem_of_getElem? (i := 25) rfl)))) (mvT hZ (hw _ (List.mem_of_getElem? (i := 25) rfl))) (mvT hZ (hw _ (List.mem_of_getElem? (i := 24) rfl))) (by decide) (backOf (W := 0) (rm_nx l Z a0 hw [] ob ta (mnF j.val) (2 : Int32) (3 : Int32) (Int32.ofNat (j.val / 4)) (Int32.ofNat 0) (WF j.val 2) (WF j.val 3) (j.val / 4 - 0 + 1) 3 (fun i => tmF j.val (j.val / 4 - 0 - i)) T209.heap n0 (Nat.le_trans (Nat.le_trans (Nat.le_trans (Nat.le_trans (Nat.le_trans Z0 E186.1) K195.1) K199.1) K204.1) K209.1) G209_0 G209_1 G209_2 G209_3 G209_4 G209_5 G209_6 (Nat.le_trans Z0 (Nat.le_of_eq g186.symm)) (by decide) ne195 F211 (by decide) (nlo_3 j) (fun q => by
          obtain ⟨x1, x2, x3⟩ := nhi_3 j q
          exact ⟨nn_of x1, nn_of x2, x3⟩)) hZ (hw _ (List.mem_of_getElem? (i := 26) rfl)) (hw _ (List.mem_of_getElem? (i := 4) rfl)) (by decide) (by decide)) q214a q214c (g := (mkF m 79 #[.val (.int p1), .val (.int p2), .val (.int (Int32.ofNat j.val)), .val (.double (mnF j.val)), .second, .val (.int (Int32.ofNat (j.val / 4))), .val (.int (5 : Int32)), .val (.ref ob), .unset, .unset, .unset, .unset, .unset, .unset, .unset, .unset, .unset] [(.ref ob)])) rfl (by rw [hml]; rfl) (Steps.refl _) (argsL := []) (rest := []) (lenOf pd___D rfl) rfl (by show 2 * 0 + _ ≤ _; exact Nat.le_of_eq rfl) (hb hby at_79) (fun _ _ => ⟨rfl, rfl, (by decide : 2 + 0 ≤ _), (by decide : 14 + 0 ≤ _)⟩)
    dsimp only [Pt.U, Pt.locs, Pt.cells, Pt.slots] at X214 l214 y214 z214 st214 hQ214
    subst l214 y214 z214
    obtain ⟨rfl, N214, K214, G214_0, G214_1, G214_2, G214_3, G214_4, G214_5, G214_6⟩ := hQ214
    have M214 := Fr.app M209 N214
    have F215 : Exa Z T214.heap ob "com/example/topple/topple/markov/PoissonWeights" := (G209_0.keep K214)
    have F216 : OwnArr.Ag Z T214.heap ta .double (j.val / 4 - 0 + 1) (fun i => .double (tmF j.val (j.val / 4 - 0 - i))) := (F211.keep K214 (ninS ne195 nin0))
    have c217 : ∀ t, Steps p.tables e below (T214.setTop (mkF m 82 #[.val (.int p1), .val (.int p2), .val (.int (Int32.ofNat j.val)), .val (.double (mnF j.val)), .second, .val (.int (Int32.ofNat (j.val / 4))), .val (.int (5 : Int32)), .val (.ref ob), .unset, .unset, .unset, .unset, .unset, .unset, .unset, .unset, .unset] [(.double (WF j.val 3))])) t → Steps p.tables e below (s₁.setTop (entryFrame m #[(.int p1), (.int p2)] maxLocals)) t := fun t k => c213 t (st214.trans k)
    have c218 : ∀ t, Steps p.tables e below (T214.setTop (mkF m 91 #[.val (.int p1), .val (.int p2), .val (.int (Int32.ofNat j.val)), .val (.double (mnF j.val)), .second, .val (.int (Int32.ofNat (j.val / 4))), .val (.int (5 : Int32)), .val (.ref ob), .unset, .unset, .unset, .unset, .unset, .unset, .unset, .unset, .unset] [(.ref ob)])) t → Steps p.tables e below (s₁.setTop (entryFrame m #[(.int p1), (.int p2)] maxLocals)) t := fun t k => c217 t (by
      show Steps p.tables e below (T214.setTop (mkF m 82 #[.val (.int p1), .val (.int p2), .val (.int (Int32.ofNat j.val)), .val (.double (mnF j.val)), .second, .val (.int (Int32.ofNat (j.val / 4))), .val (.int (5 : Int32)), .val (.ref ob), .unset, .unset, .unset, .unset, .unset, .unset, .unset, .unset, .unset] [(.double (WF j.val 3))])) _
      refine Jvm.OwnP2.pop2D X214.here hx rfl (hb hby at_82) rfl ?_
      show Steps p.tables e below (T214.setTop (mkF m 83 #[.val (.int p1), .val (.int p2), .val (.int (Int32.ofNat j.val)), .val (.double (mnF j.val)), .second, .val (.int (Int32.ofNat (j.val / 4))), .val (.int (5 : Int32)), .val (.ref ob), .unset, .unset, .unset, .unset, .unset, .unset, .unset, .unset, .unset] [])) _
      refine XS.iload X214.here hx rfl (hb hby at_83) rfl ?_
      show Steps p.tables e below (T214.setTop (mkF m 85 #[.val (.int p1), .val (.int p2), .val (.int (Int32.ofNat j.val)), .val (.double (mnF j.val)), .second, .val (.int (Int32.ofNat (j.val / 4))), .val (.int (5 : Int32)), .val (.ref ob), .unset, .unset, .unset, .unset, .unset, .unset, .unset, .unset, .unset] [(.int (5 : Int32))])) _
      refine XS.iconst X214.here hx rfl (hb hby at_85) ?_
      show Steps p.tables e below (T214.setTop (mkF m 86 #[.val (.int p1), .val (.int p2), .val (.int (Int32.ofNat j.val)), .val (.double (mnF j.val)), .second, .val (.int (Int32.ofNat (j.val / 4))), .val (.int (5 : Int32)), .val (.ref ob), .unset, .unset, .unset, .unset, .unset, .unset, .unset, .unset, .unset] [(.int (4 : Int32)), (.int (5 : Int32))])) _
      refine XS.icmpNo X214.here hx rfl (hb hby at_86) rfl (XT.ii_le_f (by decide)) ?_
      show Steps p.tables e below (T214.setTop (mkF m 89 #[.val (.int p1), .val (.int p2), .val (.int (Int32.ofNat j.val)), .val (.double (mnF j.val)), .second, .val (.int (Int32.ofNat (j.val / 4))), .val (.int (5 : Int32)), .val (.ref ob), .unset, .unset, .unset, .unset, .unset, .unset, .unset, .unset, .unset] [])) _
      refine XS.aload X214.here hx rfl (hb hby at_89) rfl rfl ?_
      show Steps p.tables e below (T214.setTop (mkF m 91 #[.val (.int p1), .val (.int p2), .val (.int (Int32.ofNat j.val)), .val (.double (mnF j.val)), .second, .val (.int (Int32.ofNat (j.val / 4))), .val (.int (5 : Int32)), .val (.ref ob), .unset, .unset, .unset, .unset, .unset, .unset, .unset, .unset, .unset] [(.ref ob)])) _
      exact k)
    obtain ⟨cq219, kq219, q219a, q219b, q219c⟩ := isOf hZ rfl G214_0
    obtain ⟨_, _, ⟨T219, L219, k219', n219⟩, -, X219, ⟨Lc219, hQ219, l219, y219, z219⟩, st219⟩ := X214.virtualBack hx (y := (⟨"com/example/topple/topple/markov/PoissonWeights", "next", "()D"⟩ : MethodName)) (z := (⟨"com/example/topple/topple/markov/PoissonWeights", "next", "()D"⟩ : MethodName)) hown (mvT hZ (hw _ (List.mem_of_getElem? (i := 22) rfl))) (mvT hZ (hw _ (List.mem_of_getElem? (i := 23) rfl))) (notFace_of_selects (args := #[]) (mvT hZ (hw _ (List.mem_of_getElem? (i := 25) rfl)))) (mvT hZ (hw _ (List.mem_of_getElem? (i := 25) rfl))) (mvT hZ (hw _ (List.mem_of_getElem? (i := 24) rfl))) (by decide) (backOf (W := 0) (rm_nx l Z a0 hw [] ob ta (mnF j.val) (3 : Int32) (4 : Int32) (Int32.ofNat (j.val / 4)) (Int32.ofNat 0) (WF j.val 3) (WF j.val 4) (j.val / 4 - 0 + 1) 4 (fun i => tmF j.val (j.val / 4 - 0 - i)) T214.heap n0 (Nat.le_trans (Nat.le_trans (Nat.le_trans (Nat.le_trans (Nat.le_trans (Nat.le_trans Z0 E186.1) K195.1) K199.1) K204.1) K209.1) K214.1) G214_0 G214_1 G214_2 G214_3 G214_4 G214_5 G214_6 (Nat.le_trans Z0 (Nat.le_of_eq g186.symm)) (by decide) ne195 F216 (by decide) (nlo_4 j) (fun q => by
          obtain ⟨x1, x2, x3⟩ := nhi_4 j q
          exact ⟨nn_of x1, nn_of x2, x3⟩)) hZ (hw _ (List.mem_of_getElem? (i := 26) rfl)) (hw _ (List.mem_of_getElem? (i := 4) rfl)) (by decide) (by decide)) q219a q219c (g := (mkF m 91 #[.val (.int p1), .val (.int p2), .val (.int (Int32.ofNat j.val)), .val (.double (mnF j.val)), .second, .val (.int (Int32.ofNat (j.val / 4))), .val (.int (5 : Int32)), .val (.ref ob), .unset, .unset, .unset, .unset, .unset, .unset, .unset, .unset, .unset] [(.ref ob)])) rfl (by rw [hml]; rfl) (Steps.refl _) (argsL := []) (rest := []) (lenOf pd___D rfl) rfl (by show 2 * 0 + _ ≤ _; exact Nat.le_of_eq rfl) (hb hby at_91) (fun _ _ => ⟨rfl, rfl, (by decide : 2 + 0 ≤ _), (by decide : 14 + 0 ≤ _)⟩)
    dsimp only [Pt.U, Pt.locs, Pt.cells, Pt.slots] at X219 l219 y219 z219 st219 hQ219
    subst l219 y219 z219
    obtain ⟨rfl, N219, K219, G219_0, G219_1, G219_2, G219_3, G219_4, G219_5, G219_6⟩ := hQ219
    have M219 := Fr.app M214 N219
    have F220 : Exa Z T219.heap ob "com/example/topple/topple/markov/PoissonWeights" := (G214_0.keep K219)
    have F221 : OwnArr.Ag Z T219.heap ta .double (j.val / 4 - 0 + 1) (fun i => .double (tmF j.val (j.val / 4 - 0 - i))) := (F216.keep K219 (ninS ne195 nin0))
    have c222 : ∀ t, Steps p.tables e below (T219.setTop (mkF m 94 #[.val (.int p1), .val (.int p2), .val (.int (Int32.ofNat j.val)), .val (.double (mnF j.val)), .second, .val (.int (Int32.ofNat (j.val / 4))), .val (.int (5 : Int32)), .val (.ref ob), .unset, .unset, .unset, .unset, .unset, .unset, .unset, .unset, .unset] [(.double (WF j.val 4))])) t → Steps p.tables e below (s₁.setTop (entryFrame m #[(.int p1), (.int p2)] maxLocals)) t := fun t k => c218 t (st219.trans k)
    have c223 : ∀ t, Steps p.tables e below (T219.setTop (mkF m 115 #[.val (.int p1), .val (.int p2), .val (.int (Int32.ofNat j.val)), .val (.double (mnF j.val)), .second, .val (.int (Int32.ofNat (j.val / 4))), .val (.int (5 : Int32)), .val (.ref ob), .val (.int (4 : Int32)), .unset, .unset, .unset, .unset, .unset, .unset, .unset, .unset] [(.ref ob)])) t → Steps p.tables e below (s₁.setTop (entryFrame m #[(.int p1), (.int p2)] maxLocals)) t := fun t k => c222 t (by
      show Steps p.tables e below (T219.setTop (mkF m 94 #[.val (.int p1), .val (.int p2), .val (.int (Int32.ofNat j.val)), .val (.double (mnF j.val)), .second, .val (.int (Int32.ofNat (j.val / 4))), .val (.int (5 : Int32)), .val (.ref ob), .unset, .unset, .unset, .unset, .unset, .unset, .unset, .unset, .unset] [(.double (WF j.val 4))])) _
      refine Jvm.OwnP2.pop2D X219.here hx rfl (hb hby at_94) rfl ?_
      show Steps p.tables e below (T219.setTop (mkF m 95 #[.val (.int p1), .val (.int p2), .val (.int (Int32.ofNat j.val)), .val (.double (mnF j.val)), .second, .val (.int (Int32.ofNat (j.val / 4))), .val (.int (5 : Int32)), .val (.ref ob), .unset, .unset, .unset, .unset, .unset, .unset, .unset, .unset, .unset] [])) _
      refine XS.iload X219.here hx rfl (hb hby at_95) rfl ?_
      show Steps p.tables e below (T219.setTop (mkF m 97 #[.val (.int p1), .val (.int p2), .val (.int (Int32.ofNat j.val)), .val (.double (mnF j.val)), .second, .val (.int (Int32.ofNat (j.val / 4))), .val (.int (5 : Int32)), .val (.ref ob), .unset, .unset, .unset, .unset, .unset, .unset, .unset, .unset, .unset] [(.int (5 : Int32))])) _
      refine XS.iconst X219.here hx rfl (hb hby at_97) ?_
      show Steps p.tables e below (T219.setTop (mkF m 98 #[.val (.int p1), .val (.int p2), .val (.int (Int32.ofNat j.val)), .val (.double (mnF j.val)), .second, .val (.int (Int32.ofNat (j.val / 4))), .val (.int (5 : Int32)), .val (.ref ob), .unset, .unset, .unset, .unset, .unset, .unset, .unset, .unset, .unset] [(.int (5 : Int32)), (.int (5 : Int32))])) _
      refine XS.icmpYes X219.here hx rfl (pc0 := 98) (pc' := 107) rfl (hb hby at_98) rfl (XT.ii_le_t (by decide)) (by decide) (by decide) ?_
      show Steps p.tables e below (T219.setTop (mkF m 107 #[.val (.int p1), .val (.int p2), .val (.int (Int32.ofNat j.val)), .val (.double (mnF j.val)), .second, .val (.int (Int32.ofNat (j.val / 4))), .val (.int (5 : Int32)), .val (.ref ob), .unset, .unset, .unset, .unset, .unset, .unset, .unset, .unset, .unset] [])) _
      refine XS.iload X219.here hx rfl (hb hby at_107) rfl ?_
      show Steps p.tables e below (T219.setTop (mkF m 109 #[.val (.int p1), .val (.int p2), .val (.int (Int32.ofNat j.val)), .val (.double (mnF j.val)), .second, .val (.int (Int32.ofNat (j.val / 4))), .val (.int (5 : Int32)), .val (.ref ob), .unset, .unset, .unset, .unset, .unset, .unset, .unset, .unset, .unset] [(.int (5 : Int32))])) _
      refine XS.iconst X219.here hx rfl (hb hby at_109) ?_
      show Steps p.tables e below (T219.setTop (mkF m 110 #[.val (.int p1), .val (.int p2), .val (.int (Int32.ofNat j.val)), .val (.double (mnF j.val)), .second, .val (.int (Int32.ofNat (j.val / 4))), .val (.int (5 : Int32)), .val (.ref ob), .unset, .unset, .unset, .unset, .unset, .unset, .unset, .unset, .unset] [(.int (1 : Int32)), (.int (5 : Int32))])) _
      refine XS.isub X219.here hx rfl (hb hby at_110) rfl ?_
      show Steps p.tables e below (T219.setTop (mkF m 111 #[.val (.int p1), .val (.int p2), .val (.int (Int32.ofNat j.val)), .val (.double (mnF j.val)), .second, .val (.int (Int32.ofNat (j.val / 4))), .val (.int (5 : Int32)), .val (.ref ob), .unset, .unset, .unset, .unset, .unset, .unset, .unset, .unset, .unset] [(.int (4 : Int32))])) _
      refine XS.istore X219.here hx rfl (hb hby at_111) rfl (l' := #[.val (.int p1), .val (.int p2), .val (.int (Int32.ofNat j.val)), .val (.double (mnF j.val)), .second, .val (.int (Int32.ofNat (j.val / 4))), .val (.int (5 : Int32)), .val (.ref ob), .val (.int (4 : Int32)), .unset, .unset, .unset, .unset, .unset, .unset, .unset, .unset]) rfl ?_
      show Steps p.tables e below (T219.setTop (mkF m 113 #[.val (.int p1), .val (.int p2), .val (.int (Int32.ofNat j.val)), .val (.double (mnF j.val)), .second, .val (.int (Int32.ofNat (j.val / 4))), .val (.int (5 : Int32)), .val (.ref ob), .val (.int (4 : Int32)), .unset, .unset, .unset, .unset, .unset, .unset, .unset, .unset] [])) _
      refine XS.aload X219.here hx rfl (hb hby at_113) rfl rfl ?_
      show Steps p.tables e below (T219.setTop (mkF m 115 #[.val (.int p1), .val (.int p2), .val (.int (Int32.ofNat j.val)), .val (.double (mnF j.val)), .second, .val (.int (Int32.ofNat (j.val / 4))), .val (.int (5 : Int32)), .val (.ref ob), .val (.int (4 : Int32)), .unset, .unset, .unset, .unset, .unset, .unset, .unset, .unset] [(.ref ob)])) _
      exact k)
    by_cases qt : (4 : Int32) < (Int32.ofNat (j.val / 4))
    · skip
      obtain ⟨cq224, kq224, q224a, q224b, q224c⟩ := isOf hZ rfl G219_0
      obtain ⟨_, _, ⟨T224, L224, k224', n224⟩, -, X224, ⟨Lc224, hQ224, l224, y224, z224⟩, st224⟩ := X219.virtualBack hx (y := (⟨"com/example/topple/topple/markov/PoissonWeights", "tail", "()D"⟩ : MethodName)) (z := (⟨"com/example/topple/topple/markov/PoissonWeights", "tail", "()D"⟩ : MethodName)) hown (mvT hZ (hw _ (List.mem_of_getElem? (i := 29) rfl))) (mvT hZ (hw _ (List.mem_of_getElem? (i := 30) rfl))) (notFace_of_selects (args := #[]) (mvT hZ (hw _ (List.mem_of_getElem? (i := 32) rfl)))) (mvT hZ (hw _ (List.mem_of_getElem? (i := 32) rfl))) (mvT hZ (hw _ (List.mem_of_getElem? (i := 31) rfl))) (by decide) (backOf (W := 0) (rm_t0 l Z a0 hw [] ob (4 : Int32) (Int32.ofNat (j.val / 4)) T219.heap n0 (Nat.le_trans (Nat.le_trans (Nat.le_trans (Nat.le_trans (Nat.le_trans (Nat.le_trans (Nat.le_trans Z0 E186.1) K195.1) K199.1) K204.1) K209.1) K214.1) K219.1) G219_1 G219_3 qt) hZ (hw _ (List.mem_of_getElem? (i := 33) rfl)) (hw _ (List.mem_of_getElem? (i := 4) rfl)) (by decide) (by decide)) q224a q224c (g := (mkF m 115 #[.val (.int p1), .val (.int p2), .val (.int (Int32.ofNat j.val)), .val (.double (mnF j.val)), .second, .val (.int (Int32.ofNat (j.val / 4))), .val (.int (5 : Int32)), .val (.ref ob), .val (.int (4 : Int32)), .unset, .unset, .unset, .unset, .unset, .unset, .unset, .unset] [(.ref ob)])) rfl (by rw [hml]; rfl) (Steps.refl _) (argsL := []) (rest := []) (lenOf pd___D rfl) rfl (by show 2 * 0 + _ ≤ _; exact Nat.le_of_eq rfl) (hb hby at_115) (fun _ _ => ⟨rfl, rfl, (by decide : 2 + 0 ≤ _), (by decide : 14 + 0 ≤ _)⟩)
      dsimp only [Pt.U, Pt.locs, Pt.cells, Pt.slots] at X224 l224 y224 z224 st224 hQ224
      subst l224 y224 z224
      obtain ⟨rfl, N224, e224⟩ := hQ224
      have M224 := Fr.app M219 N224
      have c225 : ∀ t, Steps p.tables e below (T224.setTop (mkF m 118 #[.val (.int p1), .val (.int p2), .val (.int (Int32.ofNat j.val)), .val (.double (mnF j.val)), .second, .val (.int (Int32.ofNat (j.val / 4))), .val (.int (5 : Int32)), .val (.ref ob), .val (.int (4 : Int32)), .unset, .unset, .unset, .unset, .unset, .unset, .unset, .unset] [(.double (9218868437227405312 : UInt64))])) t → Steps p.tables e below (s₁.setTop (entryFrame m #[(.int p1), (.int p2)] maxLocals)) t := fun t k => c223 t (st224.trans k)
      obtain ⟨k132, hk132⟩ : ∃ v : Int32, cmpValue (FP.dcmp (9218868437227405312 : UInt64) (9218868437227405312 : UInt64)) .l = v := ⟨_, rfl⟩
      have e132 : k132 = 0 := hk132.symm.trans inf_c
      have c226 : ∀ t, Steps p.tables e below (T224.setTop (mkF m 141 #[.val (.int p1), .val (.int p2), .val (.int (Int32.ofNat j.val)), .val (.double (mnF j.val)), .second, .val (.int (Int32.ofNat (j.val / 4))), .val (.int (5 : Int32)), .val (.ref ob), .val (.int (4 : Int32)), .val (.double (9218868437227405312 : UInt64)), .second, .unset, .unset, .unset, .unset, .unset, .unset] [(.int (1 : Int32))])) t → Steps p.tables e below (s₁.setTop (entryFrame m #[(.int p1), (.int p2)] maxLocals)) t := fun t k => c225 t (by
        show Steps p.tables e below (T224.setTop (mkF m 118 #[.val (.int p1), .val (.int p2), .val (.int (Int32.ofNat j.val)), .val (.double (mnF j.val)), .second, .val (.int (Int32.ofNat (j.val / 4))), .val (.int (5 : Int32)), .val (.ref ob), .val (.int (4 : Int32)), .unset, .unset, .unset, .unset, .unset, .unset, .unset, .unset] [(.double (9218868437227405312 : UInt64))])) _
        refine XS.dstore X224.here hx rfl (hb hby at_118) rfl (l' := #[.val (.int p1), .val (.int p2), .val (.int (Int32.ofNat j.val)), .val (.double (mnF j.val)), .second, .val (.int (Int32.ofNat (j.val / 4))), .val (.int (5 : Int32)), .val (.ref ob), .val (.int (4 : Int32)), .val (.double (9218868437227405312 : UInt64)), .second, .unset, .unset, .unset, .unset, .unset, .unset]) rfl ?_
        show Steps p.tables e below (T224.setTop (mkF m 120 #[.val (.int p1), .val (.int p2), .val (.int (Int32.ofNat j.val)), .val (.double (mnF j.val)), .second, .val (.int (Int32.ofNat (j.val / 4))), .val (.int (5 : Int32)), .val (.ref ob), .val (.int (4 : Int32)), .val (.double (9218868437227405312 : UInt64)), .second, .unset, .unset, .unset, .unset, .unset, .unset] [])) _
        refine XS.iload X224.here hx rfl (hb hby at_120) rfl ?_
        show Steps p.tables e below (T224.setTop (mkF m 122 #[.val (.int p1), .val (.int p2), .val (.int (Int32.ofNat j.val)), .val (.double (mnF j.val)), .second, .val (.int (Int32.ofNat (j.val / 4))), .val (.int (5 : Int32)), .val (.ref ob), .val (.int (4 : Int32)), .val (.double (9218868437227405312 : UInt64)), .second, .unset, .unset, .unset, .unset, .unset, .unset] [(.int (4 : Int32))])) _
        refine XS.iload X224.here hx rfl (hb hby at_122) rfl ?_
        show Steps p.tables e below (T224.setTop (mkF m 124 #[.val (.int p1), .val (.int p2), .val (.int (Int32.ofNat j.val)), .val (.double (mnF j.val)), .second, .val (.int (Int32.ofNat (j.val / 4))), .val (.int (5 : Int32)), .val (.ref ob), .val (.int (4 : Int32)), .val (.double (9218868437227405312 : UInt64)), .second, .unset, .unset, .unset, .unset, .unset, .unset] [(.int (Int32.ofNat (j.val / 4))), (.int (4 : Int32))])) _
        refine XS.icmpNo X224.here hx rfl (hb hby at_124) rfl (XT.ii_ge_f qt) ?_
        show Steps p.tables e below (T224.setTop (mkF m 127 #[.val (.int p1), .val (.int p2), .val (.int (Int32.ofNat j.val)), .val (.double (mnF j.val)), .second, .val (.int (Int32.ofNat (j.val / 4))), .val (.int (5 : Int32)), .val (.ref ob), .val (.int (4 : Int32)), .val (.double (9218868437227405312 : UInt64)), .second, .unset, .unset, .unset, .unset, .unset, .unset] [])) _
        refine XS.dload X224.here hx rfl (hb hby at_127) rfl ?_
        show Steps p.tables e below (T224.setTop (mkF m 129 #[.val (.int p1), .val (.int p2), .val (.int (Int32.ofNat j.val)), .val (.double (mnF j.val)), .second, .val (.int (Int32.ofNat (j.val / 4))), .val (.int (5 : Int32)), .val (.ref ob), .val (.int (4 : Int32)), .val (.double (9218868437227405312 : UInt64)), .second, .unset, .unset, .unset, .unset, .unset, .unset] [(.double (9218868437227405312 : UInt64))])) _
        refine Jvm.Stand.ldc2DoubleC X224 hx hown (mvT hZ (hw _ (List.mem_of_getElem? (i := 36) rfl))) (g := (mkF m 129 #[.val (.int p1), .val (.int p2), .val (.int (Int32.ofNat j.val)), .val (.double (mnF j.val)), .second, .val (.int (Int32.ofNat (j.val / 4))), .val (.int (5 : Int32)), .val (.ref ob), .val (.int (4 : Int32)), .val (.double (9218868437227405312 : UInt64)), .second, .unset, .unset, .unset, .unset, .unset, .unset] [(.double (9218868437227405312 : UInt64))])) rfl (hb hby at_129) _ ?_
        show Steps p.tables e below (T224.setTop (mkF m 132 #[.val (.int p1), .val (.int p2), .val (.int (Int32.ofNat j.val)), .val (.double (mnF j.val)), .second, .val (.int (Int32.ofNat (j.val / 4))), .val (.int (5 : Int32)), .val (.ref ob), .val (.int (4 : Int32)), .val (.double (9218868437227405312 : UInt64)), .second, .unset, .unset, .unset, .unset, .unset, .unset] [(.double (9218868437227405312 : UInt64)), (.double (9218868437227405312 : UInt64))])) _
        refine XS.dcmpS X224.here hx rfl (hb hby at_132) rfl hk132 ?_
        show Steps p.tables e below (T224.setTop (mkF m 133 #[.val (.int p1), .val (.int p2), .val (.int (Int32.ofNat j.val)), .val (.double (mnF j.val)), .second, .val (.int (Int32.ofNat (j.val / 4))), .val (.int (5 : Int32)), .val (.ref ob), .val (.int (4 : Int32)), .val (.double (9218868437227405312 : UInt64)), .second, .unset, .unset, .unset, .unset, .unset, .unset] [(.int k132)])) _
        refine XS.ifNo X224.here hx rfl (hb hby at_133) rfl (XT.i0_ne_f e132) ?_
        show Steps p.tables e below (T224.setTop (mkF m 136 #[.val (.int p1), .val (.int p2), .val (.int (Int32.ofNat j.val)), .val (.double (mnF j.val)), .second, .val (.int (Int32.ofNat (j.val / 4))), .val (.int (5 : Int32)), .val (.ref ob), .val (.int (4 : Int32)), .val (.double (9218868437227405312 : UInt64)), .second, .unset, .unset, .unset, .unset, .unset, .unset] [])) _
        refine XS.iconst X224.here hx rfl (hb hby at_136) ?_
        show Steps p.tables e below (T224.setTop (mkF m 137 #[.val (.int p1), .val (.int p2), .val (.int (Int32.ofNat j.val)), .val (.double (mnF j.val)), .second, .val (.int (Int32.ofNat (j.val / 4))), .val (.int (5 : Int32)), .val (.ref ob), .val (.int (4 : Int32)), .val (.double (9218868437227405312 : UInt64)), .second, .unset, .unset, .unset, .unset, .unset, .unset] [(.int (1 : Int32))])) _
        refine XS.goto X224.here hx rfl (pc0 := 137) (pc' := 141) rfl (hb hby at_137) (by decide) (by decide) ?_
        show Steps p.tables e below (T224.setTop (mkF m 141 #[.val (.int p1), .val (.int p2), .val (.int (Int32.ofNat j.val)), .val (.double (mnF j.val)), .second, .val (.int (Int32.ofNat (j.val / 4))), .val (.int (5 : Int32)), .val (.ref ob), .val (.int (4 : Int32)), .val (.double (9218868437227405312 : UInt64)), .second, .unset, .unset, .unset, .unset, .unset, .unset] [(.int (1 : Int32))])) _
        exact k)
      obtain ⟨fs, hr, hrun, hended, hW, hsame⟩ := X224.leave (v := (some (.int (1 : Int32)))) (fun h => by rw [Bd.returns] at h; cases h)
      refine ⟨_, _, pre0 _ (c226 _ (retN X224 hx (t := .boolean) Bd.returns (by simp) (hb hby at_141) hr)), hrun, hended, _, _, rfl, ?_, ⟨_, rfl⟩, hW, hsame.mono (by decide) (by decide)⟩
      show Q_0 Z p1 p2 h0 n0 _ T224.heap _
      rw [e224]
      exact ⟨rfl, M224⟩
    · skip
      obtain ⟨z1, z2, z3, z4, z5⟩ := tl_5 j qt
      obtain ⟨l1, l2, l3, l4, l5, l6⟩ := lw_5 j qt
      obtain ⟨cq227, kq227, q227a, q227b, q227c⟩ := isOf hZ rfl G219_0
      obtain ⟨_, _, ⟨T227, L227, k227', n227⟩, -, X227, ⟨Lc227, hQ227, l227, y227, z227⟩, st227⟩ := X219.virtualBack hx (y := (⟨"com/example/topple/topple/markov/PoissonWeights", "tail", "()D"⟩ : MethodName)) (z := (⟨"com/example/topple/topple/markov/PoissonWeights", "tail", "()D"⟩ : MethodName)) hown (mvT hZ (hw _ (List.mem_of_getElem? (i := 29) rfl))) (mvT hZ (hw _ (List.mem_of_getElem? (i := 30) rfl))) (notFace_of_selects (args := #[]) (mvT hZ (hw _ (List.mem_of_getElem? (i := 32) rfl)))) (mvT hZ (hw _ (List.mem_of_getElem? (i := 32) rfl))) (mvT hZ (hw _ (List.mem_of_getElem? (i := 31) rfl))) (by decide) (backOf (W := 0) (rm_t1 l Z a0 hw [] ob (4 : Int32) (Int32.ofNat (j.val / 4)) (mnF j.val) (WF j.val 4) T219.heap n0 (Nat.le_trans (Nat.le_trans (Nat.le_trans (Nat.le_trans (Nat.le_trans (Nat.le_trans (Nat.le_trans Z0 E186.1) K195.1) K199.1) K204.1) K209.1) K214.1) K219.1) G219_1 G219_2 G219_3 G219_6 qt (nn_of z1) (nn_of z2) (nn_of z3) (nn_of z4) (nn_of z5)) hZ (hw _ (List.mem_of_getElem? (i := 33) rfl)) (hw _ (List.mem_of_getElem? (i := 4) rfl)) (by decide) (by decide)) q227a q227c (g := (mkF m 115 #[.val (.int p1), .val (.int p2), .val (.int (Int32.ofNat j.val)), .val (.double (mnF j.val)), .second, .val (.int (Int32.ofNat (j.val / 4))), .val (.int (5 : Int32)), .val (.ref ob), .val (.int (4 : Int32)), .unset, .unset, .unset, .unset, .unset, .unset, .unset, .unset] [(.ref ob)])) rfl (by rw [hml]; rfl) (Steps.refl _) (argsL := []) (rest := []) (lenOf pd___D rfl) rfl (by show 2 * 0 + _ ≤ _; exact Nat.le_of_eq rfl) (hb hby at_115) (fun _ _ => ⟨rfl, rfl, (by decide : 2 + 0 ≤ _), (by decide : 14 + 0 ≤ _)⟩)
      dsimp only [Pt.U, Pt.locs, Pt.cells, Pt.slots] at X227 l227 y227 z227 st227 hQ227
      subst l227 y227 z227
      obtain ⟨rfl, N227, e227⟩ := hQ227
      have M227 := Fr.app M219 N227
      have c228 : ∀ t, Steps p.tables e below (T227.setTop (mkF m 118 #[.val (.int p1), .val (.int p2), .val (.int (Int32.ofNat j.val)), .val (.double (mnF j.val)), .second, .val (.int (Int32.ofNat (j.val / 4))), .val (.int (5 : Int32)), .val (.ref ob), .val (.int (4 : Int32)), .unset, .unset, .unset, .unset, .unset, .unset, .unset, .unset] [(.double (FP.ddiv (FP.ddiv (FP.dmul (WF j.val 4) (mnF j.val)) (FP.i2d ((4 : Int32) + (1 : Int32)))) (FP.dsub FP.dconst1 (FP.ddiv (mnF j.val) (FP.i2d ((4 : Int32) + (2 : Int32)))))))])) t → Steps p.tables e below (s₁.setTop (entryFrame m #[(.int p1), (.int p2)] maxLocals)) t := fun t k => c223 t (st227.trans k)
      have c229 : ∀ t, Steps p.tables e below (T227.setTop (mkF m 144 #[.val (.int p1), .val (.int p2), .val (.int (Int32.ofNat j.val)), .val (.double (mnF j.val)), .second, .val (.int (Int32.ofNat (j.val / 4))), .val (.int (5 : Int32)), .val (.ref ob), .val (.int (4 : Int32)), .val (.double (FP.ddiv (FP.ddiv (FP.dmul (WF j.val 4) (mnF j.val)) (FP.i2d ((4 : Int32) + (1 : Int32)))) (FP.dsub FP.dconst1 (FP.ddiv (mnF j.val) (FP.i2d ((4 : Int32) + (2 : Int32))))))), .second, .unset, .unset, .unset, .unset, .unset, .unset] [(.ref ob)])) t → Steps p.tables e below (s₁.setTop (entryFrame m #[(.int p1), (.int p2)] maxLocals)) t := fun t k => c228 t (by
        show Steps p.tables e below (T227.setTop (mkF m 118 #[.val (.int p1), .val (.int p2), .val (.int (Int32.ofNat j.val)), .val (.double (mnF j.val)), .second, .val (.int (Int32.ofNat (j.val / 4))), .val (.int (5 : Int32)), .val (.ref ob), .val (.int (4 : Int32)), .unset, .unset, .unset, .unset, .unset, .unset, .unset, .unset] [(.double (FP.ddiv (FP.ddiv (FP.dmul (WF j.val 4) (mnF j.val)) (FP.i2d ((4 : Int32) + (1 : Int32)))) (FP.dsub FP.dconst1 (FP.ddiv (mnF j.val) (FP.i2d ((4 : Int32) + (2 : Int32)))))))])) _
        refine XS.dstore X227.here hx rfl (hb hby at_118) rfl (l' := #[.val (.int p1), .val (.int p2), .val (.int (Int32.ofNat j.val)), .val (.double (mnF j.val)), .second, .val (.int (Int32.ofNat (j.val / 4))), .val (.int (5 : Int32)), .val (.ref ob), .val (.int (4 : Int32)), .val (.double (FP.ddiv (FP.ddiv (FP.dmul (WF j.val 4) (mnF j.val)) (FP.i2d ((4 : Int32) + (1 : Int32)))) (FP.dsub FP.dconst1 (FP.ddiv (mnF j.val) (FP.i2d ((4 : Int32) + (2 : Int32))))))), .second, .unset, .unset, .unset, .unset, .unset, .unset]) rfl ?_
        show Steps p.tables e below (T227.setTop (mkF m 120 #[.val (.int p1), .val (.int p2), .val (.int (Int32.ofNat j.val)), .val (.double (mnF j.val)), .second, .val (.int (Int32.ofNat (j.val / 4))), .val (.int (5 : Int32)), .val (.ref ob), .val (.int (4 : Int32)), .val (.double (FP.ddiv (FP.ddiv (FP.dmul (WF j.val 4) (mnF j.val)) (FP.i2d ((4 : Int32) + (1 : Int32)))) (FP.dsub FP.dconst1 (FP.ddiv (mnF j.val) (FP.i2d ((4 : Int32) + (2 : Int32))))))), .second, .unset, .unset, .unset, .unset, .unset, .unset] [])) _
        refine XS.iload X227.here hx rfl (hb hby at_120) rfl ?_
        show Steps p.tables e below (T227.setTop (mkF m 122 #[.val (.int p1), .val (.int p2), .val (.int (Int32.ofNat j.val)), .val (.double (mnF j.val)), .second, .val (.int (Int32.ofNat (j.val / 4))), .val (.int (5 : Int32)), .val (.ref ob), .val (.int (4 : Int32)), .val (.double (FP.ddiv (FP.ddiv (FP.dmul (WF j.val 4) (mnF j.val)) (FP.i2d ((4 : Int32) + (1 : Int32)))) (FP.dsub FP.dconst1 (FP.ddiv (mnF j.val) (FP.i2d ((4 : Int32) + (2 : Int32))))))), .second, .unset, .unset, .unset, .unset, .unset, .unset] [(.int (4 : Int32))])) _
        refine XS.iload X227.here hx rfl (hb hby at_122) rfl ?_
        show Steps p.tables e below (T227.setTop (mkF m 124 #[.val (.int p1), .val (.int p2), .val (.int (Int32.ofNat j.val)), .val (.double (mnF j.val)), .second, .val (.int (Int32.ofNat (j.val / 4))), .val (.int (5 : Int32)), .val (.ref ob), .val (.int (4 : Int32)), .val (.double (FP.ddiv (FP.ddiv (FP.dmul (WF j.val 4) (mnF j.val)) (FP.i2d ((4 : Int32) + (1 : Int32)))) (FP.dsub FP.dconst1 (FP.ddiv (mnF j.val) (FP.i2d ((4 : Int32) + (2 : Int32))))))), .second, .unset, .unset, .unset, .unset, .unset, .unset] [(.int (Int32.ofNat (j.val / 4))), (.int (4 : Int32))])) _
        refine XS.icmpYes X227.here hx rfl (pc0 := 124) (pc' := 142) rfl (hb hby at_124) rfl (XT.ii_ge_t qt) (by decide) (by decide) ?_
        show Steps p.tables e below (T227.setTop (mkF m 142 #[.val (.int p1), .val (.int p2), .val (.int (Int32.ofNat j.val)), .val (.double (mnF j.val)), .second, .val (.int (Int32.ofNat (j.val / 4))), .val (.int (5 : Int32)), .val (.ref ob), .val (.int (4 : Int32)), .val (.double (FP.ddiv (FP.ddiv (FP.dmul (WF j.val 4) (mnF j.val)) (FP.i2d ((4 : Int32) + (1 : Int32)))) (FP.dsub FP.dconst1 (FP.ddiv (mnF j.val) (FP.i2d ((4 : Int32) + (2 : Int32))))))), .second, .unset, .unset, .unset, .unset, .unset, .unset] [])) _
        refine XS.aload X227.here hx rfl (hb hby at_142) rfl rfl ?_
        show Steps p.tables e below (T227.setTop (mkF m 144 #[.val (.int p1), .val (.int p2), .val (.int (Int32.ofNat j.val)), .val (.double (mnF j.val)), .second, .val (.int (Int32.ofNat (j.val / 4))), .val (.int (5 : Int32)), .val (.ref ob), .val (.int (4 : Int32)), .val (.double (FP.ddiv (FP.ddiv (FP.dmul (WF j.val 4) (mnF j.val)) (FP.i2d ((4 : Int32) + (1 : Int32)))) (FP.dsub FP.dconst1 (FP.ddiv (mnF j.val) (FP.i2d ((4 : Int32) + (2 : Int32))))))), .second, .unset, .unset, .unset, .unset, .unset, .unset] [(.ref ob)])) _
        exact k)
      obtain ⟨cq230, kq230, q230a, q230b, q230c⟩ := isOf hZ e227 G219_0
      obtain ⟨_, _, ⟨T230, L230, k230', n230⟩, -, X230, ⟨Lc230, hQ230, l230, y230, z230⟩, st230⟩ := X227.virtualBack hx (y := (⟨"com/example/topple/topple/markov/PoissonWeights", "next", "()D"⟩ : MethodName)) (z := (⟨"com/example/topple/topple/markov/PoissonWeights", "next", "()D"⟩ : MethodName)) hown (mvT hZ (hw _ (List.mem_of_getElem? (i := 22) rfl))) (mvT hZ (hw _ (List.mem_of_getElem? (i := 23) rfl))) (notFace_of_selects (args := #[]) (mvT hZ (hw _ (List.mem_of_getElem? (i := 25) rfl)))) (mvT hZ (hw _ (List.mem_of_getElem? (i := 25) rfl))) (mvT hZ (hw _ (List.mem_of_getElem? (i := 24) rfl))) (by decide) (backOf (W := 0) (rm_nx l Z a0 hw [] ob ta (mnF j.val) (4 : Int32) (5 : Int32) (Int32.ofNat (j.val / 4)) (Int32.ofNat 0) (WF j.val 4) (WF j.val 5) (j.val / 4 - 0 + 1) 5 (fun i => tmF j.val (j.val / 4 - 0 - i)) T219.heap n0 (Nat.le_trans (Nat.le_trans (Nat.le_trans (Nat.le_trans (Nat.le_trans (Nat.le_trans (Nat.le_trans Z0 E186.1) K195.1) K199.1) K204.1) K209.1) K214.1) K219.1) G219_0 G219_1 G219_2 G219_3 G219_4 G219_5 G219_6 (Nat.le_trans Z0 (Nat.le_of_eq g186.symm)) (by decide) ne195 F221 (by decide) (nlo_5 j) (fun q => by
            obtain ⟨x1, x2, x3⟩ := nhi_5 j q
            exact ⟨nn_of x1, nn_of x2, x3⟩)) hZ (hw _ (List.mem_of_getElem? (i := 26) rfl)) (hw _ (List.mem_of_getElem? (i := 4) rfl)) (by decide) (by decide)) q230a q230c (g := (mkF m 144 #[.val (.int p1), .val (.int p2), .val (.int (Int32.ofNat j.val)), .val (.double (mnF j.val)), .second, .val (.int (Int32.ofNat (j.val / 4))), .val (.int (5 : Int32)), .val (.ref ob), .val (.int (4 : Int32)), .val (.double (FP.ddiv (FP.ddiv (FP.dmul (WF j.val 4) (mnF j.val)) (FP.i2d ((4 : Int32) + (1 : Int32)))) (FP.dsub FP.dconst1 (FP.ddiv (mnF j.val) (FP.i2d ((4 : Int32) + (2 : Int32))))))), .second, .unset, .unset, .unset, .unset, .unset, .unset] [(.ref ob)])) rfl (by rw [hml]; rfl) (Steps.refl _) (argsL := []) (rest := []) (lenOf pd___D rfl) rfl (by show 2 * 0 + _ ≤ _; exact Nat.le_of_eq rfl) (hb hby at_144) (fun _ _ => ⟨rfl, e227, (by decide : 2 + 0 ≤ _), (by decide : 14 + 0 ≤ _)⟩)
      dsimp only [Pt.U, Pt.locs, Pt.cells, Pt.slots] at X230 l230 y230 z230 st230 hQ230
      subst l230 y230 z230
      obtain ⟨rfl, N230, K230, G230_0, G230_1, G230_2, G230_3, G230_4, G230_5, G230_6⟩ := hQ230
      have M230 := Fr.app M227 N230
      have F231 : Exa Z T230.heap ob "com/example/topple/topple/markov/PoissonWeights" := (G219_0.keep K230)
      have F232 : OwnArr.Ag Z T230.heap ta .double (j.val / 4 - 0 + 1) (fun i => .double (tmF j.val (j.val / 4 - 0 - i))) := (F221.keep K230 (ninS ne195 nin0))
      have c233 : ∀ t, Steps p.tables e below (T230.setTop (mkF m 147 #[.val (.int p1), .val (.int p2), .val (.int (Int32.ofNat j.val)), .val (.double (mnF j.val)), .second, .val (.int (Int32.ofNat (j.val / 4))), .val (.int (5 : Int32)), .val (.ref ob), .val (.int (4 : Int32)), .val (.double (FP.ddiv (FP.ddiv (FP.dmul (WF j.val 4) (mnF j.val)) (FP.i2d ((4 : Int32) + (1 : Int32)))) (FP.dsub FP.dconst1 (FP.ddiv (mnF j.val) (FP.i2d ((4 : Int32) + (2 : Int32))))))), .second, .unset, .unset, .unset, .unset, .unset, .unset] [(.double (WF j.val 5))])) t → Steps p.tables e below (s₁.setTop (entryFrame m #[(.int p1), (.int p2)] maxLocals)) t := fun t k => c229 t (st230.trans k)
      have c234 : ∀ t, Steps p.tables e below (T230.setTop (mkF m 151 #[.val (.int p1), .val (.int p2), .val (.int (Int32.ofNat j.val)), .val (.double (mnF j.val)), .second, .val (.int (Int32.ofNat (j.val / 4))), .val (.int (5 : Int32)), .val (.ref ob), .val (.int (4 : Int32)), .val (.double (FP.ddiv (FP.ddiv (FP.dmul (WF j.val 4) (mnF j.val)) (FP.i2d ((4 : Int32) + (1 : Int32)))) (FP.dsub FP.dconst1 (FP.ddiv (mnF j.val) (FP.i2d ((4 : Int32) + (2 : Int32))))))), .second, .val (.double (WF j.val 5)), .second, .unset, .unset, .unset, .unset] [(.ref ob)])) t → Steps p.tables e below (s₁.setTop (entryFrame m #[(.int p1), (.int p2)] maxLocals)) t := fun t k => c233 t (by
        show Steps p.tables e below (T230.setTop (mkF m 147 #[.val (.int p1), .val (.int p2), .val (.int (Int32.ofNat j.val)), .val (.double (mnF j.val)), .second, .val (.int (Int32.ofNat (j.val / 4))), .val (.int (5 : Int32)), .val (.ref ob), .val (.int (4 : Int32)), .val (.double (FP.ddiv (FP.ddiv (FP.dmul (WF j.val 4) (mnF j.val)) (FP.i2d ((4 : Int32) + (1 : Int32)))) (FP.dsub FP.dconst1 (FP.ddiv (mnF j.val) (FP.i2d ((4 : Int32) + (2 : Int32))))))), .second, .unset, .unset, .unset, .unset, .unset, .unset] [(.double (WF j.val 5))])) _
        refine XS.dstore X230.here hx rfl (hb hby at_147) rfl (l' := #[.val (.int p1), .val (.int p2), .val (.int (Int32.ofNat j.val)), .val (.double (mnF j.val)), .second, .val (.int (Int32.ofNat (j.val / 4))), .val (.int (5 : Int32)), .val (.ref ob), .val (.int (4 : Int32)), .val (.double (FP.ddiv (FP.ddiv (FP.dmul (WF j.val 4) (mnF j.val)) (FP.i2d ((4 : Int32) + (1 : Int32)))) (FP.dsub FP.dconst1 (FP.ddiv (mnF j.val) (FP.i2d ((4 : Int32) + (2 : Int32))))))), .second, .val (.double (WF j.val 5)), .second, .unset, .unset, .unset, .unset]) rfl ?_
        show Steps p.tables e below (T230.setTop (mkF m 149 #[.val (.int p1), .val (.int p2), .val (.int (Int32.ofNat j.val)), .val (.double (mnF j.val)), .second, .val (.int (Int32.ofNat (j.val / 4))), .val (.int (5 : Int32)), .val (.ref ob), .val (.int (4 : Int32)), .val (.double (FP.ddiv (FP.ddiv (FP.dmul (WF j.val 4) (mnF j.val)) (FP.i2d ((4 : Int32) + (1 : Int32)))) (FP.dsub FP.dconst1 (FP.ddiv (mnF j.val) (FP.i2d ((4 : Int32) + (2 : Int32))))))), .second, .val (.double (WF j.val 5)), .second, .unset, .unset, .unset, .unset] [])) _
        refine XS.aload X230.here hx rfl (hb hby at_149) rfl rfl ?_
        show Steps p.tables e below (T230.setTop (mkF m 151 #[.val (.int p1), .val (.int p2), .val (.int (Int32.ofNat j.val)), .val (.double (mnF j.val)), .second, .val (.int (Int32.ofNat (j.val / 4))), .val (.int (5 : Int32)), .val (.ref ob), .val (.int (4 : Int32)), .val (.double (FP.ddiv (FP.ddiv (FP.dmul (WF j.val 4) (mnF j.val)) (FP.i2d ((4 : Int32) + (1 : Int32)))) (FP.dsub FP.dconst1 (FP.ddiv (mnF j.val) (FP.i2d ((4 : Int32) + (2 : Int32))))))), .second, .val (.double (WF j.val 5)), .second, .unset, .unset, .unset, .unset] [(.ref ob)])) _
        exact k)
      obtain ⟨cq235, kq235, q235a, q235b, q235c⟩ := isOf hZ rfl G230_0
      obtain ⟨_, _, ⟨T235, L235, k235', n235⟩, -, X235, ⟨Lc235, hQ235, l235, y235, z235⟩, st235⟩ := X230.virtualBack hx (y := (⟨"com/example/topple/topple/markov/PoissonWeights", "next", "()D"⟩ : MethodName)) (z := (⟨"com/example/topple/topple/markov/PoissonWeights", "next", "()D"⟩ : MethodName)) hown (mvT hZ (hw _ (List.mem_of_getElem? (i := 22) rfl))) (mvT hZ (hw _ (List.mem_of_getElem? (i := 23) rfl))) (notFace_of_selects (args := #[]) (mvT hZ (hw _ (List.mem_of_getElem? (i := 25) rfl)))) (mvT hZ (hw _ (List.mem_of_getElem? (i := 25) rfl))) (mvT hZ (hw _ (List.mem_of_getElem? (i := 24) rfl))) (by decide) (backOf (W := 0) (rm_nx l Z a0 hw [] ob ta (mnF j.val) (5 : Int32) (6 : Int32) (Int32.ofNat (j.val / 4)) (Int32.ofNat 0) (WF j.val 5) (WF j.val 6) (j.val / 4 - 0 + 1) 6 (fun i => tmF j.val (j.val / 4 - 0 - i)) T230.heap n0 (Nat.le_trans (Nat.le_trans (Nat.le_trans (Nat.le_trans (Nat.le_trans (Nat.le_trans (Nat.le_trans (Nat.le_trans Z0 E186.1) K195.1) K199.1) K204.1) K209.1) K214.1) K219.1) K230.1) G230_0 G230_1 G230_2 G230_3 G230_4 G230_5 G230_6 (Nat.le_trans Z0 (Nat.le_of_eq g186.symm)) (by decide) ne195 F232 (by decide) (nlo_6 j) (fun q => by
            obtain ⟨x1, x2, x3⟩ := nhi_6 j q
            exact ⟨nn_of x1, nn_of x2, x3⟩)) hZ (hw _ (List.mem_of_getElem? (i := 26) rfl)) (hw _ (List.mem_of_getElem? (i := 4) rfl)) (by decide) (by decide)) q235a q235c (g := (mkF m 151 #[.val (.int p1), .val (.int p2), .val (.int (Int32.ofNat j.val)), .val (.double (mnF j.val)), .second, .val (.int (Int32.ofNat (j.val / 4))), .val (.int (5 : Int32)), .val (.ref ob), .val (.int (4 : Int32)), .val (.double (FP.ddiv (FP.ddiv (FP.dmul (WF j.val 4) (mnF j.val)) (FP.i2d ((4 : Int32) + (1 : Int32)))) (FP.dsub FP.dconst1 (FP.ddiv (mnF j.val) (FP.i2d ((4 : Int32) + (2 : Int32))))))), .second, .val (.double (WF j.val 5)), .second, .unset, .unset, .unset, .unset] [(.ref ob)])) rfl (by rw [hml]; rfl) (Steps.refl _) (argsL := []) (rest := []) (lenOf pd___D rfl) rfl (by show 2 * 0 + _ ≤ _; exact Nat.le_of_eq rfl) (hb hby at_151) (fun _ _ => ⟨rfl, rfl, (by decide : 2 + 0 ≤ _), (by decide : 14 + 0 ≤ _)⟩)
      dsimp only [Pt.U, Pt.locs, Pt.cells, Pt.slots] at X235 l235 y235 z235 st235 hQ235
      subst l235 y235 z235
      obtain ⟨rfl, N235, K235, G235_0, G235_1, G235_2, G235_3, G235_4, G235_5, G235_6⟩ := hQ235
      have M235 := Fr.app M230 N235
      have F236 : Exa Z T235.heap ob "com/example/topple/topple/markov/PoissonWeights" := (G230_0.keep K235)
      have F237 : OwnArr.Ag Z T235.heap ta .double (j.val / 4 - 0 + 1) (fun i => .double (tmF j.val (j.val / 4 - 0 - i))) := (F232.keep K235 (ninS ne195 nin0))
      have c238 : ∀ t, Steps p.tables e below (T235.setTop (mkF m 154 #[.val (.int p1), .val (.int p2), .val (.int (Int32.ofNat j.val)), .val (.double (mnF j.val)), .second, .val (.int (Int32.ofNat (j.val / 4))), .val (.int (5 : Int32)), .val (.ref ob), .val (.int (4 : Int32)), .val (.double (FP.ddiv (FP.ddiv (FP.dmul (WF j.val 4) (mnF j.val)) (FP.i2d ((4 : Int32) + (1 : Int32)))) (FP.dsub FP.dconst1 (FP.ddiv (mnF j.val) (FP.i2d ((4 : Int32) + (2 : Int32))))))), .second, .val (.double (WF j.val 5)), .second, .unset, .unset, .unset, .unset] [(.double (WF j.val 6))])) t → Steps p.tables e below (s₁.setTop (entryFrame m #[(.int p1), (.int p2)] maxLocals)) t := fun t k => c234 t (st235.trans k)
      obtain ⟨d161, hd161⟩ : ∃ v : UInt64, FP.i2d (6 : Int32) = v := ⟨_, rfl⟩
      obtain ⟨d162, hd162⟩ : ∃ v : UInt64, FP.ddiv (mnF j.val) d161 = v := ⟨_, rfl⟩
      have n162 : Jvm.Free.Fl.NoNaN64 (FP.ddiv (mnF j.val) d161) := by rw [← hd161]; exact nn_of l1
      obtain ⟨d172, hd172⟩ : ∃ v : UInt64, FP.dsub FP.dconst1 d162 = v := ⟨_, rfl⟩
      have n172 : Jvm.Free.Fl.NoNaN64 (FP.dsub FP.dconst1 d162) := by rw [← hd162, ← hd161]; exact nn_of l2
      obtain ⟨d173, hd173⟩ : ∃ v : UInt64, FP.ddiv (WF j.val 5) d172 = v := ⟨_, rfl⟩
      have n173 : Jvm.Free.Fl.NoNaN64 (FP.ddiv (WF j.val 5) d172) := by rw [← hd172, ← hd162, ← hd161]; exact nn_of l3
      obtain ⟨k174, hk174⟩ : ∃ v : Int32, cmpValue (FP.dcmp (FP.ddiv (FP.ddiv (FP.dmul (WF j.val 4) (mnF j.val)) (FP.i2d ((4 : Int32) + (1 : Int32)))) (FP.dsub FP.dconst1 (FP.ddiv (mnF j.val) (FP.i2d ((4 : Int32) + (2 : Int32)))))) d173) .l = v := ⟨_, rfl⟩
      have e174 : k174 = 0 := by rw [← hk174, ← hd173, ← hd172, ← hd162, ← hd161]; exact l4
      obtain ⟨d184, hd184⟩ : ∃ v : UInt64, FP.dadd (WF j.val 5) (WF j.val 6) = v := ⟨_, rfl⟩
      obtain ⟨k185, hk185⟩ : ∃ v : Int32, cmpValue (FP.dcmp (FP.ddiv (FP.ddiv (FP.dmul (WF j.val 4) (mnF j.val)) (FP.i2d ((4 : Int32) + (1 : Int32)))) (FP.dsub FP.dconst1 (FP.ddiv (mnF j.val) (FP.i2d ((4 : Int32) + (2 : Int32)))))) d184) .l = v := ⟨_, rfl⟩
      have e185 : ¬ k185 < 0 := by rw [← hk185, ← hd184]; exact l6
      have c239 : ∀ t, Steps p.tables e below (T235.setTop (mkF m 194 #[.val (.int p1), .val (.int p2), .val (.int (Int32.ofNat j.val)), .val (.double (mnF j.val)), .second, .val (.int (Int32.ofNat (j.val / 4))), .val (.int (5 : Int32)), .val (.ref ob), .val (.int (4 : Int32)), .val (.double (FP.ddiv (FP.ddiv (FP.dmul (WF j.val 4) (mnF j.val)) (FP.i2d ((4 : Int32) + (1 : Int32)))) (FP.dsub FP.dconst1 (FP.ddiv (mnF j.val) (FP.i2d ((4 : Int32) + (2 : Int32))))))), .second, .val (.double (WF j.val 5)), .second, .val (.double (WF j.val 6)), .second, .val (.double d162), .second] [(.int (1 : Int32))])) t → Steps p.tables e below (s₁.setTop (entryFrame m #[(.int p1), (.int p2)] maxLocals)) t := fun t k => c238 t (by
        show Steps p.tables e below (T235.setTop (mkF m 154 #[.val (.int p1), .val (.int p2), .val (.int (Int32.ofNat j.val)), .val (.double (mnF j.val)), .second, .val (.int (Int32.ofNat (j.val / 4))), .val (.int (5 : Int32)), .val (.ref ob), .val (.int (4 : Int32)), .val (.double (FP.ddiv (FP.ddiv (FP.dmul (WF j.val 4) (mnF j.val)) (FP.i2d ((4 : Int32) + (1 : Int32)))) (FP.dsub FP.dconst1 (FP.ddiv (mnF j.val) (FP.i2d ((4 : Int32) + (2 : Int32))))))), .second, .val (.double (WF j.val 5)), .second, .unset, .unset, .unset, .unset] [(.double (WF j.val 6))])) _
        refine XS.dstore X235.here hx rfl (hb hby at_154) rfl (l' := #[.val (.int p1), .val (.int p2), .val (.int (Int32.ofNat j.val)), .val (.double (mnF j.val)), .second, .val (.int (Int32.ofNat (j.val / 4))), .val (.int (5 : Int32)), .val (.ref ob), .val (.int (4 : Int32)), .val (.double (FP.ddiv (FP.ddiv (FP.dmul (WF j.val 4) (mnF j.val)) (FP.i2d ((4 : Int32) + (1 : Int32)))) (FP.dsub FP.dconst1 (FP.ddiv (mnF j.val) (FP.i2d ((4 : Int32) + (2 : Int32))))))), .second, .val (.double (WF j.val 5)), .second, .val (.double (WF j.val 6)), .second, .unset, .unset]) rfl ?_
        show Steps p.tables e below (T235.setTop (mkF m 156 #[.val (.int p1), .val (.int p2), .val (.int (Int32.ofNat j.val)), .val (.double (mnF j.val)), .second, .val (.int (Int32.ofNat (j.val / 4))), .val (.int (5 : Int32)), .val (.ref ob), .val (.int (4 : Int32)), .val (.double (FP.ddiv (FP.ddiv (FP.dmul (WF j.val 4) (mnF j.val)) (FP.i2d ((4 : Int32) + (1 : Int32)))) (FP.dsub FP.dconst1 (FP.ddiv (mnF j.val) (FP.i2d ((4 : Int32) + (2 : Int32))))))), .second, .val (.double (WF j.val 5)), .second, .val (.double (WF j.val 6)), .second, .unset, .unset] [])) _
        refine XS.dloadN X235.here hx rfl (hb hby at_156) rfl ?_
        show Steps p.tables e below (T235.setTop (mkF m 157 #[.val (.int p1), .val (.int p2), .val (.int (Int32.ofNat j.val)), .val (.double (mnF j.val)), .second, .val (.int (Int32.ofNat (j.val / 4))), .val (.int (5 : Int32)), .val (.ref ob), .val (.int (4 : Int32)), .val (.double (FP.ddiv (FP.ddiv (FP.dmul (WF j.val 4) (mnF j.val)) (FP.i2d ((4 : Int32) + (1 : Int32)))) (FP.dsub FP.dconst1 (FP.ddiv (mnF j.val) (FP.i2d ((4 : Int32) + (2 : Int32))))))), .second, .val (.double (WF j.val 5)), .second, .val (.double (WF j.val 6)), .second, .unset, .unset] [(.double (mnF j.val))])) _
        refine XS.iload X235.here hx rfl (hb hby at_157) rfl ?_
        show Steps p.tables e below (T235.setTop (mkF m 159 #[.val (.int p1), .val (.int p2), .val (.int (Int32.ofNat j.val)), .val (.double (mnF j.val)), .second, .val (.int (Int32.ofNat (j.val / 4))), .val (.int (5 : Int32)), .val (.ref ob), .val (.int (4 : Int32)), .val (.double (FP.ddiv (FP.ddiv (FP.dmul (WF j.val 4) (mnF j.val)) (FP.i2d ((4 : Int32) + (1 : Int32)))) (FP.dsub FP.dconst1 (FP.ddiv (mnF j.val) (FP.i2d ((4 : Int32) + (2 : Int32))))))), .second, .val (.double (WF j.val 5)), .second, .val (.double (WF j.val 6)), .second, .unset, .unset] [(.int (4 : Int32)), (.double (mnF j.val))])) _
        refine XS.iconst X235.here hx rfl (hb hby at_159) ?_
        show Steps p.tables e below (T235.setTop (mkF m 160 #[.val (.int p1), .val (.int p2), .val (.int (Int32.ofNat j.val)), .val (.double (mnF j.val)), .second, .val (.int (Int32.ofNat (j.val / 4))), .val (.int (5 : Int32)), .val (.ref ob), .val (.int (4 : Int32)), .val (.double (FP.ddiv (FP.ddiv (FP.dmul (WF j.val 4) (mnF j.val)) (FP.i2d ((4 : Int32) + (1 : Int32)))) (FP.dsub FP.dconst1 (FP.ddiv (mnF j.val) (FP.i2d ((4 : Int32) + (2 : Int32))))))), .second, .val (.double (WF j.val 5)), .second, .val (.double (WF j.val 6)), .second, .unset, .unset] [(.int (2 : Int32)), (.int (4 : Int32)), (.double (mnF j.val))])) _
        refine XS.iadd X235.here hx rfl (hb hby at_160) rfl ?_
        show Steps p.tables e below (T235.setTop (mkF m 161 #[.val (.int p1), .val (.int p2), .val (.int (Int32.ofNat j.val)), .val (.double (mnF j.val)), .second, .val (.int (Int32.ofNat (j.val / 4))), .val (.int (5 : Int32)), .val (.ref ob), .val (.int (4 : Int32)), .val (.double (FP.ddiv (FP.ddiv (FP.dmul (WF j.val 4) (mnF j.val)) (FP.i2d ((4 : Int32) + (1 : Int32)))) (FP.dsub FP.dconst1 (FP.ddiv (mnF j.val) (FP.i2d ((4 : Int32) + (2 : Int32))))))), .second, .val (.double (WF j.val 5)), .second, .val (.double (WF j.val 6)), .second, .unset, .unset] [(.int (6 : Int32)), (.double (mnF j.val))])) _
        refine XS.i2dS X235.here hx rfl (hb hby at_161) rfl hd161 ?_
        show Steps p.tables e below (T235.setTop (mkF m 162 #[.val (.int p1), .val (.int p2), .val (.int (Int32.ofNat j.val)), .val (.double (mnF j.val)), .second, .val (.int (Int32.ofNat (j.val / 4))), .val (.int (5 : Int32)), .val (.ref ob), .val (.int (4 : Int32)), .val (.double (FP.ddiv (FP.ddiv (FP.dmul (WF j.val 4) (mnF j.val)) (FP.i2d ((4 : Int32) + (1 : Int32)))) (FP.dsub FP.dconst1 (FP.ddiv (mnF j.val) (FP.i2d ((4 : Int32) + (2 : Int32))))))), .second, .val (.double (WF j.val 5)), .second, .val (.double (WF j.val 6)), .second, .unset, .unset] [(.double d161), (.double (mnF j.val))])) _
        refine XS.ddivS X235.here hx rfl (hb hby at_162) rfl n162 hd162 ?_
        show Steps p.tables e below (T235.setTop (mkF m 163 #[.val (.int p1), .val (.int p2), .val (.int (Int32.ofNat j.val)), .val (.double (mnF j.val)), .second, .val (.int (Int32.ofNat (j.val / 4))), .val (.int (5 : Int32)), .val (.ref ob), .val (.int (4 : Int32)), .val (.double (FP.ddiv (FP.ddiv (FP.dmul (WF j.val 4) (mnF j.val)) (FP.i2d ((4 : Int32) + (1 : Int32)))) (FP.dsub FP.dconst1 (FP.ddiv (mnF j.val) (FP.i2d ((4 : Int32) + (2 : Int32))))))), .second, .val (.double (WF j.val 5)), .second, .val (.double (WF j.val 6)), .second, .unset, .unset] [(.double d162)])) _
        refine XS.dstore X235.here hx rfl (hb hby at_163) rfl (l' := #[.val (.int p1), .val (.int p2), .val (.int (Int32.ofNat j.val)), .val (.double (mnF j.val)), .second, .val (.int (Int32.ofNat (j.val / 4))), .val (.int (5 : Int32)), .val (.ref ob), .val (.int (4 : Int32)), .val (.double (FP.ddiv (FP.ddiv (FP.dmul (WF j.val 4) (mnF j.val)) (FP.i2d ((4 : Int32) + (1 : Int32)))) (FP.dsub FP.dconst1 (FP.ddiv (mnF j.val) (FP.i2d ((4 : Int32) + (2 : Int32))))))), .second, .val (.double (WF j.val 5)), .second, .val (.double (WF j.val 6)), .second, .val (.double d162), .second]) rfl ?_
        show Steps p.tables e below (T235.setTop (mkF m 165 #[.val (.int p1), .val (.int p2), .val (.int (Int32.ofNat j.val)), .val (.double (mnF j.val)), .second, .val (.int (Int32.ofNat (j.val / 4))), .val (.int (5 : Int32)), .val (.ref ob), .val (.int (4 : Int32)), .val (.double (FP.ddiv (FP.ddiv (FP.dmul (WF j.val 4) (mnF j.val)) (FP.i2d ((4 : Int32) + (1 : Int32)))) (FP.dsub FP.dconst1 (FP.ddiv (mnF j.val) (FP.i2d ((4 : Int32) + (2 : Int32))))))), .second, .val (.double (WF j.val 5)), .second, .val (.double (WF j.val 6)), .second, .val (.double d162), .second] [])) _
        refine XS.dload X235.here hx rfl (hb hby at_165) rfl ?_
        show Steps p.tables e below (T235.setTop (mkF m 167 #[.val (.int p1), .val (.int p2), .val (.int (Int32.ofNat j.val)), .val (.double (mnF j.val)), .second, .val (.int (Int32.ofNat (j.val / 4))), .val (.int (5 : Int32)), .val (.ref ob), .val (.int (4 : Int32)), .val (.double (FP.ddiv (FP.ddiv (FP.dmul (WF j.val 4) (mnF j.val)) (FP.i2d ((4 : Int32) + (1 : Int32)))) (FP.dsub FP.dconst1 (FP.ddiv (mnF j.val) (FP.i2d ((4 : Int32) + (2 : Int32))))))), .second, .val (.double (WF j.val 5)), .second, .val (.double (WF j.val 6)), .second, .val (.double d162), .second] [(.double (FP.ddiv (FP.ddiv (FP.dmul (WF j.val 4) (mnF j.val)) (FP.i2d ((4 : Int32) + (1 : Int32)))) (FP.dsub FP.dconst1 (FP.ddiv (mnF j.val) (FP.i2d ((4 : Int32) + (2 : Int32)))))))])) _
        refine XS.dload X235.here hx rfl (hb hby at_167) rfl ?_
        show Steps p.tables e below (T235.setTop (mkF m 169 #[.val (.int p1), .val (.int p2), .val (.int (Int32.ofNat j.val)), .val (.double (mnF j.val)), .second, .val (.int (Int32.ofNat (j.val / 4))), .val (.int (5 : Int32)), .val (.ref ob), .val (.int (4 : Int32)), .val (.double (FP.ddiv (FP.ddiv (FP.dmul (WF j.val 4) (mnF j.val)) (FP.i2d ((4 : Int32) + (1 : Int32)))) (FP.dsub FP.dconst1 (FP.ddiv (mnF j.val) (FP.i2d ((4 : Int32) + (2 : Int32))))))), .second, .val (.double (WF j.val 5)), .second, .val (.double (WF j.val 6)), .second, .val (.double d162), .second] [(.double (WF j.val 5)), (.double (FP.ddiv (FP.ddiv (FP.dmul (WF j.val 4) (mnF j.val)) (FP.i2d ((4 : Int32) + (1 : Int32)))) (FP.dsub FP.dconst1 (FP.ddiv (mnF j.val) (FP.i2d ((4 : Int32) + (2 : Int32)))))))])) _
        refine XS.dconst1 X235.here hx rfl (hb hby at_169) rfl ?_
        show Steps p.tables e below (T235.setTop (mkF m 170 #[.val (.int p1), .val (.int p2), .val (.int (Int32.ofNat j.val)), .val (.double (mnF j.val)), .second, .val (.int (Int32.ofNat (j.val / 4))), .val (.int (5 : Int32)), .val (.ref ob), .val (.int (4 : Int32)), .val (.double (FP.ddiv (FP.ddiv (FP.dmul (WF j.val 4) (mnF j.val)) (FP.i2d ((4 : Int32) + (1 : Int32)))) (FP.dsub FP.dconst1 (FP.ddiv (mnF j.val) (FP.i2d ((4 : Int32) + (2 : Int32))))))), .second, .val (.double (WF j.val 5)), .second, .val (.double (WF j.val 6)), .second, .val (.double d162), .second] [(.double FP.dconst1), (.double (WF j.val 5)), (.double (FP.ddiv (FP.ddiv (FP.dmul (WF j.val 4) (mnF j.val)) (FP.i2d ((4 : Int32) + (1 : Int32)))) (FP.dsub FP.dconst1 (FP.ddiv (mnF j.val) (FP.i2d ((4 : Int32) + (2 : Int32)))))))])) _
        refine XS.dload X235.here hx rfl (hb hby at_170) rfl ?_
        show Steps p.tables e below (T235.setTop (mkF m 172 #[.val (.int p1), .val (.int p2), .val (.int (Int32.ofNat j.val)), .val (.double (mnF j.val)), .second, .val (.int (Int32.ofNat (j.val / 4))), .val (.int (5 : Int32)), .val (.ref ob), .val (.int (4 : Int32)), .val (.double (FP.ddiv (FP.ddiv (FP.dmul (WF j.val 4) (mnF j.val)) (FP.i2d ((4 : Int32) + (1 : Int32)))) (FP.dsub FP.dconst1 (FP.ddiv (mnF j.val) (FP.i2d ((4 : Int32) + (2 : Int32))))))), .second, .val (.double (WF j.val 5)), .second, .val (.double (WF j.val 6)), .second, .val (.double d162), .second] [(.double d162), (.double FP.dconst1), (.double (WF j.val 5)), (.double (FP.ddiv (FP.ddiv (FP.dmul (WF j.val 4) (mnF j.val)) (FP.i2d ((4 : Int32) + (1 : Int32)))) (FP.dsub FP.dconst1 (FP.ddiv (mnF j.val) (FP.i2d ((4 : Int32) + (2 : Int32)))))))])) _
        refine XS.dsubS X235.here hx rfl (hb hby at_172) rfl n172 hd172 ?_
        show Steps p.tables e below (T235.setTop (mkF m 173 #[.val (.int p1), .val (.int p2), .val (.int (Int32.ofNat j.val)), .val (.double (mnF j.val)), .second, .val (.int (Int32.ofNat (j.val / 4))), .val (.int (5 : Int32)), .val (.ref ob), .val (.int (4 : Int32)), .val (.double (FP.ddiv (FP.ddiv (FP.dmul (WF j.val 4) (mnF j.val)) (FP.i2d ((4 : Int32) + (1 : Int32)))) (FP.dsub FP.dconst1 (FP.ddiv (mnF j.val) (FP.i2d ((4 : Int32) + (2 : Int32))))))), .second, .val (.double (WF j.val 5)), .second, .val (.double (WF j.val 6)), .second, .val (.double d162), .second] [(.double d172), (.double (WF j.val 5)), (.double (FP.ddiv (FP.ddiv (FP.dmul (WF j.val 4) (mnF j.val)) (FP.i2d ((4 : Int32) + (1 : Int32)))) (FP.dsub FP.dconst1 (FP.ddiv (mnF j.val) (FP.i2d ((4 : Int32) + (2 : Int32)))))))])) _
        refine XS.ddivS X235.here hx rfl (hb hby at_173) rfl n173 hd173 ?_
        show Steps p.tables e below (T235.setTop (mkF m 174 #[.val (.int p1), .val (.int p2), .val (.int (Int32.ofNat j.val)), .val (.double (mnF j.val)), .second, .val (.int (Int32.ofNat (j.val / 4))), .val (.int (5 : Int32)), .val (.ref ob), .val (.int (4 : Int32)), .val (.double (FP.ddiv (FP.ddiv (FP.dmul (WF j.val 4) (mnF j.val)) (FP.i2d ((4 : Int32) + (1 : Int32)))) (FP.dsub FP.dconst1 (FP.ddiv (mnF j.val) (FP.i2d ((4 : Int32) + (2 : Int32))))))), .second, .val (.double (WF j.val 5)), .second, .val (.double (WF j.val 6)), .second, .val (.double d162), .second] [(.double d173), (.double (FP.ddiv (FP.ddiv (FP.dmul (WF j.val 4) (mnF j.val)) (FP.i2d ((4 : Int32) + (1 : Int32)))) (FP.dsub FP.dconst1 (FP.ddiv (mnF j.val) (FP.i2d ((4 : Int32) + (2 : Int32)))))))])) _
        refine XS.dcmpS X235.here hx rfl (hb hby at_174) rfl hk174 ?_
        show Steps p.tables e below (T235.setTop (mkF m 175 #[.val (.int p1), .val (.int p2), .val (.int (Int32.ofNat j.val)), .val (.double (mnF j.val)), .second, .val (.int (Int32.ofNat (j.val / 4))), .val (.int (5 : Int32)), .val (.ref ob), .val (.int (4 : Int32)), .val (.double (FP.ddiv (FP.ddiv (FP.dmul (WF j.val 4) (mnF j.val)) (FP.i2d ((4 : Int32) + (1 : Int32)))) (FP.dsub FP.dconst1 (FP.ddiv (mnF j.val) (FP.i2d ((4 : Int32) + (2 : Int32))))))), .second, .val (.double (WF j.val 5)), .second, .val (.double (WF j.val 6)), .second, .val (.double d162), .second] [(.int k174)])) _
        refine XS.ifNo X235.here hx rfl (hb hby at_175) rfl (XT.i0_ne_f e174) ?_
        show Steps p.tables e below (T235.setTop (mkF m 178 #[.val (.int p1), .val (.int p2), .val (.int (Int32.ofNat j.val)), .val (.double (mnF j.val)), .second, .val (.int (Int32.ofNat (j.val / 4))), .val (.int (5 : Int32)), .val (.ref ob), .val (.int (4 : Int32)), .val (.double (FP.ddiv (FP.ddiv (FP.dmul (WF j.val 4) (mnF j.val)) (FP.i2d ((4 : Int32) + (1 : Int32)))) (FP.dsub FP.dconst1 (FP.ddiv (mnF j.val) (FP.i2d ((4 : Int32) + (2 : Int32))))))), .second, .val (.double (WF j.val 5)), .second, .val (.double (WF j.val 6)), .second, .val (.double d162), .second] [])) _
        refine XS.dload X235.here hx rfl (hb hby at_178) rfl ?_
        show Steps p.tables e below (T235.setTop (mkF m 180 #[.val (.int p1), .val (.int p2), .val (.int (Int32.ofNat j.val)), .val (.double (mnF j.val)), .second, .val (.int (Int32.ofNat (j.val / 4))), .val (.int (5 : Int32)), .val (.ref ob), .val (.int (4 : Int32)), .val (.double (FP.ddiv (FP.ddiv (FP.dmul (WF j.val 4) (mnF j.val)) (FP.i2d ((4 : Int32) + (1 : Int32)))) (FP.dsub FP.dconst1 (FP.ddiv (mnF j.val) (FP.i2d ((4 : Int32) + (2 : Int32))))))), .second, .val (.double (WF j.val 5)), .second, .val (.double (WF j.val 6)), .second, .val (.double d162), .second] [(.double (FP.ddiv (FP.ddiv (FP.dmul (WF j.val 4) (mnF j.val)) (FP.i2d ((4 : Int32) + (1 : Int32)))) (FP.dsub FP.dconst1 (FP.ddiv (mnF j.val) (FP.i2d ((4 : Int32) + (2 : Int32)))))))])) _
        refine XS.dload X235.here hx rfl (hb hby at_180) rfl ?_
        show Steps p.tables e below (T235.setTop (mkF m 182 #[.val (.int p1), .val (.int p2), .val (.int (Int32.ofNat j.val)), .val (.double (mnF j.val)), .second, .val (.int (Int32.ofNat (j.val / 4))), .val (.int (5 : Int32)), .val (.ref ob), .val (.int (4 : Int32)), .val (.double (FP.ddiv (FP.ddiv (FP.dmul (WF j.val 4) (mnF j.val)) (FP.i2d ((4 : Int32) + (1 : Int32)))) (FP.dsub FP.dconst1 (FP.ddiv (mnF j.val) (FP.i2d ((4 : Int32) + (2 : Int32))))))), .second, .val (.double (WF j.val 5)), .second, .val (.double (WF j.val 6)), .second, .val (.double d162), .second] [(.double (WF j.val 5)), (.double (FP.ddiv (FP.ddiv (FP.dmul (WF j.val 4) (mnF j.val)) (FP.i2d ((4 : Int32) + (1 : Int32)))) (FP.dsub FP.dconst1 (FP.ddiv (mnF j.val) (FP.i2d ((4 : Int32) + (2 : Int32)))))))])) _
        refine XS.dload X235.here hx rfl (hb hby at_182) rfl ?_
        show Steps p.tables e below (T235.setTop (mkF m 184 #[.val (.int p1), .val (.int p2), .val (.int (Int32.ofNat j.val)), .val (.double (mnF j.val)), .second, .val (.int (Int32.ofNat (j.val / 4))), .val (.int (5 : Int32)), .val (.ref ob), .val (.int (4 : Int32)), .val (.double (FP.ddiv (FP.ddiv (FP.dmul (WF j.val 4) (mnF j.val)) (FP.i2d ((4 : Int32) + (1 : Int32)))) (FP.dsub FP.dconst1 (FP.ddiv (mnF j.val) (FP.i2d ((4 : Int32) + (2 : Int32))))))), .second, .val (.double (WF j.val 5)), .second, .val (.double (WF j.val 6)), .second, .val (.double d162), .second] [(.double (WF j.val 6)), (.double (WF j.val 5)), (.double (FP.ddiv (FP.ddiv (FP.dmul (WF j.val 4) (mnF j.val)) (FP.i2d ((4 : Int32) + (1 : Int32)))) (FP.dsub FP.dconst1 (FP.ddiv (mnF j.val) (FP.i2d ((4 : Int32) + (2 : Int32)))))))])) _
        refine XS.daddS X235.here hx rfl (hb hby at_184) rfl (nn_of l5) hd184 ?_
        show Steps p.tables e below (T235.setTop (mkF m 185 #[.val (.int p1), .val (.int p2), .val (.int (Int32.ofNat j.val)), .val (.double (mnF j.val)), .second, .val (.int (Int32.ofNat (j.val / 4))), .val (.int (5 : Int32)), .val (.ref ob), .val (.int (4 : Int32)), .val (.double (FP.ddiv (FP.ddiv (FP.dmul (WF j.val 4) (mnF j.val)) (FP.i2d ((4 : Int32) + (1 : Int32)))) (FP.dsub FP.dconst1 (FP.ddiv (mnF j.val) (FP.i2d ((4 : Int32) + (2 : Int32))))))), .second, .val (.double (WF j.val 5)), .second, .val (.double (WF j.val 6)), .second, .val (.double d162), .second] [(.double d184), (.double (FP.ddiv (FP.ddiv (FP.dmul (WF j.val 4) (mnF j.val)) (FP.i2d ((4 : Int32) + (1 : Int32)))) (FP.dsub FP.dconst1 (FP.ddiv (mnF j.val) (FP.i2d ((4 : Int32) + (2 : Int32)))))))])) _
        refine XS.dcmpS X235.here hx rfl (hb hby at_185) rfl hk185 ?_
        show Steps p.tables e below (T235.setTop (mkF m 186 #[.val (.int p1), .val (.int p2), .val (.int (Int32.ofNat j.val)), .val (.double (mnF j.val)), .second, .val (.int (Int32.ofNat (j.val / 4))), .val (.int (5 : Int32)), .val (.ref ob), .val (.int (4 : Int32)), .val (.double (FP.ddiv (FP.ddiv (FP.dmul (WF j.val 4) (mnF j.val)) (FP.i2d ((4 : Int32) + (1 : Int32)))) (FP.dsub FP.dconst1 (FP.ddiv (mnF j.val) (FP.i2d ((4 : Int32) + (2 : Int32))))))), .second, .val (.double (WF j.val 5)), .second, .val (.double (WF j.val 6)), .second, .val (.double d162), .second] [(.int k185)])) _
        refine XS.ifNo X235.here hx rfl (hb hby at_186) rfl (XT.i0_lt_f e185) ?_
        show Steps p.tables e below (T235.setTop (mkF m 189 #[.val (.int p1), .val (.int p2), .val (.int (Int32.ofNat j.val)), .val (.double (mnF j.val)), .second, .val (.int (Int32.ofNat (j.val / 4))), .val (.int (5 : Int32)), .val (.ref ob), .val (.int (4 : Int32)), .val (.double (FP.ddiv (FP.ddiv (FP.dmul (WF j.val 4) (mnF j.val)) (FP.i2d ((4 : Int32) + (1 : Int32)))) (FP.dsub FP.dconst1 (FP.ddiv (mnF j.val) (FP.i2d ((4 : Int32) + (2 : Int32))))))), .second, .val (.double (WF j.val 5)), .second, .val (.double (WF j.val 6)), .second, .val (.double d162), .second] [])) _
        refine XS.iconst X235.here hx rfl (hb hby at_189) ?_
        show Steps p.tables e below (T235.setTop (mkF m 190 #[.val (.int p1), .val (.int p2), .val (.int (Int32.ofNat j.val)), .val (.double (mnF j.val)), .second, .val (.int (Int32.ofNat (j.val / 4))), .val (.int (5 : Int32)), .val (.ref ob), .val (.int (4 : Int32)), .val (.double (FP.ddiv (FP.ddiv (FP.dmul (WF j.val 4) (mnF j.val)) (FP.i2d ((4 : Int32) + (1 : Int32)))) (FP.dsub FP.dconst1 (FP.ddiv (mnF j.val) (FP.i2d ((4 : Int32) + (2 : Int32))))))), .second, .val (.double (WF j.val 5)), .second, .val (.double (WF j.val 6)), .second, .val (.double d162), .second] [(.int (1 : Int32))])) _
        refine XS.goto X235.here hx rfl (pc0 := 190) (pc' := 194) rfl (hb hby at_190) (by decide) (by decide) ?_
        show Steps p.tables e below (T235.setTop (mkF m 194 #[.val (.int p1), .val (.int p2), .val (.int (Int32.ofNat j.val)), .val (.double (mnF j.val)), .second, .val (.int (Int32.ofNat (j.val / 4))), .val (.int (5 : Int32)), .val (.ref ob), .val (.int (4 : Int32)), .val (.double (FP.ddiv (FP.ddiv (FP.dmul (WF j.val 4) (mnF j.val)) (FP.i2d ((4 : Int32) + (1 : Int32)))) (FP.dsub FP.dconst1 (FP.ddiv (mnF j.val) (FP.i2d ((4 : Int32) + (2 : Int32))))))), .second, .val (.double (WF j.val 5)), .second, .val (.double (WF j.val 6)), .second, .val (.double d162), .second] [(.int (1 : Int32))])) _
        exact k)
      obtain ⟨fs, hr, hrun, hended, hW, hsame⟩ := X235.leave (v := (some (.int (1 : Int32)))) (fun h => by rw [Bd.returns] at h; cases h)
      refine ⟨_, _, pre0 _ (c239 _ (retN X235 hx (t := .boolean) Bd.returns (by simp) (hb hby at_194) hr)), hrun, hended, _, _, rfl, ?_, ⟨_, rfl⟩, hW, hsame.mono (by decide) (by decide)⟩
      show Q_0 Z p1 p2 h0 n0 _ T235.heap _
      exact ⟨rfl, M235⟩
  · rw [nk] at c3
    obtain ⟨T240, h240, X240, e240, E240, A240, D240, -, st240⟩ := newO X0 hx hZ hown (hw _ (List.mem_of_getElem? (i := 2) rfl)) (hw _ (List.mem_of_getElem? (i := 3) rfl)) (hw _ (List.mem_of_getElem? (i := 4) rfl)) e0 (g := (mkF m 26 #[.val (.int p1), .val (.int p2), .val (.int (Int32.ofNat j.val)), .val (.double (mnF j.val)), .second, .val (.int (Int32.ofNat (j.val / 4))), .val (.int (6 : Int32)), .unset, .unset, .unset, .unset, .unset, .unset, .unset, .unset, .unset, .unset] [])) rfl (hb hby at_26) (by decide) (by decide)
    obtain ⟨ob, g240⟩ : ∃ z, z = h0.size := ⟨_, rfl⟩
    rw [← g240] at A240 D240 st240
    have F241 : Fld Z h240 ob "com/example/topple/topple/markov/PoissonWeights" "count" "I" (.int (0 : Int32)) := (D240 (Or.inl (hw _ (List.mem_of_getElem? (i := 12) rfl))) (ty := .int) (by decide))
    have F242 : Fld Z h240 ob "com/example/topple/topple/markov/PoissonWeights" "mean" "D" (.double (0 : UInt64)) := (D240 (Or.inr (hw _ (List.mem_of_getElem? (i := 14) rfl))) (ty := .double) (by decide))
    have F243 : Fld Z h240 ob "com/example/topple/topple/markov/PoissonWeights" "mode" "I" (.int (0 : Int32)) := (D240 (Or.inr (hw _ (List.mem_of_getElem? (i := 16) rfl))) (ty := .int) (by decide))
    have F244 : Fld Z h240 ob "com/example/topple/topple/markov/PoissonWeights" "fewest" "I" (.int (0 : Int32)) := (D240 (Or.inr (hw _ (List.mem_of_getElem? (i := 18) rfl))) (ty := .int) (by decide))
    have F245 : Fld Z h240 ob "com/example/topple/topple/markov/PoissonWeights" "toMode" "[D" .null := (D240 (Or.inr (hw _ (List.mem_of_getElem? (i := 21) rfl))) (ty := (.array .double)) (by decide))
    have F246 : Fld Z h240 ob "com/example/topple/topple/markov/PoissonWeights" "weight" "D" (.double (0 : UInt64)) := (D240 (Or.inl (hw _ (List.mem_of_getElem? (i := 28) rfl))) (ty := .double) (by decide))
    have c247 : ∀ t, Steps p.tables e below (T240.setTop (mkF m 29 #[.val (.int p1), .val (.int p2), .val (.int (Int32.ofNat j.val)), .val (.double (mnF j.val)), .second, .val (.int (Int32.ofNat (j.val / 4))), .val (.int (6 : Int32)), .unset, .unset, .unset, .unset, .unset, .unset, .unset, .unset, .unset, .unset] [(.ref ob)])) t → Steps p.tables e below (s₁.setTop (entryFrame m #[(.int p1), (.int p2)] maxLocals)) t := fun t k => c3 t (st240 _ k)
    have c248 : ∀ t, Steps p.tables e below (T240.setTop (mkF m 31 #[.val (.int p1), .val (.int p2), .val (.int (Int32.ofNat j.val)), .val (.double (mnF j.val)), .second, .val (.int (Int32.ofNat (j.val / 4))), .val (.int (6 : Int32)), .unset, .unset, .unset, .unset, .unset, .unset, .unset, .unset, .unset, .unset] [(.double (mnF j.val)), (.ref ob), (.ref ob)])) t → Steps p.tables e below (s₁.setTop (entryFrame m #[(.int p1), (.int p2)] maxLocals)) t := fun t k => c247 t (by
      show Steps p.tables e below (T240.setTop (mkF m 29 #[.val (.int p1), .val (.int p2), .val (.int (Int32.ofNat j.val)), .val (.double (mnF j.val)), .second, .val (.int (Int32.ofNat (j.val / 4))), .val (.int (6 : Int32)), .unset, .unset, .unset, .unset, .unset, .unset, .unset, .unset, .unset, .unset] [(.ref ob)])) _
      refine XS.dup X240.here hx rfl (hb hby at_29) rfl rfl ?_
      show Steps p.tables e below (T240.setTop (mkF m 30 #[.val (.int p1), .val (.int p2), .val (.int (Int32.ofNat j.val)), .val (.double (mnF j.val)), .second, .val (.int (Int32.ofNat (j.val / 4))), .val (.int (6 : Int32)), .unset, .unset, .unset, .unset, .unset, .unset, .unset, .unset, .unset, .unset] [(.ref ob), (.ref ob)])) _
      refine XS.dloadN X240.here hx rfl (hb hby at_30) rfl ?_
      show Steps p.tables e below (T240.setTop (mkF m 31 #[.val (.int p1), .val (.int p2), .val (.int (Int32.ofNat j.val)), .val (.double (mnF j.val)), .second, .val (.int (Int32.ofNat (j.val / 4))), .val (.int (6 : Int32)), .unset, .unset, .unset, .unset, .unset, .unset, .unset, .unset, .unset, .unset] [(.double (mnF j.val)), (.ref ob), (.ref ob)])) _
      exact k)
    obtain ⟨_, _, ⟨T249, L249, k249', n249⟩, -, X249, ⟨Lc249, hQ249, l249, y249, z249⟩, st249⟩ := X240.specialBack hx (y := (⟨"com/example/topple/topple/markov/PoissonWeights", "<init>", "(D)V"⟩ : MethodName)) rfl hown (mvT hZ (hw _ (List.mem_of_getElem? (i := 5) rfl))) (mvT hZ (hw _ (List.mem_of_getElem? (i := 6) rfl))) (mvT hZ (hw _ (List.mem_of_getElem? (i := 7) rfl))) (by decide) (backOf (W := 1) (rm_ct l Z a0 hw [] ob (mnF j.val) (j.val / 4) 0 (prF j.val) (tmF j.val) h240 n0 (Nat.le_trans Z0 E240.1) A240 F241 F242 F243 F244 F245 F246 (Nat.le_trans Z0 (Nat.le_of_eq g240.symm)) (by omega) (Nat.zero_le _) (by omega) (mn_md j) rfl (fun k hk => by
          obtain ⟨x1, x2, x3⟩ := hp_c j ⟨k, by omega⟩ hk
          exact ⟨nn_of x1, rfl, nn_of x2, x3⟩) (Or.inl rfl) rfl (fun k hk => by
          obtain ⟨x1, x2⟩ := ht_c j ⟨k, by omega⟩ hk
          exact ⟨nn_of x1, nn_of x2, rfl⟩)) hZ (hw _ (List.mem_of_getElem? (i := 7) rfl)) (hw _ (List.mem_of_getElem? (i := 4) rfl)) (by decide) (by decide)) (g := (mkF m 31 #[.val (.int p1), .val (.int p2), .val (.int (Int32.ofNat j.val)), .val (.double (mnF j.val)), .second, .val (.int (Int32.ofNat (j.val / 4))), .val (.int (6 : Int32)), .unset, .unset, .unset, .unset, .unset, .unset, .unset, .unset, .unset, .unset] [(.double (mnF j.val)), (.ref ob), (.ref ob)])) rfl (by rw [hml]; rfl) (Steps.refl _) (a := ob) (argsL := [(.double (mnF j.val))]) (rest := [(.ref ob)]) (lenOf pd__D_V rfl) rfl (by show 2 * 0 + _ ≤ _; exact Nat.le_of_eq rfl) (hb hby at_31) (fun _ _ => ⟨rfl, e240, (by decide : 1 + 1 ≤ _), (by decide : 6 + 8 ≤ _)⟩)
    dsimp only [Pt.U, Pt.locs, Pt.cells, Pt.slots] at X249 l249 y249 z249 st249 hQ249
    subst l249 y249 z249
    obtain ⟨ta, rfl, N249, K249, ne249, G249_0, G249_1, G249_2, G249_3, G249_4, G249_5, G249_6, G249_7⟩ := hQ249
    have M249 := Fr.app N0 N249
    have F250 : Exa Z T249.heap ob "com/example/topple/topple/markov/PoissonWeights" := (A240.keep K249)
    have c251 : ∀ t, Steps p.tables e below (T249.setTop (mkF m 34 #[.val (.int p1), .val (.int p2), .val (.int (Int32.ofNat j.val)), .val (.double (mnF j.val)), .second, .val (.int (Int32.ofNat (j.val / 4))), .val (.int (6 : Int32)), .unset, .unset, .unset, .unset, .unset, .unset, .unset, .unset, .unset, .unset] [(.ref ob)])) t → Steps p.tables e below (s₁.setTop (entryFrame m #[(.int p1), (.int p2)] maxLocals)) t := fun t k => c248 t (st249.trans k)
    have c252 : ∀ t, Steps p.tables e below (T249.setTop (mkF m 43 #[.val (.int p1), .val (.int p2), .val (.int (Int32.ofNat j.val)), .val (.double (mnF j.val)), .second, .val (.int (Int32.ofNat (j.val / 4))), .val (.int (6 : Int32)), .val (.ref ob), .unset, .unset, .unset, .unset, .unset, .unset, .unset, .unset, .unset] [(.ref ob)])) t → Steps p.tables e below (s₁.setTop (entryFrame m #[(.int p1), (.int p2)] maxLocals)) t := fun t k => c251 t (by
      show Steps p.tables e below (T249.setTop (mkF m 34 #[.val (.int p1), .val (.int p2), .val (.int (Int32.ofNat j.val)), .val (.double (mnF j.val)), .second, .val (.int (Int32.ofNat (j.val / 4))), .val (.int (6 : Int32)), .unset, .unset, .unset, .unset, .unset, .unset, .unset, .unset, .unset, .unset] [(.ref ob)])) _
      refine XS.astore X249.here hx rfl (hb hby at_34) rfl rfl (l' := #[.val (.int p1), .val (.int p2), .val (.int (Int32.ofNat j.val)), .val (.double (mnF j.val)), .second, .val (.int (Int32.ofNat (j.val / 4))), .val (.int (6 : Int32)), .val (.ref ob), .unset, .unset, .unset, .unset, .unset, .unset, .unset, .unset, .unset]) rfl ?_
      show Steps p.tables e below (T249.setTop (mkF m 36 #[.val (.int p1), .val (.int p2), .val (.int (Int32.ofNat j.val)), .val (.double (mnF j.val)), .second, .val (.int (Int32.ofNat (j.val / 4))), .val (.int (6 : Int32)), .val (.ref ob), .unset, .unset, .unset, .unset, .unset, .unset, .unset, .unset, .unset] [])) _
      refine XS.iload X249.here hx rfl (hb hby at_36) rfl ?_
      show Steps p.tables e below (T249.setTop (mkF m 38 #[.val (.int p1), .val (.int p2), .val (.int (Int32.ofNat j.val)), .val (.double (mnF j.val)), .second, .val (.int (Int32.ofNat (j.val / 4))), .val (.int (6 : Int32)), .val (.ref ob), .unset, .unset, .unset, .unset, .unset, .unset, .unset, .unset, .unset] [(.int (6 : Int32))])) _
      refine XS.ifNo X249.here hx rfl (hb hby at_38) rfl (XT.i0_le_f (by decide)) ?_
      show Steps p.tables e below (T249.setTop (mkF m 41 #[.val (.int p1), .val (.int p2), .val (.int (Int32.ofNat j.val)), .val (.double (mnF j.val)), .second, .val (.int (Int32.ofNat (j.val / 4))), .val (.int (6 : Int32)), .val (.ref ob), .unset, .unset, .unset, .unset, .unset, .unset, .unset, .unset, .unset] [])) _
      refine XS.aload X249.here hx rfl (hb hby at_41) rfl rfl ?_
      show Steps p.tables e below (T249.setTop (mkF m 43 #[.val (.int p1), .val (.int p2), .val (.int (Int32.ofNat j.val)), .val (.double (mnF j.val)), .second, .val (.int (Int32.ofNat (j.val / 4))), .val (.int (6 : Int32)), .val (.ref ob), .unset, .unset, .unset, .unset, .unset, .unset, .unset, .unset, .unset] [(.ref ob)])) _
      exact k)
    obtain ⟨cq253, kq253, q253a, q253b, q253c⟩ := isOf hZ rfl G249_0
    obtain ⟨_, _, ⟨T253, L253, k253', n253⟩, -, X253, ⟨Lc253, hQ253, l253, y253, z253⟩, st253⟩ := X249.virtualBack hx (y := (⟨"com/example/topple/topple/markov/PoissonWeights", "next", "()D"⟩ : MethodName)) (z := (⟨"com/example/topple/topple/markov/PoissonWeights", "next", "()D"⟩ : MethodName)) hown (mvT hZ (hw _ (List.mem_of_getElem? (i := 22) rfl))) (mvT hZ (hw _ (List.mem_of_getElem? (i := 23) rfl))) (notFace_of_selects (args := #[]) (mvT hZ (hw _ (List.mem_of_getElem? (i := 25) rfl)))) (mvT hZ (hw _ (List.mem_of_getElem? (i := 25) rfl))) (mvT hZ (hw _ (List.mem_of_getElem? (i := 24) rfl))) (by decide) (backOf (W := 0) (rm_nx l Z a0 hw [] ob ta (mnF j.val) (-1 : Int32) (0 : Int32) (Int32.ofNat (j.val / 4)) (Int32.ofNat 0) (0 : UInt64) (WF j.val 0) (j.val / 4 - 0 + 1) 0 (fun i => tmF j.val (j.val / 4 - 0 - i)) T249.heap n0 (Nat.le_trans (Nat.le_trans Z0 E240.1) K249.1) G249_0 G249_1 G249_2 G249_3 G249_4 G249_5 G249_6 (Nat.le_trans Z0 (Nat.le_of_eq g240.symm)) (by decide) ne249 G249_7 (by decide) (nlo_0 j) (fun q => by
          obtain ⟨x1, x2, x3⟩ := nhi_0 j q
          exact ⟨nn_of x1, nn_of x2, x3⟩)) hZ (hw _ (List.mem_of_getElem? (i := 26) rfl)) (hw _ (List.mem_of_getElem? (i := 4) rfl)) (by decide) (by decide)) q253a q253c (g := (mkF m 43 #[.val (.int p1), .val (.int p2), .val (.int (Int32.ofNat j.val)), .val (.double (mnF j.val)), .second, .val (.int (Int32.ofNat (j.val / 4))), .val (.int (6 : Int32)), .val (.ref ob), .unset, .unset, .unset, .unset, .unset, .unset, .unset, .unset, .unset] [(.ref ob)])) rfl (by rw [hml]; rfl) (Steps.refl _) (argsL := []) (rest := []) (lenOf pd___D rfl) rfl (by show 2 * 0 + _ ≤ _; exact Nat.le_of_eq rfl) (hb hby at_43) (fun _ _ => ⟨rfl, rfl, (by decide : 2 + 0 ≤ _), (by decide : 14 + 0 ≤ _)⟩)
    dsimp only [Pt.U, Pt.locs, Pt.cells, Pt.slots] at X253 l253 y253 z253 st253 hQ253
    subst l253 y253 z253
    obtain ⟨rfl, N253, K253, G253_0, G253_1, G253_2, G253_3, G253_4, G253_5, G253_6⟩ := hQ253
    have M253 := Fr.app M249 N253
    have F254 : Exa Z T253.heap ob "com/example/topple/topple/markov/PoissonWeights" := (G249_0.keep K253)
    have F255 : OwnArr.Ag Z T253.heap ta .double (j.val / 4 - 0 + 1) (fun i => .double (tmF j.val (j.val / 4 - 0 - i))) := (G249_7.keep K253 (ninS ne249 nin0))
    have c256 : ∀ t, Steps p.tables e below (T253.setTop (mkF m 46 #[.val (.int p1), .val (.int p2), .val (.int (Int32.ofNat j.val)), .val (.double (mnF j.val)), .second, .val (.int (Int32.ofNat (j.val / 4))), .val (.int (6 : Int32)), .val (.ref ob), .unset, .unset, .unset, .unset, .unset, .unset, .unset, .unset, .unset] [(.double (WF j.val 0))])) t → Steps p.tables e below (s₁.setTop (entryFrame m #[(.int p1), (.int p2)] maxLocals)) t := fun t k => c252 t (st253.trans k)
    have c257 : ∀ t, Steps p.tables e below (T253.setTop (mkF m 55 #[.val (.int p1), .val (.int p2), .val (.int (Int32.ofNat j.val)), .val (.double (mnF j.val)), .second, .val (.int (Int32.ofNat (j.val / 4))), .val (.int (6 : Int32)), .val (.ref ob), .unset, .unset, .unset, .unset, .unset, .unset, .unset, .unset, .unset] [(.ref ob)])) t → Steps p.tables e below (s₁.setTop (entryFrame m #[(.int p1), (.int p2)] maxLocals)) t := fun t k => c256 t (by
      show Steps p.tables e below (T253.setTop (mkF m 46 #[.val (.int p1), .val (.int p2), .val (.int (Int32.ofNat j.val)), .val (.double (mnF j.val)), .second, .val (.int (Int32.ofNat (j.val / 4))), .val (.int (6 : Int32)), .val (.ref ob), .unset, .unset, .unset, .unset, .unset, .unset, .unset, .unset, .unset] [(.double (WF j.val 0))])) _
      refine Jvm.OwnP2.pop2D X253.here hx rfl (hb hby at_46) rfl ?_
      show Steps p.tables e below (T253.setTop (mkF m 47 #[.val (.int p1), .val (.int p2), .val (.int (Int32.ofNat j.val)), .val (.double (mnF j.val)), .second, .val (.int (Int32.ofNat (j.val / 4))), .val (.int (6 : Int32)), .val (.ref ob), .unset, .unset, .unset, .unset, .unset, .unset, .unset, .unset, .unset] [])) _
      refine XS.iload X253.here hx rfl (hb hby at_47) rfl ?_
      show Steps p.tables e below (T253.setTop (mkF m 49 #[.val (.int p1), .val (.int p2), .val (.int (Int32.ofNat j.val)), .val (.double (mnF j.val)), .second, .val (.int (Int32.ofNat (j.val / 4))), .val (.int (6 : Int32)), .val (.ref ob), .unset, .unset, .unset, .unset, .unset, .unset, .unset, .unset, .unset] [(.int (6 : Int32))])) _
      refine XS.iconst X253.here hx rfl (hb hby at_49) ?_
      show Steps p.tables e below (T253.setTop (mkF m 50 #[.val (.int p1), .val (.int p2), .val (.int (Int32.ofNat j.val)), .val (.double (mnF j.val)), .second, .val (.int (Int32.ofNat (j.val / 4))), .val (.int (6 : Int32)), .val (.ref ob), .unset, .unset, .unset, .unset, .unset, .unset, .unset, .unset, .unset] [(.int (1 : Int32)), (.int (6 : Int32))])) _
      refine XS.icmpNo X253.here hx rfl (hb hby at_50) rfl (XT.ii_le_f (by decide)) ?_
      show Steps p.tables e below (T253.setTop (mkF m 53 #[.val (.int p1), .val (.int p2), .val (.int (Int32.ofNat j.val)), .val (.double (mnF j.val)), .second, .val (.int (Int32.ofNat (j.val / 4))), .val (.int (6 : Int32)), .val (.ref ob), .unset, .unset, .unset, .unset, .unset, .unset, .unset, .unset, .unset] [])) _
      refine XS.aload X253.here hx rfl (hb hby at_53) rfl rfl ?_
      show Steps p.tables e below (T253.setTop (mkF m 55 #[.val (.int p1), .val (.int p2), .val (.int (Int32.ofNat j.val)), .val (.double (mnF j.val)), .second, .val (.int (Int32.ofNat (j.val / 4))), .val (.int (6 : Int32)), .val (.ref ob), .unset, .unset, .unset, .unset, .unset, .unset, .unset, .unset, .unset] [(.ref ob)])) _
      exact k)
    obtain ⟨cq258, kq258, q258a, q258b, q258c⟩ := isOf hZ rfl G253_0
    obtain ⟨_, _, ⟨T258, L258, k258', n258⟩, -, X258, ⟨Lc258, hQ258, l258, y258, z258⟩, st258⟩ := X253.virtualBack hx (y := (⟨"com/example/topple/topple/markov/PoissonWeights", "next", "()D"⟩ : MethodName)) (z := (⟨"com/example/topple/topple/markov/PoissonWeights", "next", "()D"⟩ : MethodName)) hown (mvT hZ (hw _ (List.mem_of_getElem? (i := 22) rfl))) (mvT hZ (hw _ (List.mem_of_getElem? (i := 23) rfl))) (notFace_of_selects (args := #[]) (mvT hZ (hw _ (List.mem_of_getElem? (i := 25) rfl)))) (mvT hZ (hw _ (List.mem_of_getElem? (i := 25) rfl))) (mvT hZ (hw _ (List.mem_of_getElem? (i := 24) rfl))) (by decide) (backOf (W := 0) (rm_nx l Z a0 hw [] ob ta (mnF j.val) (0 : Int32) (1 : Int32) (Int32.ofNat (j.val / 4)) (Int32.ofNat 0) (WF j.val 0) (WF j.val 1) (j.val / 4 - 0 + 1) 1 (fun i => tmF j.val (j.val / 4 - 0 - i)) T253.heap n0 (Nat.le_trans (Nat.le_trans (Nat.le_trans Z0 E240.1) K249.1) K253.1) G253_0 G253_1 G253_2 G253_3 G253_4 G253_5 G253_6 (Nat.le_trans Z0 (Nat.le_of_eq g240.symm)) (by decide) ne249 F255 (by decide) (nlo_1 j) (fun q => by
          obtain ⟨x1, x2, x3⟩ := nhi_1 j q
          exact ⟨nn_of x1, nn_of x2, x3⟩)) hZ (hw _ (List.mem_of_getElem? (i := 26) rfl)) (hw _ (List.mem_of_getElem? (i := 4) rfl)) (by decide) (by decide)) q258a q258c (g := (mkF m 55 #[.val (.int p1), .val (.int p2), .val (.int (Int32.ofNat j.val)), .val (.double (mnF j.val)), .second, .val (.int (Int32.ofNat (j.val / 4))), .val (.int (6 : Int32)), .val (.ref ob), .unset, .unset, .unset, .unset, .unset, .unset, .unset, .unset, .unset] [(.ref ob)])) rfl (by rw [hml]; rfl) (Steps.refl _) (argsL := []) (rest := []) (lenOf pd___D rfl) rfl (by show 2 * 0 + _ ≤ _; exact Nat.le_of_eq rfl) (hb hby at_55) (fun _ _ => ⟨rfl, rfl, (by decide : 2 + 0 ≤ _), (by decide : 14 + 0 ≤ _)⟩)
    dsimp only [Pt.U, Pt.locs, Pt.cells, Pt.slots] at X258 l258 y258 z258 st258 hQ258
    subst l258 y258 z258
    obtain ⟨rfl, N258, K258, G258_0, G258_1, G258_2, G258_3, G258_4, G258_5, G258_6⟩ := hQ258
    have M258 := Fr.app M253 N258
    have F259 : Exa Z T258.heap ob "com/example/topple/topple/markov/PoissonWeights" := (G253_0.keep K258)
    have F260 : OwnArr.Ag Z T258.heap ta .double (j.val / 4 - 0 + 1) (fun i => .double (tmF j.val (j.val / 4 - 0 - i))) := (F255.keep K258 (ninS ne249 nin0))
    have c261 : ∀ t, Steps p.tables e below (T258.setTop (mkF m 58 #[.val (.int p1), .val (.int p2), .val (.int (Int32.ofNat j.val)), .val (.double (mnF j.val)), .second, .val (.int (Int32.ofNat (j.val / 4))), .val (.int (6 : Int32)), .val (.ref ob), .unset, .unset, .unset, .unset, .unset, .unset, .unset, .unset, .unset] [(.double (WF j.val 1))])) t → Steps p.tables e below (s₁.setTop (entryFrame m #[(.int p1), (.int p2)] maxLocals)) t := fun t k => c257 t (st258.trans k)
    have c262 : ∀ t, Steps p.tables e below (T258.setTop (mkF m 67 #[.val (.int p1), .val (.int p2), .val (.int (Int32.ofNat j.val)), .val (.double (mnF j.val)), .second, .val (.int (Int32.ofNat (j.val / 4))), .val (.int (6 : Int32)), .val (.ref ob), .unset, .unset, .unset, .unset, .unset, .unset, .unset, .unset, .unset] [(.ref ob)])) t → Steps p.tables e below (s₁.setTop (entryFrame m #[(.int p1), (.int p2)] maxLocals)) t := fun t k => c261 t (by
      show Steps p.tables e below (T258.setTop (mkF m 58 #[.val (.int p1), .val (.int p2), .val (.int (Int32.ofNat j.val)), .val (.double (mnF j.val)), .second, .val (.int (Int32.ofNat (j.val / 4))), .val (.int (6 : Int32)), .val (.ref ob), .unset, .unset, .unset, .unset, .unset, .unset, .unset, .unset, .unset] [(.double (WF j.val 1))])) _
      refine Jvm.OwnP2.pop2D X258.here hx rfl (hb hby at_58) rfl ?_
      show Steps p.tables e below (T258.setTop (mkF m 59 #[.val (.int p1), .val (.int p2), .val (.int (Int32.ofNat j.val)), .val (.double (mnF j.val)), .second, .val (.int (Int32.ofNat (j.val / 4))), .val (.int (6 : Int32)), .val (.ref ob), .unset, .unset, .unset, .unset, .unset, .unset, .unset, .unset, .unset] [])) _
      refine XS.iload X258.here hx rfl (hb hby at_59) rfl ?_
      show Steps p.tables e below (T258.setTop (mkF m 61 #[.val (.int p1), .val (.int p2), .val (.int (Int32.ofNat j.val)), .val (.double (mnF j.val)), .second, .val (.int (Int32.ofNat (j.val / 4))), .val (.int (6 : Int32)), .val (.ref ob), .unset, .unset, .unset, .unset, .unset, .unset, .unset, .unset, .unset] [(.int (6 : Int32))])) _
      refine XS.iconst X258.here hx rfl (hb hby at_61) ?_
      show Steps p.tables e below (T258.setTop (mkF m 62 #[.val (.int p1), .val (.int p2), .val (.int (Int32.ofNat j.val)), .val (.double (mnF j.val)), .second, .val (.int (Int32.ofNat (j.val / 4))), .val (.int (6 : Int32)), .val (.ref ob), .unset, .unset, .unset, .unset, .unset, .unset, .unset, .unset, .unset] [(.int (2 : Int32)), (.int (6 : Int32))])) _
      refine XS.icmpNo X258.here hx rfl (hb hby at_62) rfl (XT.ii_le_f (by decide)) ?_
      show Steps p.tables e below (T258.setTop (mkF m 65 #[.val (.int p1), .val (.int p2), .val (.int (Int32.ofNat j.val)), .val (.double (mnF j.val)), .second, .val (.int (Int32.ofNat (j.val / 4))), .val (.int (6 : Int32)), .val (.ref ob), .unset, .unset, .unset, .unset, .unset, .unset, .unset, .unset, .unset] [])) _
      refine XS.aload X258.here hx rfl (hb hby at_65) rfl rfl ?_
      show Steps p.tables e below (T258.setTop (mkF m 67 #[.val (.int p1), .val (.int p2), .val (.int (Int32.ofNat j.val)), .val (.double (mnF j.val)), .second, .val (.int (Int32.ofNat (j.val / 4))), .val (.int (6 : Int32)), .val (.ref ob), .unset, .unset, .unset, .unset, .unset, .unset, .unset, .unset, .unset] [(.ref ob)])) _
      exact k)
    obtain ⟨cq263, kq263, q263a, q263b, q263c⟩ := isOf hZ rfl G258_0
    obtain ⟨_, _, ⟨T263, L263, k263', n263⟩, -, X263, ⟨Lc263, hQ263, l263, y263, z263⟩, st263⟩ := X258.virtualBack hx (y := (⟨"com/example/topple/topple/markov/PoissonWeights", "next", "()D"⟩ : MethodName)) (z := (⟨"com/example/topple/topple/markov/PoissonWeights", "next", "()D"⟩ : MethodName)) hown (mvT hZ (hw _ (List.mem_of_getElem? (i := 22) rfl))) (mvT hZ (hw _ (List.mem_of_getElem? (i := 23) rfl))) (notFace_of_selects (args := #[]) (mvT hZ (hw _ (List.mem_of_getElem? (i := 25) rfl)))) (mvT hZ (hw _ (List.mem_of_getElem? (i := 25) rfl))) (mvT hZ (hw _ (List.mem_of_getElem? (i := 24) rfl))) (by decide) (backOf (W := 0) (rm_nx l Z a0 hw [] ob ta (mnF j.val) (1 : Int32) (2 : Int32) (Int32.ofNat (j.val / 4)) (Int32.ofNat 0) (WF j.val 1) (WF j.val 2) (j.val / 4 - 0 + 1) 2 (fun i => tmF j.val (j.val / 4 - 0 - i)) T258.heap n0 (Nat.le_trans (Nat.le_trans (Nat.le_trans (Nat.le_trans Z0 E240.1) K249.1) K253.1) K258.1) G258_0 G258_1 G258_2 G258_3 G258_4 G258_5 G258_6 (Nat.le_trans Z0 (Nat.le_of_eq g240.symm)) (by decide) ne249 F260 (by decide) (nlo_2 j) (fun q => by
          obtain ⟨x1, x2, x3⟩ := nhi_2 j q
          exact ⟨nn_of x1, nn_of x2, x3⟩)) hZ (hw _ (List.mem_of_getElem? (i := 26) rfl)) (hw _ (List.mem_of_getElem? (i := 4) rfl)) (by decide) (by decide)) q263a q263c (g := (mkF m 67 #[.val (.int p1), .val (.int p2), .val (.int (Int32.ofNat j.val)), .val (.double (mnF j.val)), .second, .val (.int (Int32.ofNat (j.val / 4))), .val (.int (6 : Int32)), .val (.ref ob), .unset, .unset, .unset, .unset, .unset, .unset, .unset, .unset, .unset] [(.ref ob)])) rfl (by rw [hml]; rfl) (Steps.refl _) (argsL := []) (rest := []) (lenOf pd___D rfl) rfl (by show 2 * 0 + _ ≤ _; exact Nat.le_of_eq rfl) (hb hby at_67) (fun _ _ => ⟨rfl, rfl, (by decide : 2 + 0 ≤ _), (by decide : 14 + 0 ≤ _)⟩)
    dsimp only [Pt.U, Pt.locs, Pt.cells, Pt.slots] at X263 l263 y263 z263 st263 hQ263
    subst l263 y263 z263
    obtain ⟨rfl, N263, K263, G263_0, G263_1, G263_2, G263_3, G263_4, G263_5, G263_6⟩ := hQ263
    have M263 := Fr.app M258 N263
    have F264 : Exa Z T263.heap ob "com/example/topple/topple/markov/PoissonWeights" := (G258_0.keep K263)
    have F265 : OwnArr.Ag Z T263.heap ta .double (j.val / 4 - 0 + 1) (fun i => .double (tmF j.val (j.val / 4 - 0 - i))) := (F260.keep K263 (ninS ne249 nin0))
    have c266 : ∀ t, Steps p.tables e below (T263.setTop (mkF m 70 #[.val (.int p1), .val (.int p2), .val (.int (Int32.ofNat j.val)), .val (.double (mnF j.val)), .second, .val (.int (Int32.ofNat (j.val / 4))), .val (.int (6 : Int32)), .val (.ref ob), .unset, .unset, .unset, .unset, .unset, .unset, .unset, .unset, .unset] [(.double (WF j.val 2))])) t → Steps p.tables e below (s₁.setTop (entryFrame m #[(.int p1), (.int p2)] maxLocals)) t := fun t k => c262 t (st263.trans k)
    have c267 : ∀ t, Steps p.tables e below (T263.setTop (mkF m 79 #[.val (.int p1), .val (.int p2), .val (.int (Int32.ofNat j.val)), .val (.double (mnF j.val)), .second, .val (.int (Int32.ofNat (j.val / 4))), .val (.int (6 : Int32)), .val (.ref ob), .unset, .unset, .unset, .unset, .unset, .unset, .unset, .unset, .unset] [(.ref ob)])) t → Steps p.tables e below (s₁.setTop (entryFrame m #[(.int p1), (.int p2)] maxLocals)) t := fun t k => c266 t (by
      show Steps p.tables e below (T263.setTop (mkF m 70 #[.val (.int p1), .val (.int p2), .val (.int (Int32.ofNat j.val)), .val (.double (mnF j.val)), .second, .val (.int (Int32.ofNat (j.val / 4))), .val (.int (6 : Int32)), .val (.ref ob), .unset, .unset, .unset, .unset, .unset, .unset, .unset, .unset, .unset] [(.double (WF j.val 2))])) _
      refine Jvm.OwnP2.pop2D X263.here hx rfl (hb hby at_70) rfl ?_
      show Steps p.tables e below (T263.setTop (mkF m 71 #[.val (.int p1), .val (.int p2), .val (.int (Int32.ofNat j.val)), .val (.double (mnF j.val)), .second, .val (.int (Int32.ofNat (j.val / 4))), .val (.int (6 : Int32)), .val (.ref ob), .unset, .unset, .unset, .unset, .unset, .unset, .unset, .unset, .unset] [])) _
      refine XS.iload X263.here hx rfl (hb hby at_71) rfl ?_
      show Steps p.tables e below (T263.setTop (mkF m 73 #[.val (.int p1), .val (.int p2), .val (.int (Int32.ofNat j.val)), .val (.double (mnF j.val)), .second, .val (.int (Int32.ofNat (j.val / 4))), .val (.int (6 : Int32)), .val (.ref ob), .unset, .unset, .unset, .unset, .unset, .unset, .unset, .unset, .unset] [(.int (6 : Int32))])) _
      refine XS.iconst X263.here hx rfl (hb hby at_73) ?_
      show Steps p.tables e below (T263.setTop (mkF m 74 #[.val (.int p1), .val (.int p2), .val (.int (Int32.ofNat j.val)), .val (.double (mnF j.val)), .second, .val (.int (Int32.ofNat (j.val / 4))), .val (.int (6 : Int32)), .val (.ref ob), .unset, .unset, .unset, .unset, .unset, .unset, .unset, .unset, .unset] [(.int (3 : Int32)), (.int (6 : Int32))])) _
      refine XS.icmpNo X263.here hx rfl (hb hby at_74) rfl (XT.ii_le_f (by decide)) ?_
      show Steps p.tables e below (T263.setTop (mkF m 77 #[.val (.int p1), .val (.int p2), .val (.int (Int32.ofNat j.val)), .val (.double (mnF j.val)), .second, .val (.int (Int32.ofNat (j.val / 4))), .val (.int (6 : Int32)), .val (.ref ob), .unset, .unset, .unset, .unset, .unset, .unset, .unset, .unset, .unset] [])) _
      refine XS.aload X263.here hx rfl (hb hby at_77) rfl rfl ?_
      show Steps p.tables e below (T263.setTop (mkF m 79 #[.val (.int p1), .val (.int p2), .val (.int (Int32.ofNat j.val)), .val (.double (mnF j.val)), .second, .val (.int (Int32.ofNat (j.val / 4))), .val (.int (6 : Int32)), .val (.ref ob), .unset, .unset, .unset, .unset, .unset, .unset, .unset, .unset, .unset] [(.ref ob)])) _
      exact k)
    obtain ⟨cq268, kq268, q268a, q268b, q268c⟩ := isOf hZ rfl G263_0
    obtain ⟨_, _, ⟨T268, L268, k268', n268⟩, -, X268, ⟨Lc268, hQ268, l268, y268, z268⟩, st268⟩ := X263.virtualBack hx (y := (⟨"com/example/topple/topple/markov/PoissonWeights", "next", "()D"⟩ : MethodName)) (z := (⟨"com/example/topple/topple/markov/PoissonWeights", "next", "()D"⟩ : MethodName)) hown (mvT hZ (hw _ (List.mem_of_getElem? (i := 22) rfl))) (mvT hZ (hw _ (List.mem_of_getElem? (i := 23) rfl))) (notFace_of_selects (args := #[]) (mvT hZ (hw _ (List.mem_of_getElem? (i := 25) rfl)))) (mvT hZ (hw _ (List.mem_of_getElem? (i := 25) rfl))) (mvT hZ (hw _ (List.mem_of_getElem? (i := 24) rfl))) (by decide) (backOf (W := 0) (rm_nx l Z a0 hw [] ob ta (mnF j.val) (2 : Int32) (3 : Int32) (Int32.ofNat (j.val / 4)) (Int32.ofNat 0) (WF j.val 2) (WF j.val 3) (j.val / 4 - 0 + 1) 3 (fun i => tmF j.val (j.val / 4 - 0 - i)) T263.heap n0 (Nat.le_trans (Nat.le_trans (Nat.le_trans (Nat.le_trans (Nat.le_trans Z0 E240.1) K249.1) K253.1) K258.1) K263.1) G263_0 G263_1 G263_2 G263_3 G263_4 G263_5 G263_6 (Nat.le_trans Z0 (Nat.le_of_eq g240.symm)) (by decide) ne249 F265 (by decide) (nlo_3 j) (fun q => by
          obtain ⟨x1, x2, x3⟩ := nhi_3 j q
          exact ⟨nn_of x1, nn_of x2, x3⟩)) hZ (hw _ (List.mem_of_getElem? (i := 26) rfl)) (hw _ (List.mem_of_getElem? (i := 4) rfl)) (by decide) (by decide)) q268a q268c (g := (mkF m 79 #[.val (.int p1), .val (.int p2), .val (.int (Int32.ofNat j.val)), .val (.double (mnF j.val)), .second, .val (.int (Int32.ofNat (j.val / 4))), .val (.int (6 : Int32)), .val (.ref ob), .unset, .unset, .unset, .unset, .unset, .unset, .unset, .unset, .unset] [(.ref ob)])) rfl (by rw [hml]; rfl) (Steps.refl _) (argsL := []) (rest := []) (lenOf pd___D rfl) rfl (by show 2 * 0 + _ ≤ _; exact Nat.le_of_eq rfl) (hb hby at_79) (fun _ _ => ⟨rfl, rfl, (by decide : 2 + 0 ≤ _), (by decide : 14 + 0 ≤ _)⟩)
    dsimp only [Pt.U, Pt.locs, Pt.cells, Pt.slots] at X268 l268 y268 z268 st268 hQ268
    subst l268 y268 z268
    obtain ⟨rfl, N268, K268, G268_0, G268_1, G268_2, G268_3, G268_4, G268_5, G268_6⟩ := hQ268
    have M268 := Fr.app M263 N268
    have F269 : Exa Z T268.heap ob "com/example/topple/topple/markov/PoissonWeights" := (G263_0.keep K268)
    have F270 : OwnArr.Ag Z T268.heap ta .double (j.val / 4 - 0 + 1) (fun i => .double (tmF j.val (j.val / 4 - 0 - i))) := (F265.keep K268 (ninS ne249 nin0))
    have c271 : ∀ t, Steps p.tables e below (T268.setTop (mkF m 82 #[.val (.int p1), .val (.int p2), .val (.int (Int32.ofNat j.val)), .val (.double (mnF j.val)), .second, .val (.int (Int32.ofNat (j.val / 4))), .val (.int (6 : Int32)), .val (.ref ob), .unset, .unset, .unset, .unset, .unset, .unset, .unset, .unset, .unset] [(.double (WF j.val 3))])) t → Steps p.tables e below (s₁.setTop (entryFrame m #[(.int p1), (.int p2)] maxLocals)) t := fun t k => c267 t (st268.trans k)
    have c272 : ∀ t, Steps p.tables e below (T268.setTop (mkF m 91 #[.val (.int p1), .val (.int p2), .val (.int (Int32.ofNat j.val)), .val (.double (mnF j.val)), .second, .val (.int (Int32.ofNat (j.val / 4))), .val (.int (6 : Int32)), .val (.ref ob), .unset, .unset, .unset, .unset, .unset, .unset, .unset, .unset, .unset] [(.ref ob)])) t → Steps p.tables e below (s₁.setTop (entryFrame m #[(.int p1), (.int p2)] maxLocals)) t := fun t k => c271 t (by
      show Steps p.tables e below (T268.setTop (mkF m 82 #[.val (.int p1), .val (.int p2), .val (.int (Int32.ofNat j.val)), .val (.double (mnF j.val)), .second, .val (.int (Int32.ofNat (j.val / 4))), .val (.int (6 : Int32)), .val (.ref ob), .unset, .unset, .unset, .unset, .unset, .unset, .unset, .unset, .unset] [(.double (WF j.val 3))])) _
      refine Jvm.OwnP2.pop2D X268.here hx rfl (hb hby at_82) rfl ?_
      show Steps p.tables e below (T268.setTop (mkF m 83 #[.val (.int p1), .val (.int p2), .val (.int (Int32.ofNat j.val)), .val (.double (mnF j.val)), .second, .val (.int (Int32.ofNat (j.val / 4))), .val (.int (6 : Int32)), .val (.ref ob), .unset, .unset, .unset, .unset, .unset, .unset, .unset, .unset, .unset] [])) _
      refine XS.iload X268.here hx rfl (hb hby at_83) rfl ?_
      show Steps p.tables e below (T268.setTop (mkF m 85 #[.val (.int p1), .val (.int p2), .val (.int (Int32.ofNat j.val)), .val (.double (mnF j.val)), .second, .val (.int (Int32.ofNat (j.val / 4))), .val (.int (6 : Int32)), .val (.ref ob), .unset, .unset, .unset, .unset, .unset, .unset, .unset, .unset, .unset] [(.int (6 : Int32))])) _
      refine XS.iconst X268.here hx rfl (hb hby at_85) ?_
      show Steps p.tables e below (T268.setTop (mkF m 86 #[.val (.int p1), .val (.int p2), .val (.int (Int32.ofNat j.val)), .val (.double (mnF j.val)), .second, .val (.int (Int32.ofNat (j.val / 4))), .val (.int (6 : Int32)), .val (.ref ob), .unset, .unset, .unset, .unset, .unset, .unset, .unset, .unset, .unset] [(.int (4 : Int32)), (.int (6 : Int32))])) _
      refine XS.icmpNo X268.here hx rfl (hb hby at_86) rfl (XT.ii_le_f (by decide)) ?_
      show Steps p.tables e below (T268.setTop (mkF m 89 #[.val (.int p1), .val (.int p2), .val (.int (Int32.ofNat j.val)), .val (.double (mnF j.val)), .second, .val (.int (Int32.ofNat (j.val / 4))), .val (.int (6 : Int32)), .val (.ref ob), .unset, .unset, .unset, .unset, .unset, .unset, .unset, .unset, .unset] [])) _
      refine XS.aload X268.here hx rfl (hb hby at_89) rfl rfl ?_
      show Steps p.tables e below (T268.setTop (mkF m 91 #[.val (.int p1), .val (.int p2), .val (.int (Int32.ofNat j.val)), .val (.double (mnF j.val)), .second, .val (.int (Int32.ofNat (j.val / 4))), .val (.int (6 : Int32)), .val (.ref ob), .unset, .unset, .unset, .unset, .unset, .unset, .unset, .unset, .unset] [(.ref ob)])) _
      exact k)
    obtain ⟨cq273, kq273, q273a, q273b, q273c⟩ := isOf hZ rfl G268_0
    obtain ⟨_, _, ⟨T273, L273, k273', n273⟩, -, X273, ⟨Lc273, hQ273, l273, y273, z273⟩, st273⟩ := X268.virtualBack hx (y := (⟨"com/example/topple/topple/markov/PoissonWeights", "next", "()D"⟩ : MethodName)) (z := (⟨"com/example/topple/topple/markov/PoissonWeights", "next", "()D"⟩ : MethodName)) hown (mvT hZ (hw _ (List.mem_of_getElem? (i := 22) rfl))) (mvT hZ (hw _ (List.mem_of_getElem? (i := 23) rfl))) (notFace_of_selects (args := #[]) (mvT hZ (hw _ (List.mem_of_getElem? (i := 25) rfl)))) (mvT hZ (hw _ (List.mem_of_getElem? (i := 25) rfl))) (mvT hZ (hw _ (List.mem_of_getElem? (i := 24) rfl))) (by decide) (backOf (W := 0) (rm_nx l Z a0 hw [] ob ta (mnF j.val) (3 : Int32) (4 : Int32) (Int32.ofNat (j.val / 4)) (Int32.ofNat 0) (WF j.val 3) (WF j.val 4) (j.val / 4 - 0 + 1) 4 (fun i => tmF j.val (j.val / 4 - 0 - i)) T268.heap n0 (Nat.le_trans (Nat.le_trans (Nat.le_trans (Nat.le_trans (Nat.le_trans (Nat.le_trans Z0 E240.1) K249.1) K253.1) K258.1) K263.1) K268.1) G268_0 G268_1 G268_2 G268_3 G268_4 G268_5 G268_6 (Nat.le_trans Z0 (Nat.le_of_eq g240.symm)) (by decide) ne249 F270 (by decide) (nlo_4 j) (fun q => by
          obtain ⟨x1, x2, x3⟩ := nhi_4 j q
          exact ⟨nn_of x1, nn_of x2, x3⟩)) hZ (hw _ (List.mem_of_getElem? (i := 26) rfl)) (hw _ (List.mem_of_getElem? (i := 4) rfl)) (by decide) (by decide)) q273a q273c (g := (mkF m 91 #[.val (.int p1), .val (.int p2), .val (.int (Int32.ofNat j.val)), .val (.double (mnF j.val)), .second, .val (.int (Int32.ofNat (j.val / 4))), .val (.int (6 : Int32)), .val (.ref ob), .unset, .unset, .unset, .unset, .unset, .unset, .unset, .unset, .unset] [(.ref ob)])) rfl (by rw [hml]; rfl) (Steps.refl _) (argsL := []) (rest := []) (lenOf pd___D rfl) rfl (by show 2 * 0 + _ ≤ _; exact Nat.le_of_eq rfl) (hb hby at_91) (fun _ _ => ⟨rfl, rfl, (by decide : 2 + 0 ≤ _), (by decide : 14 + 0 ≤ _)⟩)
    dsimp only [Pt.U, Pt.locs, Pt.cells, Pt.slots] at X273 l273 y273 z273 st273 hQ273
    subst l273 y273 z273
    obtain ⟨rfl, N273, K273, G273_0, G273_1, G273_2, G273_3, G273_4, G273_5, G273_6⟩ := hQ273
    have M273 := Fr.app M268 N273
    have F274 : Exa Z T273.heap ob "com/example/topple/topple/markov/PoissonWeights" := (G268_0.keep K273)
    have F275 : OwnArr.Ag Z T273.heap ta .double (j.val / 4 - 0 + 1) (fun i => .double (tmF j.val (j.val / 4 - 0 - i))) := (F270.keep K273 (ninS ne249 nin0))
    have c276 : ∀ t, Steps p.tables e below (T273.setTop (mkF m 94 #[.val (.int p1), .val (.int p2), .val (.int (Int32.ofNat j.val)), .val (.double (mnF j.val)), .second, .val (.int (Int32.ofNat (j.val / 4))), .val (.int (6 : Int32)), .val (.ref ob), .unset, .unset, .unset, .unset, .unset, .unset, .unset, .unset, .unset] [(.double (WF j.val 4))])) t → Steps p.tables e below (s₁.setTop (entryFrame m #[(.int p1), (.int p2)] maxLocals)) t := fun t k => c272 t (st273.trans k)
    have c277 : ∀ t, Steps p.tables e below (T273.setTop (mkF m 103 #[.val (.int p1), .val (.int p2), .val (.int (Int32.ofNat j.val)), .val (.double (mnF j.val)), .second, .val (.int (Int32.ofNat (j.val / 4))), .val (.int (6 : Int32)), .val (.ref ob), .unset, .unset, .unset, .unset, .unset, .unset, .unset, .unset, .unset] [(.ref ob)])) t → Steps p.tables e below (s₁.setTop (entryFrame m #[(.int p1), (.int p2)] maxLocals)) t := fun t k => c276 t (by
      show Steps p.tables e below (T273.setTop (mkF m 94 #[.val (.int p1), .val (.int p2), .val (.int (Int32.ofNat j.val)), .val (.double (mnF j.val)), .second, .val (.int (Int32.ofNat (j.val / 4))), .val (.int (6 : Int32)), .val (.ref ob), .unset, .unset, .unset, .unset, .unset, .unset, .unset, .unset, .unset] [(.double (WF j.val 4))])) _
      refine Jvm.OwnP2.pop2D X273.here hx rfl (hb hby at_94) rfl ?_
      show Steps p.tables e below (T273.setTop (mkF m 95 #[.val (.int p1), .val (.int p2), .val (.int (Int32.ofNat j.val)), .val (.double (mnF j.val)), .second, .val (.int (Int32.ofNat (j.val / 4))), .val (.int (6 : Int32)), .val (.ref ob), .unset, .unset, .unset, .unset, .unset, .unset, .unset, .unset, .unset] [])) _
      refine XS.iload X273.here hx rfl (hb hby at_95) rfl ?_
      show Steps p.tables e below (T273.setTop (mkF m 97 #[.val (.int p1), .val (.int p2), .val (.int (Int32.ofNat j.val)), .val (.double (mnF j.val)), .second, .val (.int (Int32.ofNat (j.val / 4))), .val (.int (6 : Int32)), .val (.ref ob), .unset, .unset, .unset, .unset, .unset, .unset, .unset, .unset, .unset] [(.int (6 : Int32))])) _
      refine XS.iconst X273.here hx rfl (hb hby at_97) ?_
      show Steps p.tables e below (T273.setTop (mkF m 98 #[.val (.int p1), .val (.int p2), .val (.int (Int32.ofNat j.val)), .val (.double (mnF j.val)), .second, .val (.int (Int32.ofNat (j.val / 4))), .val (.int (6 : Int32)), .val (.ref ob), .unset, .unset, .unset, .unset, .unset, .unset, .unset, .unset, .unset] [(.int (5 : Int32)), (.int (6 : Int32))])) _
      refine XS.icmpNo X273.here hx rfl (hb hby at_98) rfl (XT.ii_le_f (by decide)) ?_
      show Steps p.tables e below (T273.setTop (mkF m 101 #[.val (.int p1), .val (.int p2), .val (.int (Int32.ofNat j.val)), .val (.double (mnF j.val)), .second, .val (.int (Int32.ofNat (j.val / 4))), .val (.int (6 : Int32)), .val (.ref ob), .unset, .unset, .unset, .unset, .unset, .unset, .unset, .unset, .unset] [])) _
      refine XS.aload X273.here hx rfl (hb hby at_101) rfl rfl ?_
      show Steps p.tables e below (T273.setTop (mkF m 103 #[.val (.int p1), .val (.int p2), .val (.int (Int32.ofNat j.val)), .val (.double (mnF j.val)), .second, .val (.int (Int32.ofNat (j.val / 4))), .val (.int (6 : Int32)), .val (.ref ob), .unset, .unset, .unset, .unset, .unset, .unset, .unset, .unset, .unset] [(.ref ob)])) _
      exact k)
    obtain ⟨cq278, kq278, q278a, q278b, q278c⟩ := isOf hZ rfl G273_0
    obtain ⟨_, _, ⟨T278, L278, k278', n278⟩, -, X278, ⟨Lc278, hQ278, l278, y278, z278⟩, st278⟩ := X273.virtualBack hx (y := (⟨"com/example/topple/topple/markov/PoissonWeights", "next", "()D"⟩ : MethodName)) (z := (⟨"com/example/topple/topple/markov/PoissonWeights", "next", "()D"⟩ : MethodName)) hown (mvT hZ (hw _ (List.mem_of_getElem? (i := 22) rfl))) (mvT hZ (hw _ (List.mem_of_getElem? (i := 23) rfl))) (notFace_of_selects (args := #[]) (mvT hZ (hw _ (List.mem_of_getElem? (i := 25) rfl)))) (mvT hZ (hw _ (List.mem_of_getElem? (i := 25) rfl))) (mvT hZ (hw _ (List.mem_of_getElem? (i := 24) rfl))) (by decide) (backOf (W := 0) (rm_nx l Z a0 hw [] ob ta (mnF j.val) (4 : Int32) (5 : Int32) (Int32.ofNat (j.val / 4)) (Int32.ofNat 0) (WF j.val 4) (WF j.val 5) (j.val / 4 - 0 + 1) 5 (fun i => tmF j.val (j.val / 4 - 0 - i)) T273.heap n0 (Nat.le_trans (Nat.le_trans (Nat.le_trans (Nat.le_trans (Nat.le_trans (Nat.le_trans (Nat.le_trans Z0 E240.1) K249.1) K253.1) K258.1) K263.1) K268.1) K273.1) G273_0 G273_1 G273_2 G273_3 G273_4 G273_5 G273_6 (Nat.le_trans Z0 (Nat.le_of_eq g240.symm)) (by decide) ne249 F275 (by decide) (nlo_5 j) (fun q => by
          obtain ⟨x1, x2, x3⟩ := nhi_5 j q
          exact ⟨nn_of x1, nn_of x2, x3⟩)) hZ (hw _ (List.mem_of_getElem? (i := 26) rfl)) (hw _ (List.mem_of_getElem? (i := 4) rfl)) (by decide) (by decide)) q278a q278c (g := (mkF m 103 #[.val (.int p1), .val (.int p2), .val (.int (Int32.ofNat j.val)), .val (.double (mnF j.val)), .second, .val (.int (Int32.ofNat (j.val / 4))), .val (.int (6 : Int32)), .val (.ref ob), .unset, .unset, .unset, .unset, .unset, .unset, .unset, .unset, .unset] [(.ref ob)])) rfl (by rw [hml]; rfl) (Steps.refl _) (argsL := []) (rest := []) (lenOf pd___D rfl) rfl (by show 2 * 0 + _ ≤ _; exact Nat.le_of_eq rfl) (hb hby at_103) (fun _ _ => ⟨rfl, rfl, (by decide : 2 + 0 ≤ _), (by decide : 14 + 0 ≤ _)⟩)
    dsimp only [Pt.U, Pt.locs, Pt.cells, Pt.slots] at X278 l278 y278 z278 st278 hQ278
    subst l278 y278 z278
    obtain ⟨rfl, N278, K278, G278_0, G278_1, G278_2, G278_3, G278_4, G278_5, G278_6⟩ := hQ278
    have M278 := Fr.app M273 N278
    have F279 : Exa Z T278.heap ob "com/example/topple/topple/markov/PoissonWeights" := (G273_0.keep K278)
    have F280 : OwnArr.Ag Z T278.heap ta .double (j.val / 4 - 0 + 1) (fun i => .double (tmF j.val (j.val / 4 - 0 - i))) := (F275.keep K278 (ninS ne249 nin0))
    have c281 : ∀ t, Steps p.tables e below (T278.setTop (mkF m 106 #[.val (.int p1), .val (.int p2), .val (.int (Int32.ofNat j.val)), .val (.double (mnF j.val)), .second, .val (.int (Int32.ofNat (j.val / 4))), .val (.int (6 : Int32)), .val (.ref ob), .unset, .unset, .unset, .unset, .unset, .unset, .unset, .unset, .unset] [(.double (WF j.val 5))])) t → Steps p.tables e below (s₁.setTop (entryFrame m #[(.int p1), (.int p2)] maxLocals)) t := fun t k => c277 t (st278.trans k)
    have c282 : ∀ t, Steps p.tables e below (T278.setTop (mkF m 115 #[.val (.int p1), .val (.int p2), .val (.int (Int32.ofNat j.val)), .val (.double (mnF j.val)), .second, .val (.int (Int32.ofNat (j.val / 4))), .val (.int (6 : Int32)), .val (.ref ob), .val (.int (5 : Int32)), .unset, .unset, .unset, .unset, .unset, .unset, .unset, .unset] [(.ref ob)])) t → Steps p.tables e below (s₁.setTop (entryFrame m #[(.int p1), (.int p2)] maxLocals)) t := fun t k => c281 t (by
      show Steps p.tables e below (T278.setTop (mkF m 106 #[.val (.int p1), .val (.int p2), .val (.int (Int32.ofNat j.val)), .val (.double (mnF j.val)), .second, .val (.int (Int32.ofNat (j.val / 4))), .val (.int (6 : Int32)), .val (.ref ob), .unset, .unset, .unset, .unset, .unset, .unset, .unset, .unset, .unset] [(.double (WF j.val 5))])) _
      refine Jvm.OwnP2.pop2D X278.here hx rfl (hb hby at_106) rfl ?_
      show Steps p.tables e below (T278.setTop (mkF m 107 #[.val (.int p1), .val (.int p2), .val (.int (Int32.ofNat j.val)), .val (.double (mnF j.val)), .second, .val (.int (Int32.ofNat (j.val / 4))), .val (.int (6 : Int32)), .val (.ref ob), .unset, .unset, .unset, .unset, .unset, .unset, .unset, .unset, .unset] [])) _
      refine XS.iload X278.here hx rfl (hb hby at_107) rfl ?_
      show Steps p.tables e below (T278.setTop (mkF m 109 #[.val (.int p1), .val (.int p2), .val (.int (Int32.ofNat j.val)), .val (.double (mnF j.val)), .second, .val (.int (Int32.ofNat (j.val / 4))), .val (.int (6 : Int32)), .val (.ref ob), .unset, .unset, .unset, .unset, .unset, .unset, .unset, .unset, .unset] [(.int (6 : Int32))])) _
      refine XS.iconst X278.here hx rfl (hb hby at_109) ?_
      show Steps p.tables e below (T278.setTop (mkF m 110 #[.val (.int p1), .val (.int p2), .val (.int (Int32.ofNat j.val)), .val (.double (mnF j.val)), .second, .val (.int (Int32.ofNat (j.val / 4))), .val (.int (6 : Int32)), .val (.ref ob), .unset, .unset, .unset, .unset, .unset, .unset, .unset, .unset, .unset] [(.int (1 : Int32)), (.int (6 : Int32))])) _
      refine XS.isub X278.here hx rfl (hb hby at_110) rfl ?_
      show Steps p.tables e below (T278.setTop (mkF m 111 #[.val (.int p1), .val (.int p2), .val (.int (Int32.ofNat j.val)), .val (.double (mnF j.val)), .second, .val (.int (Int32.ofNat (j.val / 4))), .val (.int (6 : Int32)), .val (.ref ob), .unset, .unset, .unset, .unset, .unset, .unset, .unset, .unset, .unset] [(.int (5 : Int32))])) _
      refine XS.istore X278.here hx rfl (hb hby at_111) rfl (l' := #[.val (.int p1), .val (.int p2), .val (.int (Int32.ofNat j.val)), .val (.double (mnF j.val)), .second, .val (.int (Int32.ofNat (j.val / 4))), .val (.int (6 : Int32)), .val (.ref ob), .val (.int (5 : Int32)), .unset, .unset, .unset, .unset, .unset, .unset, .unset, .unset]) rfl ?_
      show Steps p.tables e below (T278.setTop (mkF m 113 #[.val (.int p1), .val (.int p2), .val (.int (Int32.ofNat j.val)), .val (.double (mnF j.val)), .second, .val (.int (Int32.ofNat (j.val / 4))), .val (.int (6 : Int32)), .val (.ref ob), .val (.int (5 : Int32)), .unset, .unset, .unset, .unset, .unset, .unset, .unset, .unset] [])) _
      refine XS.aload X278.here hx rfl (hb hby at_113) rfl rfl ?_
      show Steps p.tables e below (T278.setTop (mkF m 115 #[.val (.int p1), .val (.int p2), .val (.int (Int32.ofNat j.val)), .val (.double (mnF j.val)), .second, .val (.int (Int32.ofNat (j.val / 4))), .val (.int (6 : Int32)), .val (.ref ob), .val (.int (5 : Int32)), .unset, .unset, .unset, .unset, .unset, .unset, .unset, .unset] [(.ref ob)])) _
      exact k)
    by_cases qt : (5 : Int32) < (Int32.ofNat (j.val / 4))
    · skip
      obtain ⟨cq283, kq283, q283a, q283b, q283c⟩ := isOf hZ rfl G278_0
      obtain ⟨_, _, ⟨T283, L283, k283', n283⟩, -, X283, ⟨Lc283, hQ283, l283, y283, z283⟩, st283⟩ := X278.virtualBack hx (y := (⟨"com/example/topple/topple/markov/PoissonWeights", "tail", "()D"⟩ : MethodName)) (z := (⟨"com/example/topple/topple/markov/PoissonWeights", "tail", "()D"⟩ : MethodName)) hown (mvT hZ (hw _ (List.mem_of_getElem? (i := 29) rfl))) (mvT hZ (hw _ (List.mem_of_getElem? (i := 30) rfl))) (notFace_of_selects (args := #[]) (mvT hZ (hw _ (List.mem_of_getElem? (i := 32) rfl)))) (mvT hZ (hw _ (List.mem_of_getElem? (i := 32) rfl))) (mvT hZ (hw _ (List.mem_of_getElem? (i := 31) rfl))) (by decide) (backOf (W := 0) (rm_t0 l Z a0 hw [] ob (5 : Int32) (Int32.ofNat (j.val / 4)) T278.heap n0 (Nat.le_trans (Nat.le_trans (Nat.le_trans (Nat.le_trans (Nat.le_trans (Nat.le_trans (Nat.le_trans (Nat.le_trans Z0 E240.1) K249.1) K253.1) K258.1) K263.1) K268.1) K273.1) K278.1) G278_1 G278_3 qt) hZ (hw _ (List.mem_of_getElem? (i := 33) rfl)) (hw _ (List.mem_of_getElem? (i := 4) rfl)) (by decide) (by decide)) q283a q283c (g := (mkF m 115 #[.val (.int p1), .val (.int p2), .val (.int (Int32.ofNat j.val)), .val (.double (mnF j.val)), .second, .val (.int (Int32.ofNat (j.val / 4))), .val (.int (6 : Int32)), .val (.ref ob), .val (.int (5 : Int32)), .unset, .unset, .unset, .unset, .unset, .unset, .unset, .unset] [(.ref ob)])) rfl (by rw [hml]; rfl) (Steps.refl _) (argsL := []) (rest := []) (lenOf pd___D rfl) rfl (by show 2 * 0 + _ ≤ _; exact Nat.le_of_eq rfl) (hb hby at_115) (fun _ _ => ⟨rfl, rfl, (by decide : 2 + 0 ≤ _), (by decide : 14 + 0 ≤ _)⟩)
      dsimp only [Pt.U, Pt.locs, Pt.cells, Pt.slots] at X283 l283 y283 z283 st283 hQ283
      subst l283 y283 z283
      obtain ⟨rfl, N283, e283⟩ := hQ283
      have M283 := Fr.app M278 N283
      have c284 : ∀ t, Steps p.tables e below (T283.setTop (mkF m 118 #[.val (.int p1), .val (.int p2), .val (.int (Int32.ofNat j.val)), .val (.double (mnF j.val)), .second, .val (.int (Int32.ofNat (j.val / 4))), .val (.int (6 : Int32)), .val (.ref ob), .val (.int (5 : Int32)), .unset, .unset, .unset, .unset, .unset, .unset, .unset, .unset] [(.double (9218868437227405312 : UInt64))])) t → Steps p.tables e below (s₁.setTop (entryFrame m #[(.int p1), (.int p2)] maxLocals)) t := fun t k => c282 t (st283.trans k)
      obtain ⟨k132, hk132⟩ : ∃ v : Int32, cmpValue (FP.dcmp (9218868437227405312 : UInt64) (9218868437227405312 : UInt64)) .l = v := ⟨_, rfl⟩
      have e132 : k132 = 0 := hk132.symm.trans inf_c
      have c285 : ∀ t, Steps p.tables e below (T283.setTop (mkF m 141 #[.val (.int p1), .val (.int p2), .val (.int (Int32.ofNat j.val)), .val (.double (mnF j.val)), .second, .val (.int (Int32.ofNat (j.val / 4))), .val (.int (6 : Int32)), .val (.ref ob), .val (.int (5 : Int32)), .val (.double (9218868437227405312 : UInt64)), .second, .unset, .unset, .unset, .unset, .unset, .unset] [(.int (1 : Int32))])) t → Steps p.tables e below (s₁.setTop (entryFrame m #[(.int p1), (.int p2)] maxLocals)) t := fun t k => c284 t (by
        show Steps p.tables e below (T283.setTop (mkF m 118 #[.val (.int p1), .val (.int p2), .val (.int (Int32.ofNat j.val)), .val (.double (mnF j.val)), .second, .val (.int (Int32.ofNat (j.val / 4))), .val (.int (6 : Int32)), .val (.ref ob), .val (.int (5 : Int32)), .unset, .unset, .unset, .unset, .unset, .unset, .unset, .unset] [(.double (9218868437227405312 : UInt64))])) _
        refine XS.dstore X283.here hx rfl (hb hby at_118) rfl (l' := #[.val (.int p1), .val (.int p2), .val (.int (Int32.ofNat j.val)), .val (.double (mnF j.val)), .second, .val (.int (Int32.ofNat (j.val / 4))), .val (.int (6 : Int32)), .val (.ref ob), .val (.int (5 : Int32)), .val (.double (9218868437227405312 : UInt64)), .second, .unset, .unset, .unset, .unset, .unset, .unset]) rfl ?_
        show Steps p.tables e below (T283.setTop (mkF m 120 #[.val (.int p1), .val (.int p2), .val (.int (Int32.ofNat j.val)), .val (.double (mnF j.val)), .second, .val (.int (Int32.ofNat (j.val / 4))), .val (.int (6 : Int32)), .val (.ref ob), .val (.int (5 : Int32)), .val (.double (9218868437227405312 : UInt64)), .second, .unset, .unset, .unset, .unset, .unset, .unset] [])) _
        refine XS.iload X283.here hx rfl (hb hby at_120) rfl ?_
        show Steps p.tables e below (T283.setTop (mkF m 122 #[.val (.int p1), .val (.int p2), .val (.int (Int32.ofNat j.val)), .val (.double (mnF j.val)), .second, .val (.int (Int32.ofNat (j.val / 4))), .val (.int (6 : Int32)), .val (.ref ob), .val (.int (5 : Int32)), .val (.double (9218868437227405312 : UInt64)), .second, .unset, .unset, .unset, .unset, .unset, .unset] [(.int (5 : Int32))])) _
        refine XS.iload X283.here hx rfl (hb hby at_122) rfl ?_
        show Steps p.tables e below (T283.setTop (mkF m 124 #[.val (.int p1), .val (.int p2), .val (.int (Int32.ofNat j.val)), .val (.double (mnF j.val)), .second, .val (.int (Int32.ofNat (j.val / 4))), .val (.int (6 : Int32)), .val (.ref ob), .val (.int (5 : Int32)), .val (.double (9218868437227405312 : UInt64)), .second, .unset, .unset, .unset, .unset, .unset, .unset] [(.int (Int32.ofNat (j.val / 4))), (.int (5 : Int32))])) _
        refine XS.icmpNo X283.here hx rfl (hb hby at_124) rfl (XT.ii_ge_f qt) ?_
        show Steps p.tables e below (T283.setTop (mkF m 127 #[.val (.int p1), .val (.int p2), .val (.int (Int32.ofNat j.val)), .val (.double (mnF j.val)), .second, .val (.int (Int32.ofNat (j.val / 4))), .val (.int (6 : Int32)), .val (.ref ob), .val (.int (5 : Int32)), .val (.double (9218868437227405312 : UInt64)), .second, .unset, .unset, .unset, .unset, .unset, .unset] [])) _
        refine XS.dload X283.here hx rfl (hb hby at_127) rfl ?_
        show Steps p.tables e below (T283.setTop (mkF m 129 #[.val (.int p1), .val (.int p2), .val (.int (Int32.ofNat j.val)), .val (.double (mnF j.val)), .second, .val (.int (Int32.ofNat (j.val / 4))), .val (.int (6 : Int32)), .val (.ref ob), .val (.int (5 : Int32)), .val (.double (9218868437227405312 : UInt64)), .second, .unset, .unset, .unset, .unset, .unset, .unset] [(.double (9218868437227405312 : UInt64))])) _
        refine Jvm.Stand.ldc2DoubleC X283 hx hown (mvT hZ (hw _ (List.mem_of_getElem? (i := 36) rfl))) (g := (mkF m 129 #[.val (.int p1), .val (.int p2), .val (.int (Int32.ofNat j.val)), .val (.double (mnF j.val)), .second, .val (.int (Int32.ofNat (j.val / 4))), .val (.int (6 : Int32)), .val (.ref ob), .val (.int (5 : Int32)), .val (.double (9218868437227405312 : UInt64)), .second, .unset, .unset, .unset, .unset, .unset, .unset] [(.double (9218868437227405312 : UInt64))])) rfl (hb hby at_129) _ ?_
        show Steps p.tables e below (T283.setTop (mkF m 132 #[.val (.int p1), .val (.int p2), .val (.int (Int32.ofNat j.val)), .val (.double (mnF j.val)), .second, .val (.int (Int32.ofNat (j.val / 4))), .val (.int (6 : Int32)), .val (.ref ob), .val (.int (5 : Int32)), .val (.double (9218868437227405312 : UInt64)), .second, .unset, .unset, .unset, .unset, .unset, .unset] [(.double (9218868437227405312 : UInt64)), (.double (9218868437227405312 : UInt64))])) _
        refine XS.dcmpS X283.here hx rfl (hb hby at_132) rfl hk132 ?_
        show Steps p.tables e below (T283.setTop (mkF m 133 #[.val (.int p1), .val (.int p2), .val (.int (Int32.ofNat j.val)), .val (.double (mnF j.val)), .second, .val (.int (Int32.ofNat (j.val / 4))), .val (.int (6 : Int32)), .val (.ref ob), .val (.int (5 : Int32)), .val (.double (9218868437227405312 : UInt64)), .second, .unset, .unset, .unset, .unset, .unset, .unset] [(.int k132)])) _
        refine XS.ifNo X283.here hx rfl (hb hby at_133) rfl (XT.i0_ne_f e132) ?_
        show Steps p.tables e below (T283.setTop (mkF m 136 #[.val (.int p1), .val (.int p2), .val (.int (Int32.ofNat j.val)), .val (.double (mnF j.val)), .second, .val (.int (Int32.ofNat (j.val / 4))), .val (.int (6 : Int32)), .val (.ref ob), .val (.int (5 : Int32)), .val (.double (9218868437227405312 : UInt64)), .second, .unset, .unset, .unset, .unset, .unset, .unset] [])) _
        refine XS.iconst X283.here hx rfl (hb hby at_136) ?_
        show Steps p.tables e below (T283.setTop (mkF m 137 #[.val (.int p1), .val (.int p2), .val (.int (Int32.ofNat j.val)), .val (.double (mnF j.val)), .second, .val (.int (Int32.ofNat (j.val / 4))), .val (.int (6 : Int32)), .val (.ref ob), .val (.int (5 : Int32)), .val (.double (9218868437227405312 : UInt64)), .second, .unset, .unset, .unset, .unset, .unset, .unset] [(.int (1 : Int32))])) _
        refine XS.goto X283.here hx rfl (pc0 := 137) (pc' := 141) rfl (hb hby at_137) (by decide) (by decide) ?_
        show Steps p.tables e below (T283.setTop (mkF m 141 #[.val (.int p1), .val (.int p2), .val (.int (Int32.ofNat j.val)), .val (.double (mnF j.val)), .second, .val (.int (Int32.ofNat (j.val / 4))), .val (.int (6 : Int32)), .val (.ref ob), .val (.int (5 : Int32)), .val (.double (9218868437227405312 : UInt64)), .second, .unset, .unset, .unset, .unset, .unset, .unset] [(.int (1 : Int32))])) _
        exact k)
      obtain ⟨fs, hr, hrun, hended, hW, hsame⟩ := X283.leave (v := (some (.int (1 : Int32)))) (fun h => by rw [Bd.returns] at h; cases h)
      refine ⟨_, _, pre0 _ (c285 _ (retN X283 hx (t := .boolean) Bd.returns (by simp) (hb hby at_141) hr)), hrun, hended, _, _, rfl, ?_, ⟨_, rfl⟩, hW, hsame.mono (by decide) (by decide)⟩
      show Q_0 Z p1 p2 h0 n0 _ T283.heap _
      rw [e283]
      exact ⟨rfl, M283⟩
    · skip
      obtain ⟨z1, z2, z3, z4, z5⟩ := tl_6 j qt
      obtain ⟨l1, l2, l3, l4, l5, l6⟩ := lw_6 j qt
      obtain ⟨cq286, kq286, q286a, q286b, q286c⟩ := isOf hZ rfl G278_0
      obtain ⟨_, _, ⟨T286, L286, k286', n286⟩, -, X286, ⟨Lc286, hQ286, l286, y286, z286⟩, st286⟩ := X278.virtualBack hx (y := (⟨"com/example/topple/topple/markov/PoissonWeights", "tail", "()D"⟩ : MethodName)) (z := (⟨"com/example/topple/topple/markov/PoissonWeights", "tail", "()D"⟩ : MethodName)) hown (mvT hZ (hw _ (List.mem_of_getElem? (i := 29) rfl))) (mvT hZ (hw _ (List.mem_of_getElem? (i := 30) rfl))) (notFace_of_selects (args := #[]) (mvT hZ (hw _ (List.mem_of_getElem? (i := 32) rfl)))) (mvT hZ (hw _ (List.mem_of_getElem? (i := 32) rfl))) (mvT hZ (hw _ (List.mem_of_getElem? (i := 31) rfl))) (by decide) (backOf (W := 0) (rm_t1 l Z a0 hw [] ob (5 : Int32) (Int32.ofNat (j.val / 4)) (mnF j.val) (WF j.val 5) T278.heap n0 (Nat.le_trans (Nat.le_trans (Nat.le_trans (Nat.le_trans (Nat.le_trans (Nat.le_trans (Nat.le_trans (Nat.le_trans Z0 E240.1) K249.1) K253.1) K258.1) K263.1) K268.1) K273.1) K278.1) G278_1 G278_2 G278_3 G278_6 qt (nn_of z1) (nn_of z2) (nn_of z3) (nn_of z4) (nn_of z5)) hZ (hw _ (List.mem_of_getElem? (i := 33) rfl)) (hw _ (List.mem_of_getElem? (i := 4) rfl)) (by decide) (by decide)) q286a q286c (g := (mkF m 115 #[.val (.int p1), .val (.int p2), .val (.int (Int32.ofNat j.val)), .val (.double (mnF j.val)), .second, .val (.int (Int32.ofNat (j.val / 4))), .val (.int (6 : Int32)), .val (.ref ob), .val (.int (5 : Int32)), .unset, .unset, .unset, .unset, .unset, .unset, .unset, .unset] [(.ref ob)])) rfl (by rw [hml]; rfl) (Steps.refl _) (argsL := []) (rest := []) (lenOf pd___D rfl) rfl (by show 2 * 0 + _ ≤ _; exact Nat.le_of_eq rfl) (hb hby at_115) (fun _ _ => ⟨rfl, rfl, (by decide : 2 + 0 ≤ _), (by decide : 14 + 0 ≤ _)⟩)
      dsimp only [Pt.U, Pt.locs, Pt.cells, Pt.slots] at X286 l286 y286 z286 st286 hQ286
      subst l286 y286 z286
      obtain ⟨rfl, N286, e286⟩ := hQ286
      have M286 := Fr.app M278 N286
      have c287 : ∀ t, Steps p.tables e below (T286.setTop (mkF m 118 #[.val (.int p1), .val (.int p2), .val (.int (Int32.ofNat j.val)), .val (.double (mnF j.val)), .second, .val (.int (Int32.ofNat (j.val / 4))), .val (.int (6 : Int32)), .val (.ref ob), .val (.int (5 : Int32)), .unset, .unset, .unset, .unset, .unset, .unset, .unset, .unset] [(.double (FP.ddiv (FP.ddiv (FP.dmul (WF j.val 5) (mnF j.val)) (FP.i2d ((5 : Int32) + (1 : Int32)))) (FP.dsub FP.dconst1 (FP.ddiv (mnF j.val) (FP.i2d ((5 : Int32) + (2 : Int32)))))))])) t → Steps p.tables e below (s₁.setTop (entryFrame m #[(.int p1), (.int p2)] maxLocals)) t := fun t k => c282 t (st286.trans k)
      have c288 : ∀ t, Steps p.tables e below (T286.setTop (mkF m 144 #[.val (.int p1), .val (.int p2), .val (.int (Int32.ofNat j.val)), .val (.double (mnF j.val)), .second, .val (.int (Int32.ofNat (j.val / 4))), .val (.int (6 : Int32)), .val (.ref ob), .val (.int (5 : Int32)), .val (.double (FP.ddiv (FP.ddiv (FP.dmul (WF j.val 5) (mnF j.val)) (FP.i2d ((5 : Int32) + (1 : Int32)))) (FP.dsub FP.dconst1 (FP.ddiv (mnF j.val) (FP.i2d ((5 : Int32) + (2 : Int32))))))), .second, .unset, .unset, .unset, .unset, .unset, .unset] [(.ref ob)])) t → Steps p.tables e below (s₁.setTop (entryFrame m #[(.int p1), (.int p2)] maxLocals)) t := fun t k => c287 t (by
        show Steps p.tables e below (T286.setTop (mkF m 118 #[.val (.int p1), .val (.int p2), .val (.int (Int32.ofNat j.val)), .val (.double (mnF j.val)), .second, .val (.int (Int32.ofNat (j.val / 4))), .val (.int (6 : Int32)), .val (.ref ob), .val (.int (5 : Int32)), .unset, .unset, .unset, .unset, .unset, .unset, .unset, .unset] [(.double (FP.ddiv (FP.ddiv (FP.dmul (WF j.val 5) (mnF j.val)) (FP.i2d ((5 : Int32) + (1 : Int32)))) (FP.dsub FP.dconst1 (FP.ddiv (mnF j.val) (FP.i2d ((5 : Int32) + (2 : Int32)))))))])) _
        refine XS.dstore X286.here hx rfl (hb hby at_118) rfl (l' := #[.val (.int p1), .val (.int p2), .val (.int (Int32.ofNat j.val)), .val (.double (mnF j.val)), .second, .val (.int (Int32.ofNat (j.val / 4))), .val (.int (6 : Int32)), .val (.ref ob), .val (.int (5 : Int32)), .val (.double (FP.ddiv (FP.ddiv (FP.dmul (WF j.val 5) (mnF j.val)) (FP.i2d ((5 : Int32) + (1 : Int32)))) (FP.dsub FP.dconst1 (FP.ddiv (mnF j.val) (FP.i2d ((5 : Int32) + (2 : Int32))))))), .second, .unset, .unset, .unset, .unset, .unset, .unset]) rfl ?_
        show Steps p.tables e below (T286.setTop (mkF m 120 #[.val (.int p1), .val (.int p2), .val (.int (Int32.ofNat j.val)), .val (.double (mnF j.val)), .second, .val (.int (Int32.ofNat (j.val / 4))), .val (.int (6 : Int32)), .val (.ref ob), .val (.int (5 : Int32)), .val (.double (FP.ddiv (FP.ddiv (FP.dmul (WF j.val 5) (mnF j.val)) (FP.i2d ((5 : Int32) + (1 : Int32)))) (FP.dsub FP.dconst1 (FP.ddiv (mnF j.val) (FP.i2d ((5 : Int32) + (2 : Int32))))))), .second, .unset, .unset, .unset, .unset, .unset, .unset] [])) _
        refine XS.iload X286.here hx rfl (hb hby at_120) rfl ?_
        show Steps p.tables e below (T286.setTop (mkF m 122 #[.val (.int p1), .val (.int p2), .val (.int (Int32.ofNat j.val)), .val (.double (mnF j.val)), .second, .val (.int (Int32.ofNat (j.val / 4))), .val (.int (6 : Int32)), .val (.ref ob), .val (.int (5 : Int32)), .val (.double (FP.ddiv (FP.ddiv (FP.dmul (WF j.val 5) (mnF j.val)) (FP.i2d ((5 : Int32) + (1 : Int32)))) (FP.dsub FP.dconst1 (FP.ddiv (mnF j.val) (FP.i2d ((5 : Int32) + (2 : Int32))))))), .second, .unset, .unset, .unset, .unset, .unset, .unset] [(.int (5 : Int32))])) _
        refine XS.iload X286.here hx rfl (hb hby at_122) rfl ?_
        show Steps p.tables e below (T286.setTop (mkF m 124 #[.val (.int p1), .val (.int p2), .val (.int (Int32.ofNat j.val)), .val (.double (mnF j.val)), .second, .val (.int (Int32.ofNat (j.val / 4))), .val (.int (6 : Int32)), .val (.ref ob), .val (.int (5 : Int32)), .val (.double (FP.ddiv (FP.ddiv (FP.dmul (WF j.val 5) (mnF j.val)) (FP.i2d ((5 : Int32) + (1 : Int32)))) (FP.dsub FP.dconst1 (FP.ddiv (mnF j.val) (FP.i2d ((5 : Int32) + (2 : Int32))))))), .second, .unset, .unset, .unset, .unset, .unset, .unset] [(.int (Int32.ofNat (j.val / 4))), (.int (5 : Int32))])) _
        refine XS.icmpYes X286.here hx rfl (pc0 := 124) (pc' := 142) rfl (hb hby at_124) rfl (XT.ii_ge_t qt) (by decide) (by decide) ?_
        show Steps p.tables e below (T286.setTop (mkF m 142 #[.val (.int p1), .val (.int p2), .val (.int (Int32.ofNat j.val)), .val (.double (mnF j.val)), .second, .val (.int (Int32.ofNat (j.val / 4))), .val (.int (6 : Int32)), .val (.ref ob), .val (.int (5 : Int32)), .val (.double (FP.ddiv (FP.ddiv (FP.dmul (WF j.val 5) (mnF j.val)) (FP.i2d ((5 : Int32) + (1 : Int32)))) (FP.dsub FP.dconst1 (FP.ddiv (mnF j.val) (FP.i2d ((5 : Int32) + (2 : Int32))))))), .second, .unset, .unset, .unset, .unset, .unset, .unset] [])) _
        refine XS.aload X286.here hx rfl (hb hby at_142) rfl rfl ?_
        show Steps p.tables e below (T286.setTop (mkF m 144 #[.val (.int p1), .val (.int p2), .val (.int (Int32.ofNat j.val)), .val (.double (mnF j.val)), .second, .val (.int (Int32.ofNat (j.val / 4))), .val (.int (6 : Int32)), .val (.ref ob), .val (.int (5 : Int32)), .val (.double (FP.ddiv (FP.ddiv (FP.dmul (WF j.val 5) (mnF j.val)) (FP.i2d ((5 : Int32) + (1 : Int32)))) (FP.dsub FP.dconst1 (FP.ddiv (mnF j.val) (FP.i2d ((5 : Int32) + (2 : Int32))))))), .second, .unset, .unset, .unset, .unset, .unset, .unset] [(.ref ob)])) _
        exact k)
      obtain ⟨cq289, kq289, q289a, q289b, q289c⟩ := isOf hZ e286 G278_0
      obtain ⟨_, _, ⟨T289, L289, k289', n289⟩, -, X289, ⟨Lc289, hQ289, l289, y289, z289⟩, st289⟩ := X286.virtualBack hx (y := (⟨"com/example/topple/topple/markov/PoissonWeights", "next", "()D"⟩ : MethodName)) (z := (⟨"com/example/topple/topple/markov/PoissonWeights", "next", "()D"⟩ : MethodName)) hown (mvT hZ (hw _ (List.mem_of_getElem? (i := 22) rfl))) (mvT hZ (hw _ (List.mem_of_getElem? (i := 23) rfl))) (notFace_of_selects (args := #[]) (mvT hZ (hw _ (List.mem_of_getElem? (i := 25) rfl)))) (mvT hZ (hw _ (List.mem_of_getElem? (i := 25) rfl))) (mvT hZ (hw _ (List.mem_of_getElem? (i := 24) rfl))) (by decide) (backOf (W := 0) (rm_nx l Z a0 hw [] ob ta (mnF j.val) (5 : Int32) (6 : Int32) (Int32.ofNat (j.val / 4)) (Int32.ofNat 0) (WF j.val 5) (WF j.val 6) (j.val / 4 - 0 + 1) 6 (fun i => tmF j.val (j.val / 4 - 0 - i)) T278.heap n0 (Nat.le_trans (Nat.le_trans (Nat.le_trans (Nat.le_trans (Nat.le_trans (Nat.le_trans (Nat.le_trans (Nat.le_trans Z0 E240.1) K249.1) K253.1) K258.1) K263.1) K268.1) K273.1) K278.1) G278_0 G278_1 G278_2 G278_3 G278_4 G278_5 G278_6 (Nat.le_trans Z0 (Nat.le_of_eq g240.symm)) (by decide) ne249 F280 (by decide) (nlo_6 j) (fun q => by
            obtain ⟨x1, x2, x3⟩ := nhi_6 j q
            exact ⟨nn_of x1, nn_of x2, x3⟩)) hZ (hw _ (List.mem_of_getElem? (i := 26) rfl)) (hw _ (List.mem_of_getElem? (i := 4) rfl)) (by decide) (by decide)) q289a q289c (g := (mkF m 144 #[.val (.int p1), .val (.int p2), .val (.int (Int32.ofNat j.val)), .val (.double (mnF j.val)), .second, .val (.int (Int32.ofNat (j.val / 4))), .val (.int (6 : Int32)), .val (.ref ob), .val (.int (5 : Int32)), .val (.double (FP.ddiv (FP.ddiv (FP.dmul (WF j.val 5) (mnF j.val)) (FP.i2d ((5 : Int32) + (1 : Int32)))) (FP.dsub FP.dconst1 (FP.ddiv (mnF j.val) (FP.i2d ((5 : Int32) + (2 : Int32))))))), .second, .unset, .unset, .unset, .unset, .unset, .unset] [(.ref ob)])) rfl (by rw [hml]; rfl) (Steps.refl _) (argsL := []) (rest := []) (lenOf pd___D rfl) rfl (by show 2 * 0 + _ ≤ _; exact Nat.le_of_eq rfl) (hb hby at_144) (fun _ _ => ⟨rfl, e286, (by decide : 2 + 0 ≤ _), (by decide : 14 + 0 ≤ _)⟩)
      dsimp only [Pt.U, Pt.locs, Pt.cells, Pt.slots] at X289 l289 y289 z289 st289 hQ289
      subst l289 y289 z289
      obtain ⟨rfl, N289, K289, G289_0, G289_1, G289_2, G289_3, G289_4, G289_5, G289_6⟩ := hQ289
      have M289 := Fr.app M286 N289
      have F290 : Exa Z T289.heap ob "com/example/topple/topple/markov/PoissonWeights" := (G278_0.keep K289)
      have F291 : OwnArr.Ag Z T289.heap ta .double (j.val / 4 - 0 + 1) (fun i => .double (tmF j.val (j.val / 4 - 0 - i))) := (F280.keep K289 (ninS ne249 nin0))
      have c292 : ∀ t, Steps p.tables e below (T289.setTop (mkF m 147 #[.val (.int p1), .val (.int p2), .val (.int (Int32.ofNat j.val)), .val (.double (mnF j.val)), .second, .val (.int (Int32.ofNat (j.val / 4))), .val (.int (6 : Int32)), .val (.ref ob), .val (.int (5 : Int32)), .val (.double (FP.ddiv (FP.ddiv (FP.dmul (WF j.val 5) (mnF j.val)) (FP.i2d ((5 : Int32) + (1 : Int32)))) (FP.dsub FP.dconst1 (FP.ddiv (mnF j.val) (FP.i2d ((5 : Int32) + (2 : Int32))))))), .second, .unset, .unset, .unset, .unset, .unset, .unset] [(.double (WF j.val 6))])) t → Steps p.tables e below (s₁.setTop (entryFrame m #[(.int p1), (.int p2)] maxLocals)) t := fun t k => c288 t (st289.trans k)
      have c293 : ∀ t, Steps p.tables e below (T289.setTop (mkF m 151 #[.val (.int p1), .val (.int p2), .val (.int (Int32.ofNat j.val)), .val (.double (mnF j.val)), .second, .val (.int (Int32.ofNat (j.val / 4))), .val (.int (6 : Int32)), .val (.ref ob), .val (.int (5 : Int32)), .val (.double (FP.ddiv (FP.ddiv (FP.dmul (WF j.val 5) (mnF j.val)) (FP.i2d ((5 : Int32) + (1 : Int32)))) (FP.dsub FP.dconst1 (FP.ddiv (mnF j.val) (FP.i2d ((5 : Int32) + (2 : Int32))))))), .second, .val (.double (WF j.val 6)), .second, .unset, .unset, .unset, .unset] [(.ref ob)])) t → Steps p.tables e below (s₁.setTop (entryFrame m #[(.int p1), (.int p2)] maxLocals)) t := fun t k => c292 t (by
        show Steps p.tables e below (T289.setTop (mkF m 147 #[.val (.int p1), .val (.int p2), .val (.int (Int32.ofNat j.val)), .val (.double (mnF j.val)), .second, .val (.int (Int32.ofNat (j.val / 4))), .val (.int (6 : Int32)), .val (.ref ob), .val (.int (5 : Int32)), .val (.double (FP.ddiv (FP.ddiv (FP.dmul (WF j.val 5) (mnF j.val)) (FP.i2d ((5 : Int32) + (1 : Int32)))) (FP.dsub FP.dconst1 (FP.ddiv (mnF j.val) (FP.i2d ((5 : Int32) + (2 : Int32))))))), .second, .unset, .unset, .unset, .unset, .unset, .unset] [(.double (WF j.val 6))])) _
        refine XS.dstore X289.here hx rfl (hb hby at_147) rfl (l' := #[.val (.int p1), .val (.int p2), .val (.int (Int32.ofNat j.val)), .val (.double (mnF j.val)), .second, .val (.int (Int32.ofNat (j.val / 4))), .val (.int (6 : Int32)), .val (.ref ob), .val (.int (5 : Int32)), .val (.double (FP.ddiv (FP.ddiv (FP.dmul (WF j.val 5) (mnF j.val)) (FP.i2d ((5 : Int32) + (1 : Int32)))) (FP.dsub FP.dconst1 (FP.ddiv (mnF j.val) (FP.i2d ((5 : Int32) + (2 : Int32))))))), .second, .val (.double (WF j.val 6)), .second, .unset, .unset, .unset, .unset]) rfl ?_
        show Steps p.tables e below (T289.setTop (mkF m 149 #[.val (.int p1), .val (.int p2), .val (.int (Int32.ofNat j.val)), .val (.double (mnF j.val)), .second, .val (.int (Int32.ofNat (j.val / 4))), .val (.int (6 : Int32)), .val (.ref ob), .val (.int (5 : Int32)), .val (.double (FP.ddiv (FP.ddiv (FP.dmul (WF j.val 5) (mnF j.val)) (FP.i2d ((5 : Int32) + (1 : Int32)))) (FP.dsub FP.dconst1 (FP.ddiv (mnF j.val) (FP.i2d ((5 : Int32) + (2 : Int32))))))), .second, .val (.double (WF j.val 6)), .second, .unset, .unset, .unset, .unset] [])) _
        refine XS.aload X289.here hx rfl (hb hby at_149) rfl rfl ?_
        show Steps p.tables e below (T289.setTop (mkF m 151 #[.val (.int p1), .val (.int p2), .val (.int (Int32.ofNat j.val)), .val (.double (mnF j.val)), .second, .val (.int (Int32.ofNat (j.val / 4))), .val (.int (6 : Int32)), .val (.ref ob), .val (.int (5 : Int32)), .val (.double (FP.ddiv (FP.ddiv (FP.dmul (WF j.val 5) (mnF j.val)) (FP.i2d ((5 : Int32) + (1 : Int32)))) (FP.dsub FP.dconst1 (FP.ddiv (mnF j.val) (FP.i2d ((5 : Int32) + (2 : Int32))))))), .second, .val (.double (WF j.val 6)), .second, .unset, .unset, .unset, .unset] [(.ref ob)])) _
        exact k)
      obtain ⟨cq294, kq294, q294a, q294b, q294c⟩ := isOf hZ rfl G289_0
      obtain ⟨_, _, ⟨T294, L294, k294', n294⟩, -, X294, ⟨Lc294, hQ294, l294, y294, z294⟩, st294⟩ := X289.virtualBack hx (y := (⟨"com/example/topple/topple/markov/PoissonWeights", "next", "()D"⟩ : MethodName)) (z := (⟨"com/example/topple/topple/markov/PoissonWeights", "next", "()D"⟩ : MethodName)) hown (mvT hZ (hw _ (List.mem_of_getElem? (i := 22) rfl))) (mvT hZ (hw _ (List.mem_of_getElem? (i := 23) rfl))) (notFace_of_selects (args := #[]) (mvT hZ (hw _ (List.mem_of_getElem? (i := 25) rfl)))) (mvT hZ (hw _ (List.mem_of_getElem? (i := 25) rfl))) (mvT hZ (hw _ (List.mem_of_getElem? (i := 24) rfl))) (by decide) (backOf (W := 0) (rm_nx l Z a0 hw [] ob ta (mnF j.val) (6 : Int32) (7 : Int32) (Int32.ofNat (j.val / 4)) (Int32.ofNat 0) (WF j.val 6) (WF j.val 7) (j.val / 4 - 0 + 1) 7 (fun i => tmF j.val (j.val / 4 - 0 - i)) T289.heap n0 (Nat.le_trans (Nat.le_trans (Nat.le_trans (Nat.le_trans (Nat.le_trans (Nat.le_trans (Nat.le_trans (Nat.le_trans (Nat.le_trans Z0 E240.1) K249.1) K253.1) K258.1) K263.1) K268.1) K273.1) K278.1) K289.1) G289_0 G289_1 G289_2 G289_3 G289_4 G289_5 G289_6 (Nat.le_trans Z0 (Nat.le_of_eq g240.symm)) (by decide) ne249 F291 (by decide) (nlo_7 j) (fun q => by
            obtain ⟨x1, x2, x3⟩ := nhi_7 j q
            exact ⟨nn_of x1, nn_of x2, x3⟩)) hZ (hw _ (List.mem_of_getElem? (i := 26) rfl)) (hw _ (List.mem_of_getElem? (i := 4) rfl)) (by decide) (by decide)) q294a q294c (g := (mkF m 151 #[.val (.int p1), .val (.int p2), .val (.int (Int32.ofNat j.val)), .val (.double (mnF j.val)), .second, .val (.int (Int32.ofNat (j.val / 4))), .val (.int (6 : Int32)), .val (.ref ob), .val (.int (5 : Int32)), .val (.double (FP.ddiv (FP.ddiv (FP.dmul (WF j.val 5) (mnF j.val)) (FP.i2d ((5 : Int32) + (1 : Int32)))) (FP.dsub FP.dconst1 (FP.ddiv (mnF j.val) (FP.i2d ((5 : Int32) + (2 : Int32))))))), .second, .val (.double (WF j.val 6)), .second, .unset, .unset, .unset, .unset] [(.ref ob)])) rfl (by rw [hml]; rfl) (Steps.refl _) (argsL := []) (rest := []) (lenOf pd___D rfl) rfl (by show 2 * 0 + _ ≤ _; exact Nat.le_of_eq rfl) (hb hby at_151) (fun _ _ => ⟨rfl, rfl, (by decide : 2 + 0 ≤ _), (by decide : 14 + 0 ≤ _)⟩)
      dsimp only [Pt.U, Pt.locs, Pt.cells, Pt.slots] at X294 l294 y294 z294 st294 hQ294
      subst l294 y294 z294
      obtain ⟨rfl, N294, K294, G294_0, G294_1, G294_2, G294_3, G294_4, G294_5, G294_6⟩ := hQ294
      have M294 := Fr.app M289 N294
      have F295 : Exa Z T294.heap ob "com/example/topple/topple/markov/PoissonWeights" := (G289_0.keep K294)
      have F296 : OwnArr.Ag Z T294.heap ta .double (j.val / 4 - 0 + 1) (fun i => .double (tmF j.val (j.val / 4 - 0 - i))) := (F291.keep K294 (ninS ne249 nin0))
      have c297 : ∀ t, Steps p.tables e below (T294.setTop (mkF m 154 #[.val (.int p1), .val (.int p2), .val (.int (Int32.ofNat j.val)), .val (.double (mnF j.val)), .second, .val (.int (Int32.ofNat (j.val / 4))), .val (.int (6 : Int32)), .val (.ref ob), .val (.int (5 : Int32)), .val (.double (FP.ddiv (FP.ddiv (FP.dmul (WF j.val 5) (mnF j.val)) (FP.i2d ((5 : Int32) + (1 : Int32)))) (FP.dsub FP.dconst1 (FP.ddiv (mnF j.val) (FP.i2d ((5 : Int32) + (2 : Int32))))))), .second, .val (.double (WF j.val 6)), .second, .unset, .unset, .unset, .unset] [(.double (WF j.val 7))])) t → Steps p.tables e below (s₁.setTop (entryFrame m #[(.int p1), (.int p2)] maxLocals)) t := fun t k => c293 t (st294.trans k)
      obtain ⟨d161, hd161⟩ : ∃ v : UInt64, FP.i2d (7 : Int32) = v := ⟨_, rfl⟩
      obtain ⟨d162, hd162⟩ : ∃ v : UInt64, FP.ddiv (mnF j.val) d161 = v := ⟨_, rfl⟩
      have n162 : Jvm.Free.Fl.NoNaN64 (FP.ddiv (mnF j.val) d161) := by rw [← hd161]; exact nn_of l1
      obtain ⟨d172, hd172⟩ : ∃ v : UInt64, FP.dsub FP.dconst1 d162 = v := ⟨_, rfl⟩
      have n172 : Jvm.Free.Fl.NoNaN64 (FP.dsub FP.dconst1 d162) := by rw [← hd162, ← hd161]; exact nn_of l2
      obtain ⟨d173, hd173⟩ : ∃ v : UInt64, FP.ddiv (WF j.val 6) d172 = v := ⟨_, rfl⟩
      have n173 : Jvm.Free.Fl.NoNaN64 (FP.ddiv (WF j.val 6) d172) := by rw [← hd172, ← hd162, ← hd161]; exact nn_of l3
      obtain ⟨k174, hk174⟩ : ∃ v : Int32, cmpValue (FP.dcmp (FP.ddiv (FP.ddiv (FP.dmul (WF j.val 5) (mnF j.val)) (FP.i2d ((5 : Int32) + (1 : Int32)))) (FP.dsub FP.dconst1 (FP.ddiv (mnF j.val) (FP.i2d ((5 : Int32) + (2 : Int32)))))) d173) .l = v := ⟨_, rfl⟩
      have e174 : k174 = 0 := by rw [← hk174, ← hd173, ← hd172, ← hd162, ← hd161]; exact l4
      obtain ⟨d184, hd184⟩ : ∃ v : UInt64, FP.dadd (WF j.val 6) (WF j.val 7) = v := ⟨_, rfl⟩
      obtain ⟨k185, hk185⟩ : ∃ v : Int32, cmpValue (FP.dcmp (FP.ddiv (FP.ddiv (FP.dmul (WF j.val 5) (mnF j.val)) (FP.i2d ((5 : Int32) + (1 : Int32)))) (FP.dsub FP.dconst1 (FP.ddiv (mnF j.val) (FP.i2d ((5 : Int32) + (2 : Int32)))))) d184) .l = v := ⟨_, rfl⟩
      have e185 : ¬ k185 < 0 := by rw [← hk185, ← hd184]; exact l6
      have c298 : ∀ t, Steps p.tables e below (T294.setTop (mkF m 194 #[.val (.int p1), .val (.int p2), .val (.int (Int32.ofNat j.val)), .val (.double (mnF j.val)), .second, .val (.int (Int32.ofNat (j.val / 4))), .val (.int (6 : Int32)), .val (.ref ob), .val (.int (5 : Int32)), .val (.double (FP.ddiv (FP.ddiv (FP.dmul (WF j.val 5) (mnF j.val)) (FP.i2d ((5 : Int32) + (1 : Int32)))) (FP.dsub FP.dconst1 (FP.ddiv (mnF j.val) (FP.i2d ((5 : Int32) + (2 : Int32))))))), .second, .val (.double (WF j.val 6)), .second, .val (.double (WF j.val 7)), .second, .val (.double d162), .second] [(.int (1 : Int32))])) t → Steps p.tables e below (s₁.setTop (entryFrame m #[(.int p1), (.int p2)] maxLocals)) t := fun t k => c297 t (by
        show Steps p.tables e below (T294.setTop (mkF m 154 #[.val (.int p1), .val (.int p2), .val (.int (Int32.ofNat j.val)), .val (.double (mnF j.val)), .second, .val (.int (Int32.ofNat (j.val / 4))), .val (.int (6 : Int32)), .val (.ref ob), .val (.int (5 : Int32)), .val (.double (FP.ddiv (FP.ddiv (FP.dmul (WF j.val 5) (mnF j.val)) (FP.i2d ((5 : Int32) + (1 : Int32)))) (FP.dsub FP.dconst1 (FP.ddiv (mnF j.val) (FP.i2d ((5 : Int32) + (2 : Int32))))))), .second, .val (.double (WF j.val 6)), .second, .unset, .unset, .unset, .unset] [(.double (WF j.val 7))])) _
        refine XS.dstore X294.here hx rfl (hb hby at_154) rfl (l' := #[.val (.int p1), .val (.int p2), .val (.int (Int32.ofNat j.val)), .val (.double (mnF j.val)), .second, .val (.int (Int32.ofNat (j.val / 4))), .val (.int (6 : Int32)), .val (.ref ob), .val (.int (5 : Int32)), .val (.double (FP.ddiv (FP.ddiv (FP.dmul (WF j.val 5) (mnF j.val)) (FP.i2d ((5 : Int32) + (1 : Int32)))) (FP.dsub FP.dconst1 (FP.ddiv (mnF j.val) (FP.i2d ((5 : Int32) + (2 : Int32))))))), .second, .val (.double (WF j.val 6)), .second, .val (.double (WF j.val 7)), .second, .unset, .unset]) rfl ?_
        show Steps p.tables e below (T294.setTop (mkF m 156 #[.val (.int p1), .val (.int p2), .val (.int (Int32.ofNat j.val)), .val (.double (mnF j.val)), .second, .val (.int (Int32.ofNat (j.val / 4))), .val (.int (6 : Int32)), .val (.ref ob), .val (.int (5 : Int32)), .val (.double (FP.ddiv (FP.ddiv (FP.dmul (WF j.val 5) (mnF j.val)) (FP.i2d ((5 : Int32) + (1 : Int32)))) (FP.dsub FP.dconst1 (FP.ddiv (mnF j.val) (FP.i2d ((5 : Int32) + (2 : Int32))))))), .second, .val (.double (WF j.val 6)), .second, .val (.double (WF j.val 7)), .second, .unset, .unset] [])) _
        refine XS.dloadN X294.here hx rfl (hb hby at_156) rfl ?_
        show Steps p.tables e below (T294.setTop (mkF m 157 #[.val (.int p1), .val (.int p2), .val (.int (Int32.ofNat j.val)), .val (.double (mnF j.val)), .second, .val (.int (Int32.ofNat (j.val / 4))), .val (.int (6 : Int32)), .val (.ref ob), .val (.int (5 : Int32)), .val (.double (FP.ddiv (FP.ddiv (FP.dmul (WF j.val 5) (mnF j.val)) (FP.i2d ((5 : Int32) + (1 : Int32)))) (FP.dsub FP.dconst1 (FP.ddiv (mnF j.val) (FP.i2d ((5 : Int32) + (2 : Int32))))))), .second, .val (.double (WF j.val 6)), .second, .val (.double (WF j.val 7)), .second, .unset, .unset] [(.double (mnF j.val))])) _
        refine XS.iload X294.here hx rfl (hb hby at_157) rfl ?_
        show Steps p.tables e below (T294.setTop (mkF m 159 #[.val (.int p1), .val (.int p2), .val (.int (Int32.ofNat j.val)), .val (.double (mnF j.val)), .second, .val (.int (Int32.ofNat (j.val / 4))), .val (.int (6 : Int32)), .val (.ref ob), .val (.int (5 : Int32)), .val (.double (FP.ddiv (FP.ddiv (FP.dmul (WF j.val 5) (mnF j.val)) (FP.i2d ((5 : Int32) + (1 : Int32)))) (FP.dsub FP.dconst1 (FP.ddiv (mnF j.val) (FP.i2d ((5 : Int32) + (2 : Int32))))))), .second, .val (.double (WF j.val 6)), .second, .val (.double (WF j.val 7)), .second, .unset, .unset] [(.int (5 : Int32)), (.double (mnF j.val))])) _
        refine XS.iconst X294.here hx rfl (hb hby at_159) ?_
        show Steps p.tables e below (T294.setTop (mkF m 160 #[.val (.int p1), .val (.int p2), .val (.int (Int32.ofNat j.val)), .val (.double (mnF j.val)), .second, .val (.int (Int32.ofNat (j.val / 4))), .val (.int (6 : Int32)), .val (.ref ob), .val (.int (5 : Int32)), .val (.double (FP.ddiv (FP.ddiv (FP.dmul (WF j.val 5) (mnF j.val)) (FP.i2d ((5 : Int32) + (1 : Int32)))) (FP.dsub FP.dconst1 (FP.ddiv (mnF j.val) (FP.i2d ((5 : Int32) + (2 : Int32))))))), .second, .val (.double (WF j.val 6)), .second, .val (.double (WF j.val 7)), .second, .unset, .unset] [(.int (2 : Int32)), (.int (5 : Int32)), (.double (mnF j.val))])) _
        refine XS.iadd X294.here hx rfl (hb hby at_160) rfl ?_
        show Steps p.tables e below (T294.setTop (mkF m 161 #[.val (.int p1), .val (.int p2), .val (.int (Int32.ofNat j.val)), .val (.double (mnF j.val)), .second, .val (.int (Int32.ofNat (j.val / 4))), .val (.int (6 : Int32)), .val (.ref ob), .val (.int (5 : Int32)), .val (.double (FP.ddiv (FP.ddiv (FP.dmul (WF j.val 5) (mnF j.val)) (FP.i2d ((5 : Int32) + (1 : Int32)))) (FP.dsub FP.dconst1 (FP.ddiv (mnF j.val) (FP.i2d ((5 : Int32) + (2 : Int32))))))), .second, .val (.double (WF j.val 6)), .second, .val (.double (WF j.val 7)), .second, .unset, .unset] [(.int (7 : Int32)), (.double (mnF j.val))])) _
        refine XS.i2dS X294.here hx rfl (hb hby at_161) rfl hd161 ?_
        show Steps p.tables e below (T294.setTop (mkF m 162 #[.val (.int p1), .val (.int p2), .val (.int (Int32.ofNat j.val)), .val (.double (mnF j.val)), .second, .val (.int (Int32.ofNat (j.val / 4))), .val (.int (6 : Int32)), .val (.ref ob), .val (.int (5 : Int32)), .val (.double (FP.ddiv (FP.ddiv (FP.dmul (WF j.val 5) (mnF j.val)) (FP.i2d ((5 : Int32) + (1 : Int32)))) (FP.dsub FP.dconst1 (FP.ddiv (mnF j.val) (FP.i2d ((5 : Int32) + (2 : Int32))))))), .second, .val (.double (WF j.val 6)), .second, .val (.double (WF j.val 7)), .second, .unset, .unset] [(.double d161), (.double (mnF j.val))])) _
        refine XS.ddivS X294.here hx rfl (hb hby at_162) rfl n162 hd162 ?_
        show Steps p.tables e below (T294.setTop (mkF m 163 #[.val (.int p1), .val (.int p2), .val (.int (Int32.ofNat j.val)), .val (.double (mnF j.val)), .second, .val (.int (Int32.ofNat (j.val / 4))), .val (.int (6 : Int32)), .val (.ref ob), .val (.int (5 : Int32)), .val (.double (FP.ddiv (FP.ddiv (FP.dmul (WF j.val 5) (mnF j.val)) (FP.i2d ((5 : Int32) + (1 : Int32)))) (FP.dsub FP.dconst1 (FP.ddiv (mnF j.val) (FP.i2d ((5 : Int32) + (2 : Int32))))))), .second, .val (.double (WF j.val 6)), .second, .val (.double (WF j.val 7)), .second, .unset, .unset] [(.double d162)])) _
        refine XS.dstore X294.here hx rfl (hb hby at_163) rfl (l' := #[.val (.int p1), .val (.int p2), .val (.int (Int32.ofNat j.val)), .val (.double (mnF j.val)), .second, .val (.int (Int32.ofNat (j.val / 4))), .val (.int (6 : Int32)), .val (.ref ob), .val (.int (5 : Int32)), .val (.double (FP.ddiv (FP.ddiv (FP.dmul (WF j.val 5) (mnF j.val)) (FP.i2d ((5 : Int32) + (1 : Int32)))) (FP.dsub FP.dconst1 (FP.ddiv (mnF j.val) (FP.i2d ((5 : Int32) + (2 : Int32))))))), .second, .val (.double (WF j.val 6)), .second, .val (.double (WF j.val 7)), .second, .val (.double d162), .second]) rfl ?_
        show Steps p.tables e below (T294.setTop (mkF m 165 #[.val (.int p1), .val (.int p2), .val (.int (Int32.ofNat j.val)), .val (.double (mnF j.val)), .second, .val (.int (Int32.ofNat (j.val / 4))), .val (.int (6 : Int32)), .val (.ref ob), .val (.int (5 : Int32)), .val (.double (FP.ddiv (FP.ddiv (FP.dmul (WF j.val 5) (mnF j.val)) (FP.i2d ((5 : Int32) + (1 : Int32)))) (FP.dsub FP.dconst1 (FP.ddiv (mnF j.val) (FP.i2d ((5 : Int32) + (2 : Int32))))))), .second, .val (.double (WF j.val 6)), .second, .val (.double (WF j.val 7)), .second, .val (.double d162), .second] [])) _
        refine XS.dload X294.here hx rfl (hb hby at_165) rfl ?_
        show Steps p.tables e below (T294.setTop (mkF m 167 #[.val (.int p1), .val (.int p2), .val (.int (Int32.ofNat j.val)), .val (.double (mnF j.val)), .second, .val (.int (Int32.ofNat (j.val / 4))), .val (.int (6 : Int32)), .val (.ref ob), .val (.int (5 : Int32)), .val (.double (FP.ddiv (FP.ddiv (FP.dmul (WF j.val 5) (mnF j.val)) (FP.i2d ((5 : Int32) + (1 : Int32)))) (FP.dsub FP.dconst1 (FP.ddiv (mnF j.val) (FP.i2d ((5 : Int32) + (2 : Int32))))))), .second, .val (.double (WF j.val 6)), .second, .val (.double (WF j.val 7)), .second, .val (.double d162), .second] [(.double (FP.ddiv (FP.ddiv (FP.dmul (WF j.val 5) (mnF j.val)) (FP.i2d ((5 : Int32) + (1 : Int32)))) (FP.dsub FP.dconst1 (FP.ddiv (mnF j.val) (FP.i2d ((5 : Int32) + (2 : Int32)))))))])) _
        refine XS.dload X294.here hx rfl (hb hby at_167) rfl ?_
        show Steps p.tables e below (T294.setTop (mkF m 169 #[.val (.int p1), .val (.int p2), .val (.int (Int32.ofNat j.val)), .val (.double (mnF j.val)), .second, .val (.int (Int32.ofNat (j.val / 4))), .val (.int (6 : Int32)), .val (.ref ob), .val (.int (5 : Int32)), .val (.double (FP.ddiv (FP.ddiv (FP.dmul (WF j.val 5) (mnF j.val)) (FP.i2d ((5 : Int32) + (1 : Int32)))) (FP.dsub FP.dconst1 (FP.ddiv (mnF j.val) (FP.i2d ((5 : Int32) + (2 : Int32))))))), .second, .val (.double (WF j.val 6)), .second, .val (.double (WF j.val 7)), .second, .val (.double d162), .second] [(.double (WF j.val 6)), (.double (FP.ddiv (FP.ddiv (FP.dmul (WF j.val 5) (mnF j.val)) (FP.i2d ((5 : Int32) + (1 : Int32)))) (FP.dsub FP.dconst1 (FP.ddiv (mnF j.val) (FP.i2d ((5 : Int32) + (2 : Int32)))))))])) _
        refine XS.dconst1 X294.here hx rfl (hb hby at_169) rfl ?_
        show Steps p.tables e below (T294.setTop (mkF m 170 #[.val (.int p1), .val (.int p2), .val (.int (Int32.ofNat j.val)), .val (.double (mnF j.val)), .second, .val (.int (Int32.ofNat (j.val / 4))), .val (.int (6 : Int32)), .val (.ref ob), .val (.int (5 : Int32)), .val (.double (FP.ddiv (FP.ddiv (FP.dmul (WF j.val 5) (mnF j.val)) (FP.i2d ((5 : Int32) + (1 : Int32)))) (FP.dsub FP.dconst1 (FP.ddiv (mnF j.val) (FP.i2d ((5 : Int32) + (2 : Int32))))))), .second, .val (.double (WF j.val 6)), .second, .val (.double (WF j.val 7)), .second, .val (.double d162), .second] [(.double FP.dconst1), (.double (WF j.val 6)), (.double (FP.ddiv (FP.ddiv (FP.dmul (WF j.val 5) (mnF j.val)) (FP.i2d ((5 : Int32) + (1 : Int32)))) (FP.dsub FP.dconst1 (FP.ddiv (mnF j.val) (FP.i2d ((5 : Int32) + (2 : Int32)))))))])) _
        refine XS.dload X294.here hx rfl (hb hby at_170) rfl ?_
        show Steps p.tables e below (T294.setTop (mkF m 172 #[.val (.int p1), .val (.int p2), .val (.int (Int32.ofNat j.val)), .val (.double (mnF j.val)), .second, .val (.int (Int32.ofNat (j.val / 4))), .val (.int (6 : Int32)), .val (.ref ob), .val (.int (5 : Int32)), .val (.double (FP.ddiv (FP.ddiv (FP.dmul (WF j.val 5) (mnF j.val)) (FP.i2d ((5 : Int32) + (1 : Int32)))) (FP.dsub FP.dconst1 (FP.ddiv (mnF j.val) (FP.i2d ((5 : Int32) + (2 : Int32))))))), .second, .val (.double (WF j.val 6)), .second, .val (.double (WF j.val 7)), .second, .val (.double d162), .second] [(.double d162), (.double FP.dconst1), (.double (WF j.val 6)), (.double (FP.ddiv (FP.ddiv (FP.dmul (WF j.val 5) (mnF j.val)) (FP.i2d ((5 : Int32) + (1 : Int32)))) (FP.dsub FP.dconst1 (FP.ddiv (mnF j.val) (FP.i2d ((5 : Int32) + (2 : Int32)))))))])) _
        refine XS.dsubS X294.here hx rfl (hb hby at_172) rfl n172 hd172 ?_
        show Steps p.tables e below (T294.setTop (mkF m 173 #[.val (.int p1), .val (.int p2), .val (.int (Int32.ofNat j.val)), .val (.double (mnF j.val)), .second, .val (.int (Int32.ofNat (j.val / 4))), .val (.int (6 : Int32)), .val (.ref ob), .val (.int (5 : Int32)), .val (.double (FP.ddiv (FP.ddiv (FP.dmul (WF j.val 5) (mnF j.val)) (FP.i2d ((5 : Int32) + (1 : Int32)))) (FP.dsub FP.dconst1 (FP.ddiv (mnF j.val) (FP.i2d ((5 : Int32) + (2 : Int32))))))), .second, .val (.double (WF j.val 6)), .second, .val (.double (WF j.val 7)), .second, .val (.double d162), .second] [(.double d172), (.double (WF j.val 6)), (.double (FP.ddiv (FP.ddiv (FP.dmul (WF j.val 5) (mnF j.val)) (FP.i2d ((5 : Int32) + (1 : Int32)))) (FP.dsub FP.dconst1 (FP.ddiv (mnF j.val) (FP.i2d ((5 : Int32) + (2 : Int32)))))))])) _
        refine XS.ddivS X294.here hx rfl (hb hby at_173) rfl n173 hd173 ?_
        show Steps p.tables e below (T294.setTop (mkF m 174 #[.val (.int p1), .val (.int p2), .val (.int (Int32.ofNat j.val)), .val (.double (mnF j.val)), .second, .val (.int (Int32.ofNat (j.val / 4))), .val (.int (6 : Int32)), .val (.ref ob), .val (.int (5 : Int32)), .val (.double (FP.ddiv (FP.ddiv (FP.dmul (WF j.val 5) (mnF j.val)) (FP.i2d ((5 : Int32) + (1 : Int32)))) (FP.dsub FP.dconst1 (FP.ddiv (mnF j.val) (FP.i2d ((5 : Int32) + (2 : Int32))))))), .second, .val (.double (WF j.val 6)), .second, .val (.double (WF j.val 7)), .second, .val (.double d162), .second] [(.double d173), (.double (FP.ddiv (FP.ddiv (FP.dmul (WF j.val 5) (mnF j.val)) (FP.i2d ((5 : Int32) + (1 : Int32)))) (FP.dsub FP.dconst1 (FP.ddiv (mnF j.val) (FP.i2d ((5 : Int32) + (2 : Int32)))))))])) _
        refine XS.dcmpS X294.here hx rfl (hb hby at_174) rfl hk174 ?_
        show Steps p.tables e below (T294.setTop (mkF m 175 #[.val (.int p1), .val (.int p2), .val (.int (Int32.ofNat j.val)), .val (.double (mnF j.val)), .second, .val (.int (Int32.ofNat (j.val / 4))), .val (.int (6 : Int32)), .val (.ref ob), .val (.int (5 : Int32)), .val (.double (FP.ddiv (FP.ddiv (FP.dmul (WF j.val 5) (mnF j.val)) (FP.i2d ((5 : Int32) + (1 : Int32)))) (FP.dsub FP.dconst1 (FP.ddiv (mnF j.val) (FP.i2d ((5 : Int32) + (2 : Int32))))))), .second, .val (.double (WF j.val 6)), .second, .val (.double (WF j.val 7)), .second, .val (.double d162), .second] [(.int k174)])) _
        refine XS.ifNo X294.here hx rfl (hb hby at_175) rfl (XT.i0_ne_f e174) ?_
        show Steps p.tables e below (T294.setTop (mkF m 178 #[.val (.int p1), .val (.int p2), .val (.int (Int32.ofNat j.val)), .val (.double (mnF j.val)), .second, .val (.int (Int32.ofNat (j.val / 4))), .val (.int (6 : Int32)), .val (.ref ob), .val (.int (5 : Int32)), .val (.double (FP.ddiv (FP.ddiv (FP.dmul (WF j.val 5) (mnF j.val)) (FP.i2d ((5 : Int32) + (1 : Int32)))) (FP.dsub FP.dconst1 (FP.ddiv (mnF j.val) (FP.i2d ((5 : Int32) + (2 : Int32))))))), .second, .val (.double (WF j.val 6)), .second, .val (.double (WF j.val 7)), .second, .val (.double d162), .second] [])) _
        refine XS.dload X294.here hx rfl (hb hby at_178) rfl ?_
        show Steps p.tables e below (T294.setTop (mkF m 180 #[.val (.int p1), .val (.int p2), .val (.int (Int32.ofNat j.val)), .val (.double (mnF j.val)), .second, .val (.int (Int32.ofNat (j.val / 4))), .val (.int (6 : Int32)), .val (.ref ob), .val (.int (5 : Int32)), .val (.double (FP.ddiv (FP.ddiv (FP.dmul (WF j.val 5) (mnF j.val)) (FP.i2d ((5 : Int32) + (1 : Int32)))) (FP.dsub FP.dconst1 (FP.ddiv (mnF j.val) (FP.i2d ((5 : Int32) + (2 : Int32))))))), .second, .val (.double (WF j.val 6)), .second, .val (.double (WF j.val 7)), .second, .val (.double d162), .second] [(.double (FP.ddiv (FP.ddiv (FP.dmul (WF j.val 5) (mnF j.val)) (FP.i2d ((5 : Int32) + (1 : Int32)))) (FP.dsub FP.dconst1 (FP.ddiv (mnF j.val) (FP.i2d ((5 : Int32) + (2 : Int32)))))))])) _
        refine XS.dload X294.here hx rfl (hb hby at_180) rfl ?_
        show Steps p.tables e below (T294.setTop (mkF m 182 #[.val (.int p1), .val (.int p2), .val (.int (Int32.ofNat j.val)), .val (.double (mnF j.val)), .second, .val (.int (Int32.ofNat (j.val / 4))), .val (.int (6 : Int32)), .val (.ref ob), .val (.int (5 : Int32)), .val (.double (FP.ddiv (FP.ddiv (FP.dmul (WF j.val 5) (mnF j.val)) (FP.i2d ((5 : Int32) + (1 : Int32)))) (FP.dsub FP.dconst1 (FP.ddiv (mnF j.val) (FP.i2d ((5 : Int32) + (2 : Int32))))))), .second, .val (.double (WF j.val 6)), .second, .val (.double (WF j.val 7)), .second, .val (.double d162), .second] [(.double (WF j.val 6)), (.double (FP.ddiv (FP.ddiv (FP.dmul (WF j.val 5) (mnF j.val)) (FP.i2d ((5 : Int32) + (1 : Int32)))) (FP.dsub FP.dconst1 (FP.ddiv (mnF j.val) (FP.i2d ((5 : Int32) + (2 : Int32)))))))])) _
        refine XS.dload X294.here hx rfl (hb hby at_182) rfl ?_
        show Steps p.tables e below (T294.setTop (mkF m 184 #[.val (.int p1), .val (.int p2), .val (.int (Int32.ofNat j.val)), .val (.double (mnF j.val)), .second, .val (.int (Int32.ofNat (j.val / 4))), .val (.int (6 : Int32)), .val (.ref ob), .val (.int (5 : Int32)), .val (.double (FP.ddiv (FP.ddiv (FP.dmul (WF j.val 5) (mnF j.val)) (FP.i2d ((5 : Int32) + (1 : Int32)))) (FP.dsub FP.dconst1 (FP.ddiv (mnF j.val) (FP.i2d ((5 : Int32) + (2 : Int32))))))), .second, .val (.double (WF j.val 6)), .second, .val (.double (WF j.val 7)), .second, .val (.double d162), .second] [(.double (WF j.val 7)), (.double (WF j.val 6)), (.double (FP.ddiv (FP.ddiv (FP.dmul (WF j.val 5) (mnF j.val)) (FP.i2d ((5 : Int32) + (1 : Int32)))) (FP.dsub FP.dconst1 (FP.ddiv (mnF j.val) (FP.i2d ((5 : Int32) + (2 : Int32)))))))])) _
        refine XS.daddS X294.here hx rfl (hb hby at_184) rfl (nn_of l5) hd184 ?_
        show Steps p.tables e below (T294.setTop (mkF m 185 #[.val (.int p1), .val (.int p2), .val (.int (Int32.ofNat j.val)), .val (.double (mnF j.val)), .second, .val (.int (Int32.ofNat (j.val / 4))), .val (.int (6 : Int32)), .val (.ref ob), .val (.int (5 : Int32)), .val (.double (FP.ddiv (FP.ddiv (FP.dmul (WF j.val 5) (mnF j.val)) (FP.i2d ((5 : Int32) + (1 : Int32)))) (FP.dsub FP.dconst1 (FP.ddiv (mnF j.val) (FP.i2d ((5 : Int32) + (2 : Int32))))))), .second, .val (.double (WF j.val 6)), .second, .val (.double (WF j.val 7)), .second, .val (.double d162), .second] [(.double d184), (.double (FP.ddiv (FP.ddiv (FP.dmul (WF j.val 5) (mnF j.val)) (FP.i2d ((5 : Int32) + (1 : Int32)))) (FP.dsub FP.dconst1 (FP.ddiv (mnF j.val) (FP.i2d ((5 : Int32) + (2 : Int32)))))))])) _
        refine XS.dcmpS X294.here hx rfl (hb hby at_185) rfl hk185 ?_
        show Steps p.tables e below (T294.setTop (mkF m 186 #[.val (.int p1), .val (.int p2), .val (.int (Int32.ofNat j.val)), .val (.double (mnF j.val)), .second, .val (.int (Int32.ofNat (j.val / 4))), .val (.int (6 : Int32)), .val (.ref ob), .val (.int (5 : Int32)), .val (.double (FP.ddiv (FP.ddiv (FP.dmul (WF j.val 5) (mnF j.val)) (FP.i2d ((5 : Int32) + (1 : Int32)))) (FP.dsub FP.dconst1 (FP.ddiv (mnF j.val) (FP.i2d ((5 : Int32) + (2 : Int32))))))), .second, .val (.double (WF j.val 6)), .second, .val (.double (WF j.val 7)), .second, .val (.double d162), .second] [(.int k185)])) _
        refine XS.ifNo X294.here hx rfl (hb hby at_186) rfl (XT.i0_lt_f e185) ?_
        show Steps p.tables e below (T294.setTop (mkF m 189 #[.val (.int p1), .val (.int p2), .val (.int (Int32.ofNat j.val)), .val (.double (mnF j.val)), .second, .val (.int (Int32.ofNat (j.val / 4))), .val (.int (6 : Int32)), .val (.ref ob), .val (.int (5 : Int32)), .val (.double (FP.ddiv (FP.ddiv (FP.dmul (WF j.val 5) (mnF j.val)) (FP.i2d ((5 : Int32) + (1 : Int32)))) (FP.dsub FP.dconst1 (FP.ddiv (mnF j.val) (FP.i2d ((5 : Int32) + (2 : Int32))))))), .second, .val (.double (WF j.val 6)), .second, .val (.double (WF j.val 7)), .second, .val (.double d162), .second] [])) _
        refine XS.iconst X294.here hx rfl (hb hby at_189) ?_
        show Steps p.tables e below (T294.setTop (mkF m 190 #[.val (.int p1), .val (.int p2), .val (.int (Int32.ofNat j.val)), .val (.double (mnF j.val)), .second, .val (.int (Int32.ofNat (j.val / 4))), .val (.int (6 : Int32)), .val (.ref ob), .val (.int (5 : Int32)), .val (.double (FP.ddiv (FP.ddiv (FP.dmul (WF j.val 5) (mnF j.val)) (FP.i2d ((5 : Int32) + (1 : Int32)))) (FP.dsub FP.dconst1 (FP.ddiv (mnF j.val) (FP.i2d ((5 : Int32) + (2 : Int32))))))), .second, .val (.double (WF j.val 6)), .second, .val (.double (WF j.val 7)), .second, .val (.double d162), .second] [(.int (1 : Int32))])) _
        refine XS.goto X294.here hx rfl (pc0 := 190) (pc' := 194) rfl (hb hby at_190) (by decide) (by decide) ?_
        show Steps p.tables e below (T294.setTop (mkF m 194 #[.val (.int p1), .val (.int p2), .val (.int (Int32.ofNat j.val)), .val (.double (mnF j.val)), .second, .val (.int (Int32.ofNat (j.val / 4))), .val (.int (6 : Int32)), .val (.ref ob), .val (.int (5 : Int32)), .val (.double (FP.ddiv (FP.ddiv (FP.dmul (WF j.val 5) (mnF j.val)) (FP.i2d ((5 : Int32) + (1 : Int32)))) (FP.dsub FP.dconst1 (FP.ddiv (mnF j.val) (FP.i2d ((5 : Int32) + (2 : Int32))))))), .second, .val (.double (WF j.val 6)), .second, .val (.double (WF j.val 7)), .second, .val (.double d162), .second] [(.int (1 : Int32))])) _
        exact k)
      obtain ⟨fs, hr, hrun, hended, hW, hsame⟩ := X294.leave (v := (some (.int (1 : Int32)))) (fun h => by rw [Bd.returns] at h; cases h)
      refine ⟨_, _, pre0 _ (c298 _ (retN X294 hx (t := .boolean) Bd.returns (by simp) (hb hby at_194) hr)), hrun, hended, _, _, rfl, ?_, ⟨_, rfl⟩, hW, hsame.mono (by decide) (by decide)⟩
      show Q_0 Z p1 p2 h0 n0 _ T294.heap _
      exact ⟨rfl, M294⟩
set_option maxRecDepth 65536 in
set_option maxHeartbeats 40000000 in
theorem comes_1 {Post : Tables → Env → Array Value → State → Outcome → State → Prop} (hpost : ∀ tb e args s v u, (limb_1_1.after args s (.returned v) u = true ∧ limb_1_2.after args s (.returned v) u = true ∧ True) → FrameEnd s (.returned v) u (Jvm.fieldLocs frame_1_writes args s ++ Jvm.arrayLocs frame_1_arrays args s ++ Jvm.staticLocs frame_1_statics s) 16 128 → Post tb e args s (.returned v) u) :
    ArmFor flags0 classFile x code maxLocals ret World_1 tables_1 room_1 Calls_1 rest_1 Pre_1 Post := by
  intro l hfl _ _ p e ha hc hk s m args below hf hA hF happ hP
  obtain ⟨hcalls, hrest, hpre⟩ := hP
  obtain ⟨-, -, -, hnamed, -, -, -, hat⟩ := (Spec.applies_iff hf).mp happ
  obtain ⟨hg, hn⟩ := and_e (Cond.before_iff.mp (show (Jvm.Cond.and given_1 narrow_1).before args s = true from hpre))
  obtain ⟨g0, r0⟩ := and_e hg
  obtain ⟨g1, r1⟩ := and_e r0
  obtain ⟨w0, w1, rfl⟩ : ∃ w0 w1 : Value, args = #[w0, w1] := by
    have hs : args.size = 2 := by simpa [Cond.value, given_1] using g0
    obtain ⟨L⟩ := args
    match L, hs with
    | [w0, w1], _ => exact ⟨w0, w1, rfl⟩
  have hw := fun d (hd : d ∈ tables_1) => atoms_spec (ws := Jvm.Cond.code x code maxLocals ret :: tables_1) hat d (List.mem_cons_of_mem _ hd)
  obtain ⟨i0, e0⟩ := is_v g1
  obtain rfl : w0 = (.int i0) := Option.some.inj e0
  obtain ⟨i1, e1⟩ := is_v r1
  obtain rfl : w1 = (.int i1) := Option.some.inj e1
  obtain ⟨n, o, h1, h2, h3, _, L, rfl, ⟨rfl, N⟩, hq⟩ := rm_0 l s _ hw tables_1 i0 i1 s.heap s.heap.size (Nat.le_refl _)  p e ha hc hk s m _ below hf ((Spec.applies_iff_loose hf).mp happ).1 ⟨rfl, State.Warmed39.refl s, rfl⟩ trivial
  refine ⟨n, _, h1, h2, h3, hpost _ _ _ _ _ _ ⟨Cond.after_iff.mpr rfl, Cond.after_iff.mpr (eq_i res_at (Term.int_eval (1)) rfl), trivial⟩ ⟨hq.1, hq.2.1, (hq.2.2.sift fun y hy => Or.inr (N y hy)).mono (by decide) (by decide)⟩⟩
theorem main_1_1 : Claimed_1_1 := comes_1 fun _ _ _ _ _ _ h hF => ⟨h.1, hF⟩
theorem main_1_2 : Claimed_1_2 := comes_1 fun _ _ _ _ _ _ h hF => ⟨h.2.1, hF⟩
end Jvm.Pilot.@@N@@
namespace Jvm.Pilot.@@N@@
open Jvm Jvm.ClassFile Sem Op Lib Jvm.Free Jvm.Stand Jvm.Pilot.@@N@@.Jvm.D
/-! MADE BY PROGRAM (witnessworld.py) out of the Statement's table words and the real class files: 11 classes; the members and pool entries that the words name. The judged class is class 1, her method 1. -/
namespace start1
open Jvm.ClassFile
def u (s : String) : CpInfo := .utf8 (stringToUtf16 s)
/-- a pool by its gaps: so many unusable entries, then the entry; so many at the end -/
def gap : Nat → List CpInfo → List CpInfo
  | 0, r => r
  | n + 1, r => .unusable :: gap n r
def poolList (es : List (Nat × CpInfo)) (last : Nat) : List CpInfo := es.foldr (fun e r => gap e.1 (e.2 :: r)) (gap last [])
def pool (es : List (Nat × CpInfo)) (last : Nat) : Array CpInfo := ⟨poolList es last⟩
def fileOf (pool : Array CpInfo) (this : Nat) (attrs : Array Attribute := #[]) (ms : Array MethodInfo := #[]) (fl : Nat := 33) (sup : Nat := 0) (ifs : Array Nat := #[]) (fds : Array FieldInfo := #[]) : ClassFile where
  minorVersion := 0
  majorVersion := 65
  constantPool := pool
  accessFlags := fl
  thisClass := this
  superClass := sup
  interfaces := ifs
  fields := fds
  methods := ms
  attributes := attrs
def plain (name : String) (sup : Option ClassId) : Class where
  name := name
  kind := .ordinary
  loader := none
  accessFlags := 33
  super := sup
  interfaces := #[]
  cf := none
  fields := #[]
  methods := #[]
  instanceTypes := #[]
  staticTypes := #[]
  resolved := #[]
  callSites := []
  init := .initialized
  statics := none
  mirror := none

def pool0 : Array CpInfo := pool [(5, u "<init>"), (0, u "()V"), (1, .class_ 10), (1, u "java/lang/Object")] 113

def k0c0 : Code := { maxStack := 0, maxLocals := 1, code := object_method_1_code, exceptionTable := #[], attributes := #[] }
def k0m0 : Method := { name := "<init>", desc := "()V", sig := { parameters := [], returnType := none }, accessFlags := 1, code := some k0c0 }
/-- java/lang/Object -/
def k0 : Class := { plain "java/lang/Object" none with
  accessFlags := 33
  interfaces := #[]
  cf := some (fileOf pool0 8 #[] #[{ accessFlags := 1, nameIndex := 5, descriptorIndex := 6, attributes := #[] }] 33 0 #[] #[])
  fields := #[]
  methods := #[k0m0]
  instanceTypes := #[]
  staticTypes := #[]
  resolved := Array.replicate 124 none
  statics := none }

def pool1 : Array CpInfo := pool [(2, .class_ 4), (1, u "java/lang/Object"), (0, u "<init>"), (0, u "()V"), (0, .double 4616189618054758400), (1, .integer 2147483647), (0, .class_ 11), (0, u "com/example/topple/topple/markov/PoissonWeights"), (0, .methodref 10 13), (0, .nameAndType 5 14), (0, u "(D)V"), (0, .methodref 10 16), (0, .nameAndType 17 18), (0, u "next"), (0, u "()D"), (0, .methodref 10 20), (0, .nameAndType 21 18), (0, u "tail"), (2, .double 9218868437227405312), (1, .class_ 27), (0, u "com/example/topple/topple/markov/PoissonWeightsTailPinLaw"), (2, u "law"), (0, u "(II)Z")] 3

def k1m0 : Method := { name := "<init>", desc := "()V", sig := { parameters := [], returnType := none }, accessFlags := 1, code := none }
def k1c1 : Code := { maxStack := 8, maxLocals := 17, code := code, exceptionTable := #[], attributes := #[] }
def k1m1 : Method := { name := "law", desc := "(II)Z", sig := { parameters := [.int, .int], returnType := some .boolean }, accessFlags := 9, code := some k1c1 }
/-- com/example/topple/topple/markov/PoissonWeightsTailPinLaw -/
def k1 : Class := { plain "com/example/topple/topple/markov/PoissonWeightsTailPinLaw" (some 0) with
  accessFlags := 49
  interfaces := #[]
  cf := some (fileOf pool1 26 #[] #[{ accessFlags := 1, nameIndex := 5, descriptorIndex := 6, attributes := #[] }, { accessFlags := 9, nameIndex := 30, descriptorIndex := 31, attributes := #[] }] 49 2 #[] #[])
  fields := #[]
  methods := #[k1m0, k1m1]
  instanceTypes := #[]
  staticTypes := #[]
  resolved := Array.replicate 35 none
  statics := none }

def pool2 : Array CpInfo := pool [(1, .methodref 2 3), (0, .class_ 4), (0, .nameAndType 5 6), (0, u "java/lang/Object"), (0, u "<init>"), (0, u "()V"), (0, .fieldref 8 9), (0, .class_ 10), (0, .nameAndType 11 12), (0, u "com/example/topple/topple/markov/PoissonWeights"), (0, u "count"), (0, u "I"), (0, .fieldref 8 14), (0, .nameAndType 15 16), (0, u "mean"), (0, u "D"), (0, .fieldref 8 18), (0, .nameAndType 19 12), (0, u "mode"), (0, .double 118622047889322841), (1, .fieldref 8 23), (0, .nameAndType 24 12), (0, u "fewest"), (0, .fieldref 8 26), (0, .nameAndType 27 28), (0, u "toMode"), (0, u "[D"), (0, .fieldref 8 30), (0, .nameAndType 31 16), (0, u "weight"), (2, .double 9218868437227405312), (1, u "NEGLIGIBLE"), (1, u "(D)V"), (3, u "next"), (0, u "()D"), (1, u "tail")] 2

def k2c0 : Code := { maxStack := 6, maxLocals := 6, code := prog_39_method_1_code, exceptionTable := #[], attributes := #[] }
def k2m0 : Method := { name := "<init>", desc := "(D)V", sig := { parameters := [.double], returnType := none }, accessFlags := 0, code := some k2c0 }
def k2c1 : Code := { maxStack := 5, maxLocals := 1, code := prog_39_method_2_code, exceptionTable := #[], attributes := #[] }
def k2m1 : Method := { name := "next", desc := "()D", sig := { parameters := [], returnType := some .double }, accessFlags := 0, code := some k2c1 }
def k2c2 : Code := { maxStack := 8, maxLocals := 1, code := prog_39_method_4_code, exceptionTable := #[], attributes := #[] }
def k2m2 : Method := { name := "tail", desc := "()D", sig := { parameters := [], returnType := some .double }, accessFlags := 0, code := some k2c2 }
/-- com/example/topple/topple/markov/PoissonWeights -/
def k2 : Class := { plain "com/example/topple/topple/markov/PoissonWeights" (some 0) with
  accessFlags := 48
  interfaces := #[]
  cf := some (fileOf pool2 8 #[] #[{ accessFlags := 0, nameIndex := 5, descriptorIndex := 38, attributes := #[] }, { accessFlags := 0, nameIndex := 42, descriptorIndex := 43, attributes := #[] }, { accessFlags := 0, nameIndex := 45, descriptorIndex := 43, attributes := #[] }] 48 2 #[] #[{ accessFlags := 26, nameIndex := 36, descriptorIndex := 16, attributes := #[] }, { accessFlags := 18, nameIndex := 15, descriptorIndex := 16, attributes := #[] }, { accessFlags := 18, nameIndex := 19, descriptorIndex := 12, attributes := #[] }, { accessFlags := 18, nameIndex := 27, descriptorIndex := 28, attributes := #[] }, { accessFlags := 18, nameIndex := 24, descriptorIndex := 12, attributes := #[] }, { accessFlags := 2, nameIndex := 11, descriptorIndex := 12, attributes := #[] }, { accessFlags := 2, nameIndex := 31, descriptorIndex := 16, attributes := #[] }])
  fields := #[{ name := "NEGLIGIBLE", type := .double, accessFlags := 26, slot := 0, constantValue := 0 }, { name := "mean", type := .double, accessFlags := 18, slot := 0, constantValue := 0 }, { name := "mode", type := .int, accessFlags := 18, slot := 1, constantValue := 0 }, { name := "toMode", type := (.array .double), accessFlags := 18, slot := 2, constantValue := 0 }, { name := "fewest", type := .int, accessFlags := 18, slot := 3, constantValue := 0 }, { name := "count", type := .int, accessFlags := 2, slot := 4, constantValue := 0 }, { name := "weight", type := .double, accessFlags := 2, slot := 5, constantValue := 0 }]
  methods := #[k2m0, k2m1, k2m2]
  instanceTypes := #[.double, .int, (.array .double), .int, .int, .double]
  staticTypes := #[.double]
  resolved := Array.replicate 48 none
  statics := none }

def pool3 : Array CpInfo := pool [(1, u "java/lang/Cloneable"), (0, .class_ 1), (0, u "java/lang/Object"), (0, .class_ 3)] 3

/-- java/lang/Cloneable -/
def k3 : Class := { plain "java/lang/Cloneable" (some 0) with
  accessFlags := 1537
  interfaces := #[]
  cf := some (fileOf pool3 2 #[] #[] 1537 4 #[] #[])
  fields := #[]
  methods := #[]
  instanceTypes := #[]
  staticTypes := #[]
  resolved := Array.replicate 8 none
  statics := none }

def pool4 : Array CpInfo := pool [(1, u "java/io/Serializable"), (0, .class_ 1), (0, u "java/lang/Object"), (0, .class_ 3)] 3

/-- java/io/Serializable -/
def k4 : Class := { plain "java/io/Serializable" (some 0) with
  accessFlags := 1537
  interfaces := #[]
  cf := some (fileOf pool4 2 #[] #[] 1537 4 #[] #[])
  fields := #[]
  methods := #[]
  instanceTypes := #[]
  staticTypes := #[]
  resolved := Array.replicate 8 none
  statics := none }

/-- the primitive byte -/
def k5 : Class := { plain "byte" none with kind := .primitive 'B', accessFlags := 0x411 }
/-- [B -/
def k6 : Class := { plain "[B" (some 0) with kind := .array 5 .byte, interfaces := #[3, 4], accessFlags := 1041 }

/-- the primitive double -/
def k7 : Class := { plain "double" none with kind := .primitive 'D', accessFlags := 0x411 }
/-- [D -/
def k8 : Class := { plain "[D" (some 0) with kind := .array 7 .double, interfaces := #[3, 4], accessFlags := 1041 }

/-- the primitive int -/
def k9 : Class := { plain "int" none with kind := .primitive 'I', accessFlags := 0x411 }
/-- [I -/
def k10 : Class := { plain "[I" (some 0) with kind := .array 9 .int, interfaces := #[3, 4], accessFlags := 1041 }

def heap : Heap := #[]
def classes : Array Class := #[k0, k1, k2, k3, k4, k5, k6, k7, k8, k9, k10]
def interned : List (Array UInt16 × Addr) := []
def slotsUsed : Nat := 0
def theMethod : MethodId := ⟨1, 1⟩
def args0 : Array Value := #[.int 1, .int 2]
def aboutOver (below : List Frame) : State where
  vm := { classes := classes, interned := interned.toArray }
  heap := heap
  slotsUsed := slotsUsed
  threads := #[{ frames := .invoking theMethod args0 :: below }]
def below0 : List Frame := [.native { method := ⟨0, 0⟩, args := #[] }]
def about1 : State := aboutOver below0
def p0 : Program := .bare "" "" ""
def e0 : Env := launch0.env 0 0 0
theorem w_frames : about1.frames = Frame.invoking theMethod args0 :: below0 := rfl
set_option maxRecDepth 65536 in
theorem w_args : argsFit about1.vm theMethod args0 = true := by decide +kernel
set_option maxRecDepth 65536 in
theorem w_heap : heapFits about1 = true := by decide +kernel
set_option maxRecDepth 65536 in
theorem w_runnable : about1.curStatus? = some .runnable := by decide +kernel
set_option maxRecDepth 65536 in
theorem w_alone : about1.alone = true := by decide +kernel
set_option maxRecDepth 65536 in
theorem w_named : about1.methodNamed? x = some theMethod := by decide +kernel
set_option maxRecDepth 65536 in
theorem w_hears : about1.hears theMethod below0 = true := by decide +kernel
set_option maxRecDepth 65536 in
theorem w_ripe : about1.ripe theMethod args0 below0 = true := by decide +kernel
theorem w_running : about1.status = .running := rfl
set_option maxRecDepth 65536 in
theorem w_room : about1.hasRoom e0.platform room_1 = true :=
  launch0.hasRoom_least _ room_1 (by decide +kernel) (by decide +kernel) (by decide +kernel) (by decide +kernel) (by decide +kernel) (by decide +kernel)
theorem allAtoms_all (ts : List Jvm.Cond) (a : Array Jvm.Value) (st : Jvm.State) : (allAtoms ts).before a st = ts.all (fun c => c.before a st) := by
  induction ts with
  | nil => rfl
  | cons c t ih =>
    show (Jvm.Cond.and c (allAtoms t)).before a st = _
    rw [Jvm.Cond.before_and, ih, List.all_cons]
def words1 : List Jvm.Cond := Jvm.Cond.code x code maxLocals ret :: tables_1
/-- a 'code' word, met by the world's own term for the bytes: nothing is compared byte by byte -/
theorem code_word {y : MethodName} {bytes : ByteArray} {mx : Nat} {rt : Option FieldType} {a : Array Value} {s : State} {m : MethodId} {meth : Method} {c : Code} (h1 : s.methodNamed? y = some m) (h2 : s.vm.method? m = some meth) (h3 : meth.code = some c) (h4 : c.code = bytes)
    (h5 : (c.maxLocals == mx && c.exceptionTable.isEmpty && decide (c.maxStack ≤ mostOperands) && decide (meth.sig.returnType = rt) && !meth.locks && decide (parseMethodDescriptor y.desc = some meth.sig)) = true) : (Jvm.Cond.code y bytes mx rt).before a s = true := by
  simp only [Bool.and_eq_true, beq_iff_eq, Bool.not_eq_true', decide_eq_true_eq] at h5
  obtain ⟨⟨⟨⟨⟨g1, g2⟩, g3⟩, g4⟩, g5⟩, g6⟩ := h5
  simp [Cond.before, Cond.holds, Cond.value, h1, h2, h3, h4, g1, g2, g3, g4, g5, g6]
def isCode : Jvm.Cond → Bool
  | .code _ _ _ _ => true
  | _ => false
theorem all_split {L : List Jvm.Cond} {P : Jvm.Cond → Bool} (h1 : L.all (fun c => isCode c || P c) = true) (h2 : ∀ c ∈ L.filter isCode, P c = true) : L.all P = true := by
  refine List.all_eq_true.mpr fun c hc => ?_
  have h := List.all_eq_true.mp h1 c hc
  rcases Bool.eq_false_or_eq_true (isCode c) with hi | hi
  · exact h2 c (List.mem_filter.mpr ⟨hc, hi⟩)
  · simpa [hi] using h
set_option maxRecDepth 65536 in
theorem w_c0 : (Jvm.Cond.code x code maxLocals ret).before args0 about1 = true := code_word (m := ⟨1, 1⟩) (meth := k1m1) (c := k1c1) (by decide +kernel) rfl rfl rfl (by decide +kernel)
set_option maxRecDepth 65536 in
theorem w_c1 : (Jvm.Cond.code ({ cls := "com/example/topple/topple/markov/PoissonWeights", name := "<init>", desc := "(D)V" } : Jvm.MethodName) prog_39_method_1_code (6 : Nat) (Option.none : Option Jvm.ClassFile.FieldType)).before args0 about1 = true := code_word (m := ⟨2, 0⟩) (meth := k2m0) (c := k2c0) (by decide +kernel) rfl rfl rfl (by decide +kernel)
set_option maxRecDepth 65536 in
theorem w_c2 : (Jvm.Cond.code ({ cls := "java/lang/Object", name := "<init>", desc := "()V" } : Jvm.MethodName) object_method_1_code (1 : Nat) (Option.none : Option Jvm.ClassFile.FieldType)).before args0 about1 = true := code_word (m := ⟨0, 0⟩) (meth := k0m0) (c := k0c0) (by decide +kernel) rfl rfl rfl (by decide +kernel)
set_option maxRecDepth 65536 in
theorem w_c3 : (Jvm.Cond.code ({ cls := "com/example/topple/topple/markov/PoissonWeights", name := "next", desc := "()D" } : Jvm.MethodName) prog_39_method_2_code (1 : Nat) (Option.some Jvm.ClassFile.FieldType.double)).before args0 about1 = true := code_word (m := ⟨2, 1⟩) (meth := k2m1) (c := k2c1) (by decide +kernel) rfl rfl rfl (by decide +kernel)
set_option maxRecDepth 65536 in
theorem w_c4 : (Jvm.Cond.code ({ cls := "com/example/topple/topple/markov/PoissonWeights", name := "tail", desc := "()D" } : Jvm.MethodName) prog_39_method_4_code (1 : Nat) (Option.some Jvm.ClassFile.FieldType.double)).before args0 about1 = true := code_word (m := ⟨2, 2⟩) (meth := k2m2) (c := k2c2) (by decide +kernel) rfl rfl rfl (by decide +kernel)
def codes1 : List Jvm.Cond := [Jvm.Cond.code x code maxLocals ret, Jvm.Cond.code ({ cls := "com/example/topple/topple/markov/PoissonWeights", name := "<init>", desc := "(D)V" } : Jvm.MethodName) prog_39_method_1_code (6 : Nat) (Option.none : Option Jvm.ClassFile.FieldType), Jvm.Cond.code ({ cls := "java/lang/Object", name := "<init>", desc := "()V" } : Jvm.MethodName) object_method_1_code (1 : Nat) (Option.none : Option Jvm.ClassFile.FieldType), Jvm.Cond.code ({ cls := "com/example/topple/topple/markov/PoissonWeights", name := "next", desc := "()D" } : Jvm.MethodName) prog_39_method_2_code (1 : Nat) (Option.some Jvm.ClassFile.FieldType.double), Jvm.Cond.code ({ cls := "com/example/topple/topple/markov/PoissonWeights", name := "tail", desc := "()D" } : Jvm.MethodName) prog_39_method_4_code (1 : Nat) (Option.some Jvm.ClassFile.FieldType.double)]
set_option maxRecDepth 65536 in
theorem codes_eq : words1.filter isCode = codes1 := rfl
theorem w_codes : ∀ c ∈ words1.filter isCode, c.before args0 about1 = true := by
  rw [codes_eq]
  intro c hc
  simp only [codes1, List.mem_cons, List.not_mem_nil, or_false] at hc
  rcases hc with rfl | rfl | rfl | rfl | rfl
  · exact w_c0
  · exact w_c1
  · exact w_c2
  · exact w_c3
  · exact w_c4
set_option maxRecDepth 65536 in
theorem w_t1 : (words1.take 24).all (fun c => isCode c || c.before args0 about1) = true := by decide +kernel
set_option maxRecDepth 65536 in
theorem w_t2 : (words1.drop 24).all (fun c => isCode c || c.before args0 about1) = true := by decide +kernel
theorem w_tables : (allAtoms (Jvm.Cond.code x code maxLocals ret :: tables_1)).before args0 about1 = true := by
  rw [allAtoms_all]
  show words1.all (fun c => c.before args0 about1) = true
  refine all_split ?_ w_codes
  rw [← List.take_append_drop 24 words1, List.all_append, w_t1, w_t2]
  rfl
set_option maxRecDepth 65536 in
theorem w_case : (Jvm.Cond.and given_1 narrow_1).before args0 about1 = true := by decide +kernel
theorem w_applies : (headSpec (Jvm.Cond.code x code maxLocals ret :: tables_1) room_1).applies x e0.platform about1 = true :=
  (Spec.applies_iff w_frames).mpr ⟨w_running, w_runnable, w_alone, w_named, w_hears, w_ripe, w_room, w_tables⟩
theorem atStart : AtStart classFile x code maxLocals ret World_1 tables_1 room_1 Calls_1 rest_1 Pre_1 launch0 p0 e0 about1 theMethod args0 below0 :=
  ⟨lists_1, trivial, launch0.admits_env _ _ _, launch0.least_env, fairChoices_fair.cas, fairChoices_fair.clock, w_frames, w_args, w_heap, w_applies, trivial, trivial, w_case⟩
end start1
theorem witness_1 : WitnessClaimed_1 := ⟨start1.p0, start1.e0, start1.about1, start1.theMethod, start1.args0, start1.below0, start1.atStart⟩
end Jvm.Pilot.@@N@@
