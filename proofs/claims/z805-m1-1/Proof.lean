import JvmDerived
import JvmDerived.Pilot.@@N@@Statement
import JvmDerived.Pilot.@@N@@Code
set_option linter.unusedVariables false
set_option linter.unusedSimpArgs false
@@BLOCK:NumsL.lean.txt@@
namespace Jvm.RoadKit
open Sem ClassFile Op Lib Jvm.Stand Jvm.Free Jvm.LawKit
section New
variable {p : Program} {l : Launch} {e : Env} {R : Room} {s : State} {m : MethodId} {args : Array Value} {below : List Frame} {meth : Method} {c : Code} {T : State} {locs : List Loc} {cells slots : Nat}
theorem retI (X : Stand p l e R s m args below meth c T locs cells slots) (hx : p.tables.exec = Jvm.exec) {pc : Nat} {Ls : Array Slot} {z : Int32} {rest : List Value} (hret : meth.sig.returnType = some .int) (hd : decode c.code pc = .ok (.ireturn, 1)) {fs : List Frame}
    (hl : ∀ (f : JFrame) (acts : List Action), f.method = m → f.locked = none → f.entered = [] → (doReturn e (T.setTop f) acts (some (.int z))).1 = T.setFrames fs) : Steps p.tables e below (T.setTop (mkF m pc Ls (.int z :: rest))) (T.setFrames fs) := by
  have hm' : T.vm.method? m = some meth := X.method'
  have hn : narrow .int (.int z) = .int z := rfl
  show Steps p.tables e below (T.setTop { method := m, pc := pc, locals := Ls, stack := _ :: rest, locked := none }) _
  jvm_step X.here [X.here.top, hx, hd, hm', hret, hn]
  first | (intro acts; rw [hl _ acts rfl rfl rfl]) | rw [hl _ _ rfl rfl rfl]
  exact Steps.refl _
end New
end Jvm.RoadKit
namespace Jvm.OwnFP
open Jvm.FP
/-- a double's value in units of 2^-1074 -/
def zv (a : UInt64) : Int := Core.zval Core.b64 (Core.val64 a)
/-- how many units make one -/
def U : Int := (Core.one64 : Int)
theorem U_pos : 0 < U := by have := Core.one64_pos; unfold U; omega
theorem U_pow (k : Nat) (h : k ≤ 1074) : U = 2 ^ (1074 - k) * 2 ^ k := by
  have e : (2 : Int) ^ (1074 - k) * 2 ^ k = 2 ^ 1074 := by rw [← Int.pow_add]; congr 1; omega
  rw [e]; unfold U Core.one64; rw [Int.natCast_pow]; rfl
theorem pow_pos (k : Nat) : (0 : Int) < 2 ^ k := Int.pow_pos (by decide)
theorem notNan {a : UInt64} (h : Core.DFin a) : Core.val64 a ≠ .nan := by obtain ⟨s, c, q, h⟩ := h; rw [h]; exact Core.Datum.noConfusion
theorem fin_parts {a : UInt64} (h : Core.DFin a) : ∃ (s : Bool) (c i : Nat), Core.val64 a = .fin s c ((i : Int) - 1074) ∧ Core.fits Core.b64 (.fin s c ((i : Int) - 1074)) ∧ zv a = Core.signed s (c * 2 ^ i) := by
  obtain ⟨s, c, q, h⟩ := h
  have hf := Core.val64_fits a
  rw [h] at hf
  have hq : -1074 ≤ q := by have := hf.2.1; rw [Core.qmin_b64] at this; exact this
  obtain ⟨i, hi⟩ : ∃ i : Nat, q = (i : Int) - 1074 := ⟨(q + 1074).toNat, by omega⟩
  subst hi
  refine ⟨s, c, i, h, hf, ?_⟩
  unfold zv Core.zval; rw [h]
  show Core.signed s (c * 2 ^ ((i : Int) - 1074 - Core.b64.qmin).toNat) = _
  rw [Core.qmin_b64, show ((i : Int) - 1074 - -1074).toNat = i by omega]
/-- rounding a quotient is monotone: at most a number of the format -/
theorem ratio_le {s : Bool} {A B : Nat} {e e0 : Int} {V : Core.Datum} (hB : 0 < B) (hV : Core.fits Core.b64 V) (hn : V ≠ .nan) (h0 : e0 ≤ Core.b64.qmin) (h0e : e0 ≤ e)
    (h : Core.signed s (Core.inUnits A e e0) ≤ Core.zval Core.b64 V * ((2 ^ (Core.b64.qmin - e0).toNat * B : Nat) : Int)) :
    Core.zval Core.b64 (Core.roundRatio Core.b64 s A B e) ≤ Core.zval Core.b64 V := by
  have hle := Core.zmag_roundRatio_le Core.good_b64 (s := s) (A := A) hB hV hn h0 h0e
  have hge := Core.zmag_roundRatio_ge Core.good_b64 (s := s) (A := A) hB hV h0 h0e
  have hP : 0 < 2 ^ (Core.b64.qmin - e0).toNat * B := Nat.mul_pos (Nat.two_pow_pos _) hB
  rw [Nat.mul_assoc] at hle hge
  unfold Core.zval at h ⊢
  rw [Core.sgn_roundRatio]
  rw [← Core.signed_mul] at h
  have hz : Core.zmag Core.b64 V * (2 ^ (Core.b64.qmin - e0).toNat * B) = 0 → Core.zmag Core.b64 V = 0 := fun q => by
    rcases Nat.mul_eq_zero.mp q with q | q
    · exact q
    · omega
  generalize Core.zmag Core.b64 V * (2 ^ (Core.b64.qmin - e0).toNat * B) = vP at *
  generalize Core.sgn V = t at *
  generalize Core.zmag Core.b64 V = z at *
  generalize Core.zmag Core.b64 (Core.roundRatio Core.b64 s A B e) = r at *
  generalize Core.inUnits A e e0 = x at *
  cases s <;> cases t <;> simp only [Core.signed, if_true, Bool.false_eq_true, if_false] at h ⊢
  · have := hle (by omega); omega
  · have := hle (by omega); have := hz (by omega); omega
  · omega
  · have := hge (by omega); omega
theorem ratio_ge {s : Bool} {A B : Nat} {e e0 : Int} {V : Core.Datum} (hB : 0 < B) (hV : Core.fits Core.b64 V) (hn : V ≠ .nan) (h0 : e0 ≤ Core.b64.qmin) (h0e : e0 ≤ e)
    (h : Core.zval Core.b64 V * ((2 ^ (Core.b64.qmin - e0).toNat * B : Nat) : Int) ≤ Core.signed s (Core.inUnits A e e0)) :
    Core.zval Core.b64 V ≤ Core.zval Core.b64 (Core.roundRatio Core.b64 s A B e) := by
  have h1 := ratio_le (s := !s) (V := Core.negate V) hB (Core.negate_fits hV) (Core.negate_ne_nan hn) h0 h0e (by
    rw [Core.zval_negate, Int.neg_mul, Core.signed_not]; exact Int.neg_le_neg h)
  rw [Core.zval_negate, ← Core.negate_roundRatio, Core.zval_negate] at h1
  omega
theorem signed_pos_parts {t : Bool} {n : Nat} (h : 0 < Core.signed t n) : t = false ∧ 0 < n := by
  cases t <;> simp [Core.signed] at h ⊢ <;> omega
/-- the quotient as a rounded ratio -/
theorem ddiv_parts {a b : UInt64} (ha : Core.DFin a) (hb : Core.DFin b) (pb : 0 < zv b) :
    ∃ (s : Bool) (c d i j : Nat), zv a = Core.signed s (c * 2 ^ i) ∧ zv b = ((d * 2 ^ j : Nat) : Int) ∧ 0 < d ∧ Core.val64 (FP.ddiv a b) = Core.roundRatio Core.b64 s c d ((i : Int) - (j : Int)) := by
  obtain ⟨s, c, i, h1, f1, z1⟩ := fin_parts ha
  obtain ⟨t, d, j, h2, f2, z2⟩ := fin_parts hb
  rw [z2] at pb
  obtain ⟨rfl, hd⟩ := signed_pos_parts pb
  have hd' : 0 < d := Nat.pos_of_mul_pos_right hd
  refine ⟨s, c, d, i, j, z1, z2, hd', ?_⟩
  show Core.val64 (Core.ddiv a b) = _
  rw [Core.val64_ddiv, h1, h2]
  show (if d = 0 then _ else Core.roundRatio Core.b64 (s != false) c d ((i : Int) - 1074 - ((j : Int) - 1074))) = _
  rw [if_neg (by omega), show ((i : Int) - 1074 - ((j : Int) - 1074)) = (i : Int) - j by omega]
  cases s <;> rfl
theorem div_key {s : Bool} {c d i j : Nat} : Core.signed s (Core.inUnits c ((i : Int) - j) (-1074 - (j : Int))) = Core.signed s (c * 2 ^ i) * U ∧ ((2 ^ (Core.b64.qmin - (-1074 - (j : Int))).toNat * d : Nat) : Int) = ((d * 2 ^ j : Nat) : Int) := by
  constructor
  · unfold Core.inUnits
    rw [show ((i : Int) - j - (-1074 - (j : Int))).toNat = i + 1074 by omega, Nat.pow_add, ← Nat.mul_assoc, Core.signed_mul]
    rfl
  · rw [Core.qmin_b64, show (-1074 - (-1074 - (j : Int))).toNat = j by omega, Nat.mul_comm]
theorem ddiv_le {a b V : UInt64} (ha : Core.DFin a) (hb : Core.DFin b) (pb : 0 < zv b) (hV : Core.val64 V ≠ .nan) (h : zv a * U ≤ zv V * zv b) : zv (FP.ddiv a b) ≤ zv V := by
  obtain ⟨s, c, d, i, j, z1, z2, hd, hr⟩ := ddiv_parts ha hb pb
  have e : zv (FP.ddiv a b) = Core.zval Core.b64 (Core.roundRatio Core.b64 s c d ((i : Int) - (j : Int))) := by unfold zv; rw [hr]
  rw [e]
  refine ratio_le (e0 := -1074 - (j : Int)) hd (Core.val64_fits V) hV (by rw [Core.qmin_b64]; omega) (by omega) ?_
  rw [(div_key (d := d)).1, (div_key (s := s) (c := c) (i := i)).2, ← z1, ← z2]; exact h
theorem ddiv_ge {a b V : UInt64} (ha : Core.DFin a) (hb : Core.DFin b) (pb : 0 < zv b) (hV : Core.val64 V ≠ .nan) (h : zv V * zv b ≤ zv a * U) : zv V ≤ zv (FP.ddiv a b) := by
  obtain ⟨s, c, d, i, j, z1, z2, hd, hr⟩ := ddiv_parts ha hb pb
  have e : zv (FP.ddiv a b) = Core.zval Core.b64 (Core.roundRatio Core.b64 s c d ((i : Int) - (j : Int))) := by unfold zv; rw [hr]
  rw [e]
  refine ratio_ge (e0 := -1074 - (j : Int)) hd (Core.val64_fits V) hV (by rw [Core.qmin_b64]; omega) (by omega) ?_
  rw [(div_key (d := d)).1, (div_key (s := s) (c := c) (i := i)).2, ← z1, ← z2]; exact h
theorem ddiv_nn {a b : UInt64} (ha : Core.DFin a) (hb : Core.DFin b) (pb : 0 < zv b) : Core.val64 (FP.ddiv a b) ≠ .nan := by
  obtain ⟨s, c, d, i, j, z1, z2, hd, hr⟩ := ddiv_parts ha hb pb
  rw [hr]; exact Core.roundRatio_ne_nan _ _ _ _ _
/-- two quotients of one value -/
theorem ddiv_congr {a b a' b' : UInt64} (ha : Core.DFin a) (hb : Core.DFin b) (pb : 0 < zv b) (ha' : Core.DFin a') (hb' : Core.DFin b') (pb' : 0 < zv b') (hs : Core.sgn (Core.val64 a) = Core.sgn (Core.val64 a')) (h : zv a * zv b' = zv a' * zv b) : FP.ddiv a b = FP.ddiv a' b' := by
  obtain ⟨s, c, i, h1, f1, z1⟩ := fin_parts ha
  obtain ⟨s', c', i', h1', f1', z1'⟩ := fin_parts ha'
  obtain ⟨t, d, j, h2, f2, z2⟩ := fin_parts hb
  obtain ⟨t', d', j', h2', f2', z2'⟩ := fin_parts hb'
  rw [z2] at pb; rw [z2'] at pb'
  obtain ⟨rfl, hd⟩ := signed_pos_parts pb
  obtain ⟨rfl, hd'⟩ := signed_pos_parts pb'
  have hd1 : 0 < d := Nat.pos_of_mul_pos_right hd
  have hd1' : 0 < d' := Nat.pos_of_mul_pos_right hd'
  have es : s = s' := by rw [h1, h1'] at hs; exact hs
  subst es
  show Core.of64 (Core.quotient Core.b64 (Core.val64 a) (Core.val64 b)) = Core.of64 (Core.quotient Core.b64 (Core.val64 a') (Core.val64 b'))
  congr 1
  rw [h1, h2, h1', h2']
  show (if d = 0 then _ else Core.roundRatio Core.b64 (s != false) c d ((i : Int) - 1074 - ((j : Int) - 1074))) = (if d' = 0 then _ else Core.roundRatio Core.b64 (s != false) c' d' ((i' : Int) - 1074 - ((j' : Int) - 1074)))
  rw [if_neg (by omega), if_neg (by omega)]
  apply Core.roundRatio_congr hd1 hd1'
  have hn : (c * 2 ^ i) * (d' * 2 ^ j') = (c' * 2 ^ i') * (d * 2 ^ j) := by
    rw [z1, z1', z2, z2'] at h
    have : ∀ n : Nat, Core.signed false n = (n : Int) := fun _ => rfl
    rw [this, this, ← Core.signed_mul, ← Core.signed_mul] at h
    have := congrArg Int.natAbs h
    rwa [Core.natAbs_signed, Core.natAbs_signed] at this
  generalize hE : (i : Int) - 1074 - ((j : Int) - 1074) = E
  generalize hE' : (i' : Int) - 1074 - ((j' : Int) - 1074) = E'
  have k1 : c * d' * 2 ^ (i + j') = c' * d * 2 ^ (i' + j) := by
    rw [Nat.pow_add, Nat.pow_add]
    calc c * d' * (2 ^ i * 2 ^ j') = (c * 2 ^ i) * (d' * 2 ^ j') := by ac_rfl
      _ = (c' * 2 ^ i') * (d * 2 ^ j) := hn
      _ = c' * d * (2 ^ i' * 2 ^ j) := by ac_rfl
  by_cases hle : i' + j ≤ i + j'
  · have e1 : (E - E').toNat = i + j' - (i' + j) := by omega
    have e2 : (E' - E).toNat = 0 := by omega
    rw [e1, e2]
    have : 2 ^ (i + j') = 2 ^ (i + j' - (i' + j)) * 2 ^ (i' + j) := by rw [← Nat.pow_add]; congr 1; omega
    rw [this, ← Nat.mul_assoc] at k1
    simpa using Nat.eq_of_mul_eq_mul_right (Nat.two_pow_pos _) k1
  · have e1 : (E - E').toNat = 0 := by omega
    have e2 : (E' - E).toNat = i' + j - (i + j') := by omega
    rw [e1, e2]
    have : 2 ^ (i' + j) = 2 ^ (i' + j - (i + j')) * 2 ^ (i + j') := by rw [← Nat.pow_add]; congr 1; omega
    rw [this, ← Nat.mul_assoc] at k1
    simpa using Nat.eq_of_mul_eq_mul_right (Nat.two_pow_pos _) k1
theorem dmul_parts {a b : UInt64} (ha : Core.DFin a) (hb : Core.DFin b) :
    ∃ (s : Bool) (n : Nat) (e : Int), Core.val64 (FP.dmul a b) = Core.round Core.b64 (.fin s n e) ∧ -2148 ≤ e ∧ Core.signed s (Core.inUnits n e (-2148)) = zv a * zv b := by
  obtain ⟨s, c, i, h1, f1, z1⟩ := fin_parts ha
  obtain ⟨t, d, j, h2, f2, z2⟩ := fin_parts hb
  obtain ⟨p1, p2, p3⟩ := Core.product_units f1 f2
  refine ⟨s != t, c * d, (i : Int) - 1074 + ((j : Int) - 1074), ?_, by omega, ?_⟩
  · show Core.val64 (Core.dmul a b) = _
    rw [Core.val64_dmul, h1, h2, p1]
  · rw [z1, z2]
    unfold Core.inUnits
    rw [show ((i : Int) - 1074 + ((j : Int) - 1074) - (-2148)).toNat = i + j by omega, Nat.pow_add,
      show c * d * (2 ^ i * 2 ^ j) = (c * 2 ^ i) * (d * 2 ^ j) by ac_rfl, Core.signed_xor]
theorem mul_key : ((2 ^ (Core.b64.qmin - (-2148 : Int)).toNat : Nat) : Int) = U := by
  rw [Core.qmin_b64]; rfl
theorem dmul_le {a b V : UInt64} (ha : Core.DFin a) (hb : Core.DFin b) (hV : Core.val64 V ≠ .nan) (h : zv a * zv b ≤ zv V * U) : zv (FP.dmul a b) ≤ zv V := by
  obtain ⟨s, n, e, h1, h2, h3⟩ := dmul_parts ha hb
  have e1 : zv (FP.dmul a b) = Core.zval Core.b64 (Core.round Core.b64 (.fin s n e)) := by unfold zv; rw [h1]
  rw [e1]
  refine Core.zval_round_le Core.good_b64 (e0 := -2148) (Core.val64_fits V) hV (by rw [Core.qmin_b64]; decide) h2 ?_
  rw [h3, mul_key]; exact h
theorem dmul_ge {a b V : UInt64} (ha : Core.DFin a) (hb : Core.DFin b) (hV : Core.val64 V ≠ .nan) (h : zv V * U ≤ zv a * zv b) : zv V ≤ zv (FP.dmul a b) := by
  obtain ⟨s, n, e, h1, h2, h3⟩ := dmul_parts ha hb
  have e1 : zv (FP.dmul a b) = Core.zval Core.b64 (Core.round Core.b64 (.fin s n e)) := by unfold zv; rw [h1]
  rw [e1]
  refine Core.zval_round_ge Core.good_b64 (e0 := -2148) (Core.val64_fits V) hV (by rw [Core.qmin_b64]; decide) h2 ?_
  rw [h3, mul_key]; exact h
theorem dmul_nn {a b : UInt64} (ha : Core.DFin a) (hb : Core.DFin b) : Core.val64 (FP.dmul a b) ≠ .nan := by
  obtain ⟨s, n, e, h1, h2, h3⟩ := dmul_parts ha hb
  rw [h1]; exact Core.roundRatio_ne_nan _ _ _ _ _
theorem dadd_le {a b V : UInt64} (ha : Core.DFin a) (hb : Core.DFin b) (hV : Core.val64 V ≠ .nan) (h : zv a + zv b ≤ zv V) : zv (FP.dadd a b) ≤ zv V := by
  have := Core.sum_le Core.good_b64 ha hb (Core.val64_fits a) (Core.val64_fits b) (Core.val64_fits V) hV h
  unfold zv; show Core.zval Core.b64 (Core.val64 (Core.dadd a b)) ≤ _
  rw [Core.val64_dadd]; exact this
theorem dadd_ge {a b V : UInt64} (ha : Core.DFin a) (hb : Core.DFin b) (hV : Core.val64 V ≠ .nan) (h : zv V ≤ zv a + zv b) : zv V ≤ zv (FP.dadd a b) := by
  have := Core.sum_ge Core.good_b64 ha hb (Core.val64_fits a) (Core.val64_fits b) (Core.val64_fits V) hV h
  unfold zv; show _ ≤ Core.zval Core.b64 (Core.val64 (Core.dadd a b))
  rw [Core.val64_dadd]; exact this
theorem dadd_nn {a b : UInt64} (ha : Core.DFin a) (hb : Core.DFin b) : Core.val64 (FP.dadd a b) ≠ .nan := by
  have := Core.dadd_out (notNaN_of ha) hb
  exact (Core.notNaN_iff _).mp this
where notNaN_of {a : UInt64} (h : Core.DFin a) : Core.dIsNaN a = false := (Core.notNaN_iff a).mpr (notNan h)
theorem zv_dneg (a : UInt64) : zv (FP.dneg a) = - zv a := by
  unfold zv; rw [FP.val64_dneg, Core.zval_negate]
theorem fin_dneg {a : UInt64} (h : Core.DFin a) : Core.DFin (FP.dneg a) := by
  obtain ⟨s, c, q, h⟩ := h
  refine ⟨!s, c, q, ?_⟩
  rw [FP.val64_dneg, h]; rfl
theorem dsub_dadd {a b : UInt64} (hb : Core.DFin b) : FP.dsub a b = FP.dadd a (FP.dneg b) := by
  have h1 : FP.dneg b = Core.dneg b := FP.dneg_core ((Core.notNaN_iff b).mpr (notNan hb))
  rw [h1]; exact Core.dsub_eq a b
theorem dsub_le {a b V : UInt64} (ha : Core.DFin a) (hb : Core.DFin b) (hV : Core.val64 V ≠ .nan) (h : zv a - zv b ≤ zv V) : zv (FP.dsub a b) ≤ zv V := by
  rw [dsub_dadd hb]; exact dadd_le ha (fin_dneg hb) hV (by rw [zv_dneg]; omega)
theorem dsub_ge {a b V : UInt64} (ha : Core.DFin a) (hb : Core.DFin b) (hV : Core.val64 V ≠ .nan) (h : zv V ≤ zv a - zv b) : zv V ≤ zv (FP.dsub a b) := by
  rw [dsub_dadd hb]; exact dadd_ge ha (fin_dneg hb) hV (by rw [zv_dneg]; omega)
theorem dsub_nn {a b : UInt64} (ha : Core.DFin a) (hb : Core.DFin b) : Core.val64 (FP.dsub a b) ≠ .nan := by
  rw [dsub_dadd hb]; exact dadd_nn ha (fin_dneg hb)
/-- finite, if it lies between two finite ones -/
theorem fin_between {a V W : UInt64} (n : Core.val64 a ≠ .nan) (hV : Core.DFin V) (hW : Core.DFin W) (h1 : zv V ≤ zv a) (h2 : zv a ≤ zv W) : Core.DFin a := by
  have hv := hV.zval_lt; have hw := hW.zval_lt
  unfold zv Core.zval at h1 h2
  cases e : Core.val64 a with
  | nan => exact absurd e n
  | fin s c q => exact ⟨s, c, q, e⟩
  | inf s =>
    exfalso
    rw [e] at h1 h2
    have t : Core.zmag Core.b64 (.inf s) = Core.b64.tails * 2 ^ (Core.b64.exps - 2) := rfl
    rw [t] at h1 h2
    generalize Core.b64.tails * 2 ^ (Core.b64.exps - 2) = top at *
    generalize Core.zmag Core.b64 (Core.val64 V) = v at *
    generalize Core.zmag Core.b64 (Core.val64 W) = w at *
    generalize Core.sgn (Core.val64 V) = sv at *
    generalize Core.sgn (Core.val64 W) = sw at *
    cases s <;> cases sv <;> cases sw <;> simp [Core.signed, Core.sgn] at h1 h2 <;> omega
theorem signed_of (n : Int) : Core.signed (decide (n < 0)) n.natAbs = n := by
  unfold Core.signed
  by_cases q : n < 0
  · simp [q]; omega
  · simp [q]; omega
/-- n * 2^E units are a double -/
theorem repE (n : Int) (E : Nat) (hn : n.natAbs < 2 ^ 53) (hE : E ≤ 2045) : ∃ V, Core.DFin V ∧ zv V = n * 2 ^ E := by
  have hq : Core.b64.qmax = 971 := by decide
  obtain ⟨c', q', h1, h2⟩ := Core.round_exact Core.good_b64 (decide (n < 0)) (c := n.natAbs) (q := (E : Int) - 1074) hn (by rw [Core.qmin_b64]; omega) (by rw [hq]; omega)
  have h3 : Core.val64 (Core.of64 (Core.round Core.b64 (.fin (decide (n < 0)) n.natAbs ((E : Int) - 1074)))) = .fin (decide (n < 0)) c' q' := by
    rw [Core.val64_of64 (Core.round_fits Core.good_b64 _), h1]
  refine ⟨_, ⟨_, _, _, h3⟩, ?_⟩
  unfold zv Core.zval
  rw [h3]
  show Core.signed (decide (n < 0)) (Core.inUnits c' q' Core.b64.qmin) = _
  rw [h2]
  unfold Core.inUnits
  rw [Core.qmin_b64, show ((E : Int) - 1074 - -1074).toNat = E by omega, Core.signed_mul, signed_of, Int.natCast_pow]
  rfl
/-- n / 2^k is a double -/
theorem rep (n : Int) (k : Nat) (hn : n.natAbs ≤ 2 ^ 53) (hk : k ≤ 1000) : ∃ V, Core.DFin V ∧ zv V * 2 ^ k = n * U := by
  by_cases h : n.natAbs < 2 ^ 53
  · obtain ⟨V, fV, zV⟩ := repE n (1074 - k) h (by omega)
    exact ⟨V, fV, by rw [zV, U_pow k (by omega), Int.mul_assoc]⟩
  · by_cases hs : n < 0
    · obtain ⟨V, fV, zV⟩ := repE (-1) (53 + (1074 - k)) (by decide) (by omega)
      exact ⟨V, fV, by rw [zV, U_pow k (by omega), show n = -1 * 2 ^ 53 by omega, Int.pow_add]; ac_rfl⟩
    · obtain ⟨V, fV, zV⟩ := repE 1 (53 + (1074 - k)) (by decide) (by omega)
      exact ⟨V, fV, by rw [zV, U_pow k (by omega), show n = 1 * 2 ^ 53 by omega, Int.pow_add]; ac_rfl⟩
/-- and so are, with the infinities, the numbers up to 2^53 * 2^E -/
theorem repI (n : Int) (E : Nat) (hn : n.natAbs ≤ 2 ^ 53) (hE : E ≤ 2045) : ∃ V, Core.val64 V ≠ .nan ∧ zv V = n * 2 ^ E := by
  by_cases h : n.natAbs < 2 ^ 53
  · obtain ⟨V, fV, zV⟩ := repE n E h hE; exact ⟨V, notNan fV, zV⟩
  · by_cases hE2 : E + 53 ≤ 2045
    · by_cases hs : n < 0
      · obtain ⟨V, fV, zV⟩ := repE (-1) (53 + E) (by decide) (by omega)
        exact ⟨V, notNan fV, by rw [zV, show n = -1 * 2 ^ 53 by omega, Int.pow_add, Int.mul_assoc]⟩
      · obtain ⟨V, fV, zV⟩ := repE 1 (53 + E) (by decide) (by omega)
        exact ⟨V, notNan fV, by rw [zV, show n = 1 * 2 ^ 53 by omega, Int.pow_add, Int.mul_assoc]⟩
    · by_cases hE3 : E = 2045
      · subst hE3
        have v1 : Core.val64 9218868437227405312 = .inf false := by decide +kernel
        have v2 : Core.val64 18442240474082181120 = .inf true := by decide +kernel
        have z1 : Core.zmag Core.b64 (.inf false) = 2 ^ 53 * 2 ^ 2045 := by decide +kernel
        by_cases hs : n < 0
        · refine ⟨18442240474082181120, by rw [v2]; exact Core.Datum.noConfusion, ?_⟩
          unfold zv Core.zval; rw [v2]
          show Core.signed true (Core.zmag Core.b64 (.inf false)) = _
          rw [z1, Core.signed_mul, show n = -2 ^ 53 by omega, Int.natCast_pow]; rfl
        · refine ⟨9218868437227405312, by rw [v1]; exact Core.Datum.noConfusion, ?_⟩
          unfold zv Core.zval; rw [v1]
          show Core.signed false (Core.zmag Core.b64 (.inf false)) = _
          rw [z1, Core.signed_mul, show n = 2 ^ 53 by omega, Int.natCast_pow]; rfl
      · by_cases hs : n < 0
        · obtain ⟨V, fV, zV⟩ := repE (-2 ^ 52) (1 + E) (by decide) (by omega)
          exact ⟨V, notNan fV, by rw [zV, show n = -2 ^ 52 * 2 ^ 1 by omega, Int.pow_add, Int.mul_assoc]⟩
        · obtain ⟨V, fV, zV⟩ := repE (2 ^ 52) (1 + E) (by decide) (by omega)
          exact ⟨V, notNan fV, by rw [zV, show n = 2 ^ 52 * 2 ^ 1 by omega, Int.pow_add, Int.mul_assoc]⟩
theorem dmul_eq {a b V : UInt64} (ha : Core.DFin a) (hb : Core.DFin b) (hV : Core.val64 V ≠ .nan) (h : zv a * zv b = zv V * U) : zv (FP.dmul a b) = zv V := by
  have := dmul_le ha hb hV (Int.le_of_eq h); have := dmul_ge ha hb hV (Int.le_of_eq h.symm); omega
/-! ## values n / 2^k -/
/-- finite, and worth n / 2^k -/
def DS (n : Int) (k : Nat) (a : UInt64) : Prop := Core.DFin a ∧ zv a * 2 ^ k = n * U
def Le (a : UInt64) (n : Int) (k : Nat) : Prop := zv a * 2 ^ k ≤ n * U
def Ge (a : UInt64) (n : Int) (k : Nat) : Prop := n * U ≤ zv a * 2 ^ k
theorem DS.le {n : Int} {k : Nat} {a : UInt64} (h : DS n k a) : Le a n k := Int.le_of_eq h.2
theorem DS.ge {n : Int} {k : Nat} {a : UInt64} (h : DS n k a) : Ge a n k := Int.le_of_eq h.2.symm
theorem DS.int {i : Int} {a : UInt64} (h : Core.DInt i a) : DS i 0 a := by
  refine ⟨?_, ?_⟩
  · unfold Core.DInt at h
    cases e : Core.val64 a with
    | nan => rw [e] at h; exact h.elim
    | inf => rw [e] at h; exact h.elim
    | fin s c q => exact ⟨s, c, q, e⟩
  · show zv a * 2 ^ 0 = i * U
    rw [Int.pow_zero, Int.mul_one]; exact Core.DInt_zval h
theorem DS.i2d (x : Int32) : DS x.toInt 0 (FP.i2d x) := DS.int (Core.i2d_int x)
theorem DS.l2d {x : Int64} (h : x.toInt.natAbs ≤ 2 ^ 53) : DS x.toInt 0 (FP.l2d x) := DS.int (Core.l2d_int h)
theorem mul_cancel {a b c : Int} (hc : 0 < c) (h : a * c = b * c) : a = b := Int.eq_of_mul_eq_mul_right (by omega) h
theorem le_cancel {a b c : Int} (hc : 0 < c) (h : a * c ≤ b * c) : a ≤ b := Int.le_of_mul_le_mul_right h hc
theorem DS.up {n : Int} {k : Nat} {a : UInt64} (h : DS n k a) (j : Nat) : DS (n * 2 ^ j) (k + j) a := ⟨h.1, by
  rw [Int.pow_add, ← Int.mul_assoc, h.2]; grind⟩
theorem Le.up {n : Int} {k : Nat} {a : UInt64} (h : Le a n k) (j : Nat) : Le a (n * 2 ^ j) (k + j) := by
  unfold Le at *
  have := Int.mul_le_mul_of_nonneg_right h (Int.le_of_lt (pow_pos j))
  rw [Int.pow_add]; grind
theorem Ge.up {n : Int} {k : Nat} {a : UInt64} (h : Ge a n k) (j : Nat) : Ge a (n * 2 ^ j) (k + j) := by
  unfold Ge at *
  have := Int.mul_le_mul_of_nonneg_right h (Int.le_of_lt (pow_pos j))
  rw [Int.pow_add]; grind
/-- what lies between two bounds n / 2^k is finite -/
theorem fin_of {a : UInt64} {n m : Int} {k j : Nat} (nn : Core.val64 a ≠ .nan) (h1 : Ge a n k) (h2 : Le a m j) (bn : n.natAbs ≤ 2 ^ 53) (bm : m.natAbs ≤ 2 ^ 53) (hk : k ≤ 1000) (hj : j ≤ 1000) : Core.DFin a := by
  obtain ⟨V, fV, zV⟩ := rep n k bn hk
  obtain ⟨W, fW, zW⟩ := rep m j bm hj
  refine fin_between nn fV fW ?_ ?_
  · exact le_cancel (pow_pos k) (by unfold Ge at h1; omega)
  · exact le_cancel (pow_pos j) (by unfold Le at h2; omega)
theorem DS.of {a : UInt64} {n : Int} {k : Nat} (nn : Core.val64 a ≠ .nan) (h1 : Ge a n k) (h2 : Le a n k) (bn : n.natAbs ≤ 2 ^ 53) (hk : k ≤ 1000) : DS n k a :=
  ⟨fin_of nn h1 h2 bn bn hk hk, by unfold Ge at h1; unfold Le at h2; omega⟩
/-! the operations against bounds -/
theorem add_Le {a b : UInt64} {n m q : Int} {k : Nat} (fa : Core.DFin a) (fb : Core.DFin b) (ha : Le a n k) (hb : Le b m k) (h : n + m ≤ q) (bq : q.natAbs ≤ 2 ^ 53) (hk : k ≤ 1000) : Le (FP.dadd a b) q k := by
  obtain ⟨V, fV, zV⟩ := rep q k bq hk
  have h1 : zv (FP.dadd a b) ≤ zv V := dadd_le fa fb (notNan fV) (le_cancel (pow_pos k) (by
    unfold Le at ha hb
    rw [Int.add_mul, zV]
    have := Int.mul_le_mul_of_nonneg_right h (Int.le_of_lt U_pos)
    rw [Int.add_mul] at this; omega))
  unfold Le; rw [← zV]; exact Int.mul_le_mul_of_nonneg_right h1 (Int.le_of_lt (pow_pos k))
theorem add_Ge {a b : UInt64} {n m q : Int} {k : Nat} (fa : Core.DFin a) (fb : Core.DFin b) (ha : Ge a n k) (hb : Ge b m k) (h : q ≤ n + m) (bq : q.natAbs ≤ 2 ^ 53) (hk : k ≤ 1000) : Ge (FP.dadd a b) q k := by
  obtain ⟨V, fV, zV⟩ := rep q k bq hk
  have h1 : zv V ≤ zv (FP.dadd a b) := dadd_ge fa fb (notNan fV) (le_cancel (pow_pos k) (by
    unfold Ge at ha hb
    rw [Int.add_mul, zV]
    have := Int.mul_le_mul_of_nonneg_right h (Int.le_of_lt U_pos)
    rw [Int.add_mul] at this; omega))
  unfold Ge; rw [← zV]; exact Int.mul_le_mul_of_nonneg_right h1 (Int.le_of_lt (pow_pos k))
theorem DS.add {a b : UInt64} {n m : Int} {k : Nat} (ha : DS n k a) (hb : DS m k b) (bq : (n + m).natAbs ≤ 2 ^ 53) (hk : k ≤ 1000) : DS (n + m) k (FP.dadd a b) :=
  DS.of (dadd_nn ha.1 hb.1) (add_Ge ha.1 hb.1 ha.ge hb.ge (Int.le_refl _) bq hk) (add_Le ha.1 hb.1 ha.le hb.le (Int.le_refl _) bq hk) bq hk
theorem DS.neg {a : UInt64} {n : Int} {k : Nat} (ha : DS n k a) : DS (-n) k (FP.dneg a) := ⟨fin_dneg ha.1, by rw [zv_dneg, Int.neg_mul, ha.2, Int.neg_mul]⟩
theorem DS.sub {a b : UInt64} {n m : Int} {k : Nat} (ha : DS n k a) (hb : DS m k b) (bq : (n - m).natAbs ≤ 2 ^ 53) (hk : k ≤ 1000) : DS (n - m) k (FP.dsub a b) := by
  rw [dsub_dadd hb.1, show n - m = n + -m by omega]; exact ha.add hb.neg (by rw [← Int.sub_eq_add_neg]; exact bq) hk
theorem DS.mul {a b : UInt64} {n m : Int} {k j : Nat} (ha : DS n k a) (hb : DS m j b) (bq : (n * m).natAbs ≤ 2 ^ 53) (hk : k + j ≤ 1000) : DS (n * m) (k + j) (FP.dmul a b) := by
  obtain ⟨V, fV, zV⟩ := rep (n * m) (k + j) bq hk
  have e : zv a * zv b = zv V * U := by
    have h1 := ha.2; have h2 := hb.2
    refine mul_cancel (pow_pos (k + j)) ?_
    calc zv a * zv b * 2 ^ (k + j) = (zv a * 2 ^ k) * (zv b * 2 ^ j) := by rw [Int.pow_add]; grind
      _ = (n * U) * (m * U) := by rw [h1, h2]
      _ = (n * m * U) * U := by grind
      _ = zv V * U * 2 ^ (k + j) := by rw [← zV]; grind
  have g1 := dmul_le ha.1 hb.1 (notNan fV) (Int.le_of_eq e)
  have g2 := dmul_ge ha.1 hb.1 (notNan fV) (Int.le_of_eq e.symm)
  have g : zv (FP.dmul a b) = zv V := by omega
  exact ⟨fin_between (dmul_nn ha.1 hb.1) fV fV (by omega) (by omega), by rw [g, zV]⟩
theorem DS.pos {b : UInt64} {m : Int} {j : Nat} (hb : DS m j b) (hm : 0 < m) : 0 < zv b := by
  have h1 : 0 < zv b * 2 ^ j := by rw [hb.2]; exact Int.mul_pos hm U_pos
  exact Int.pos_of_mul_pos_left h1 (pow_pos j)
/-- a quotient against a bound q / 2^l -/
theorem div_Le {a b : UInt64} {n m q : Int} {k j l : Nat} (ha : DS n k a) (hb : DS m j b) (hm : 0 < m) (h : n * 2 ^ j * 2 ^ l ≤ q * m * 2 ^ k) (bq : q.natAbs ≤ 2 ^ 53) (hl : l ≤ 1000) : Le (FP.ddiv a b) q l := by
  obtain ⟨V, fV, zV⟩ := rep q l bq hl
  have h1 : zv (FP.ddiv a b) ≤ zv V := ddiv_le ha.1 hb.1 (hb.pos hm) (notNan fV) (by
    refine le_cancel (pow_pos (k + j + l)) ?_
    have e1 : zv a * U * 2 ^ (k + j + l) = (n * 2 ^ j * 2 ^ l) * (U * U) := by
      calc zv a * U * 2 ^ (k + j + l) = (zv a * 2 ^ k) * U * 2 ^ j * 2 ^ l := by rw [Int.pow_add, Int.pow_add]; grind
        _ = _ := by rw [ha.2]; grind
    have e2 : zv V * zv b * 2 ^ (k + j + l) = (q * m * 2 ^ k) * (U * U) := by
      calc zv V * zv b * 2 ^ (k + j + l) = (zv V * 2 ^ l) * (zv b * 2 ^ j) * 2 ^ k := by rw [Int.pow_add, Int.pow_add]; grind
        _ = _ := by rw [zV, hb.2]; grind
    rw [e1, e2]
    exact Int.mul_le_mul_of_nonneg_right h (Int.le_of_lt (Int.mul_pos U_pos U_pos)))
  unfold Le; rw [← zV]; exact Int.mul_le_mul_of_nonneg_right h1 (Int.le_of_lt (pow_pos l))
theorem div_Ge {a b : UInt64} {n m q : Int} {k j l : Nat} (ha : DS n k a) (hb : DS m j b) (hm : 0 < m) (h : q * m * 2 ^ k ≤ n * 2 ^ j * 2 ^ l) (bq : q.natAbs ≤ 2 ^ 53) (hl : l ≤ 1000) : Ge (FP.ddiv a b) q l := by
  obtain ⟨V, fV, zV⟩ := rep q l bq hl
  have h1 : zv V ≤ zv (FP.ddiv a b) := ddiv_ge ha.1 hb.1 (hb.pos hm) (notNan fV) (by
    refine le_cancel (pow_pos (k + j + l)) ?_
    have e1 : zv a * U * 2 ^ (k + j + l) = (n * 2 ^ j * 2 ^ l) * (U * U) := by
      calc zv a * U * 2 ^ (k + j + l) = (zv a * 2 ^ k) * U * 2 ^ j * 2 ^ l := by rw [Int.pow_add, Int.pow_add]; grind
        _ = _ := by rw [ha.2]; grind
    have e2 : zv V * zv b * 2 ^ (k + j + l) = (q * m * 2 ^ k) * (U * U) := by
      calc zv V * zv b * 2 ^ (k + j + l) = (zv V * 2 ^ l) * (zv b * 2 ^ j) * 2 ^ k := by rw [Int.pow_add, Int.pow_add]; grind
        _ = _ := by rw [zV, hb.2]; grind
    rw [e1, e2]
    exact Int.mul_le_mul_of_nonneg_right h (Int.le_of_lt (Int.mul_pos U_pos U_pos)))
  unfold Ge; rw [← zV]; exact Int.mul_le_mul_of_nonneg_right h1 (Int.le_of_lt (pow_pos l))
theorem DS.div {a b : UInt64} {n m q : Int} {k j l : Nat} (ha : DS n k a) (hb : DS m j b) (hm : 0 < m) (h : n * 2 ^ j * 2 ^ l = q * m * 2 ^ k) (bq : q.natAbs ≤ 2 ^ 53) (hl : l ≤ 1000) : DS q l (FP.ddiv a b) :=
  DS.of (ddiv_nn ha.1 hb.1 (hb.pos hm)) (div_Ge ha hb hm (Int.le_of_eq h.symm) bq hl) (div_Le ha hb hm (Int.le_of_eq h) bq hl) bq hl
/-! comparisons -/
theorem cmp_zv {a b : UInt64} (ha : Core.val64 a ≠ .nan) (hb : Core.val64 b ≠ .nan) : FP.dcmp a b = some (compare (zv a) (zv b)) := Core.dcmp_zval ha hb
theorem cmpV_of {a b : UInt64} (ha : Core.val64 a ≠ .nan) (hb : Core.val64 b ≠ .nan) (o : ClassFile.CmpOp) : Op.cmpValue (FP.dcmp a b) o = if zv a < zv b then -1 else if zv a = zv b then 0 else 1 := by
  rw [cmp_zv ha hb, Core.compare_ite]
  split
  · rfl
  · split <;> rfl
theorem cmp_gt {a b : UInt64} (ha : Core.val64 a ≠ .nan) (hb : Core.val64 b ≠ .nan) (h : zv b < zv a) (o : ClassFile.CmpOp) : Op.cmpValue (FP.dcmp a b) o = 1 := by
  rw [cmpV_of ha hb, if_neg (by omega), if_neg (by omega)]
theorem cmp_lt {a b : UInt64} (ha : Core.val64 a ≠ .nan) (hb : Core.val64 b ≠ .nan) (h : zv a < zv b) (o : ClassFile.CmpOp) : Op.cmpValue (FP.dcmp a b) o = -1 := by
  rw [cmpV_of ha hb, if_pos h]
theorem cmp_eq {a b : UInt64} (ha : Core.val64 a ≠ .nan) (hb : Core.val64 b ≠ .nan) (h : zv a = zv b) (o : ClassFile.CmpOp) : Op.cmpValue (FP.dcmp a b) o = 0 := by
  rw [cmpV_of ha hb, if_neg (by omega), if_pos h]
theorem zv_zero : zv FP.dconst0 = 0 := Core.zval64_zero
theorem cmp_neg {a b : UInt64} {k : Int32} {o : ClassFile.CmpOp} (h : Op.cmpValue (FP.dcmp a b) o = k) (ha : Core.val64 a ≠ .nan) (hb : Core.val64 b ≠ .nan) : k < 0 ↔ zv a < zv b := by
  rw [← h, cmpV_of ha hb]; split
  · exact ⟨fun _ => by assumption, fun _ => by decide⟩
  · split
    · exact ⟨fun h => absurd h (by decide), fun h => absurd h (by assumption)⟩
    · exact ⟨fun h => absurd h (by decide), fun h => absurd h (by assumption)⟩
theorem cmp_pos {a b : UInt64} {k : Int32} {o : ClassFile.CmpOp} (h : Op.cmpValue (FP.dcmp a b) o = k) (ha : Core.val64 a ≠ .nan) (hb : Core.val64 b ≠ .nan) : 0 < k ↔ zv b < zv a := by
  rw [← h, cmpV_of ha hb]; split
  · exact ⟨fun h => absurd h (by decide), fun h => by omega⟩
  · split
    · exact ⟨fun h => absurd h (by decide), fun h => by omega⟩
    · exact ⟨fun h => by omega, fun _ => by decide⟩
theorem cmp_nul {a b : UInt64} {k : Int32} {o : ClassFile.CmpOp} (h : Op.cmpValue (FP.dcmp a b) o = k) (ha : Core.val64 a ≠ .nan) (hb : Core.val64 b ≠ .nan) : k = 0 ↔ zv a = zv b := by
  rw [← h, cmpV_of ha hb]; split
  · exact ⟨fun h => absurd h (by decide), fun h => by omega⟩
  · split
    · exact ⟨fun _ => by assumption, fun _ => rfl⟩
    · exact ⟨fun h => absurd h (by decide), fun h => by omega⟩
theorem lt_of {a b : UInt64} {n m : Int} {k : Nat} (h1 : Le a n k) (h2 : Ge b m k) (h : n < m) : zv a < zv b := by
  unfold Le at h1; unfold Ge at h2
  have : n * U < m * U := Int.mul_lt_mul_of_pos_right h U_pos
  exact Int.lt_of_mul_lt_mul_right (a := 2 ^ k) (by omega) (Int.le_of_lt (pow_pos k))
theorem le_of {a b : UInt64} {n m : Int} {k : Nat} (h1 : Le a n k) (h2 : Ge b m k) (h : n ≤ m) : zv a ≤ zv b := by
  unfold Le at h1; unfold Ge at h2
  have : n * U ≤ m * U := Int.mul_le_mul_of_nonneg_right h (Int.le_of_lt U_pos)
  exact Int.le_of_mul_le_mul_right (a := 2 ^ k) (by omega) (pow_pos k)
theorem DS.cmp {a b : UInt64} {n m : Int} {k : Nat} (ha : DS n k a) (hb : DS m k b) (o : ClassFile.CmpOp) : Op.cmpValue (FP.dcmp a b) o = if n < m then -1 else if n = m then 0 else 1 := by
  rw [cmpV_of (notNan ha.1) (notNan hb.1)]
  by_cases h1 : n < m
  · rw [if_pos h1, if_pos (lt_of ha.le hb.ge h1)]
  · by_cases h2 : n = m
    · have e : zv a = zv b := by
        subst h2; have := le_of ha.le hb.ge (Int.le_refl _); have := le_of hb.le ha.ge (Int.le_refl _); omega
      rw [if_neg h1, if_pos h2, if_neg (by omega), if_pos e]
    · have := lt_of hb.le ha.ge (show m < n by omega)
      rw [if_neg h1, if_neg h2, if_neg (by omega), if_neg (by omega)]
theorem DS.zero : DS 0 0 FP.dconst0 := ⟨⟨false, 0, _, Core.val64_dconst0⟩, by
  have : zv FP.dconst0 = 0 := Core.zval64_zero
  rw [this]; simp⟩
theorem DS.one : DS 1 0 FP.dconst1 := DS.int Core.dint_one
theorem zv_one : zv FP.dconst1 = U := by have := DS.one.2; rwa [Int.pow_zero, Int.mul_one, Int.one_mul] at this
theorem DS.noNaN {n : Int} {k : Nat} {a : UInt64} (h : DS n k a) : Jvm.Free.Fl.NoNaN64 a := (Jvm.Free.Fl.fin64_core.mpr h.1).noNaN
theorem noNaN_of {a : UInt64} (h : Core.val64 a ≠ .nan) : Jvm.Free.Fl.NoNaN64 a := Jvm.Free.Fl.noNaN64_no.mpr ((Core.notNaN_iff a).mpr h)
end Jvm.OwnFP
namespace Jvm.OwnFP
open Jvm.FP
theorem sgn_pos {a : UInt64} (h : 0 < zv a) : Core.sgn (Core.val64 a) = false := by
  unfold zv Core.zval at h
  cases e : Core.sgn (Core.val64 a) with
  | false => rfl
  | true => rw [e] at h; simp only [Core.signed, if_true] at h; omega
/-- one quotient by two roads -/
theorem DS.div_same {a a' b b' : UInt64} {n d : Int} {k j : Nat} (ha : DS n k a) (ha' : DS n k a') (hb : DS d j b) (hb' : DS d j b') (hn : 0 < n) (hd : 0 < d) : FP.ddiv a b = FP.ddiv a' b' := by
  have e1 : zv a = zv a' := mul_cancel (pow_pos k) (by rw [ha.2, ha'.2])
  have e2 : zv b = zv b' := mul_cancel (pow_pos j) (by rw [hb.2, hb'.2])
  refine ddiv_congr ha.1 hb.1 (hb.pos hd) ha'.1 hb'.1 (hb'.pos hd) ?_ (by rw [e1, e2])
  rw [sgn_pos (ha.pos hn), sgn_pos (ha'.pos hn)]
end Jvm.OwnFP
namespace Jvm.OwnFP
open Jvm.FP
theorem Le.neg {a : UInt64} {n : Int} {k : Nat} (h : Le a n k) : Ge (FP.dneg a) (-n) k := by unfold Le at h; unfold Ge; rw [zv_dneg, Int.neg_mul, Int.neg_mul]; omega
theorem Ge.neg {a : UInt64} {n : Int} {k : Nat} (h : Ge a n k) : Le (FP.dneg a) (-n) k := by unfold Ge at h; unfold Le; rw [zv_dneg, Int.neg_mul, Int.neg_mul]; omega
theorem sub_Le {a b : UInt64} {n m q : Int} {k : Nat} (fa : Core.DFin a) (fb : Core.DFin b) (ha : Le a n k) (hb : Ge b m k) (h : n - m ≤ q) (bq : q.natAbs ≤ 2 ^ 53) (hk : k ≤ 1000) : Le (FP.dsub a b) q k := by
  rw [dsub_dadd fb]; exact add_Le fa (fin_dneg fb) ha hb.neg (by omega) bq hk
theorem sub_Ge {a b : UInt64} {n m q : Int} {k : Nat} (fa : Core.DFin a) (fb : Core.DFin b) (ha : Ge a n k) (hb : Le b m k) (h : q ≤ n - m) (bq : q.natAbs ≤ 2 ^ 53) (hk : k ≤ 1000) : Ge (FP.dsub a b) q k := by
  rw [dsub_dadd fb]; exact add_Ge fa (fin_dneg fb) ha hb.neg (by omega) bq hk
/-- one quotient at two scales -/
theorem DS.div_scale {a a' b b' : UInt64} {n d : Int} {k k' : Nat} (ha : DS n k a) (ha' : DS n k' a') (hb : DS d k b) (hb' : DS d k' b') (hn : 0 < n) (hd : 0 < d) : FP.ddiv a b = FP.ddiv a' b' := by
  refine ddiv_congr ha.1 hb.1 (hb.pos hd) ha'.1 hb'.1 (hb'.pos hd) ?_ ?_
  · rw [sgn_pos (ha.pos hn), sgn_pos (ha'.pos hn)]
  · refine mul_cancel (pow_pos (k + k')) ?_
    calc zv a * zv b' * 2 ^ (k + k') = (zv a * 2 ^ k) * (zv b' * 2 ^ k') := by rw [Int.pow_add]; ac_rfl
      _ = (zv a' * 2 ^ k') * (zv b * 2 ^ k) := by rw [ha.2, hb'.2, ha'.2, hb.2]
      _ = zv a' * zv b * 2 ^ (k + k') := by rw [Int.pow_add]; ac_rfl
end Jvm.OwnFP
namespace Jvm.OwnFP
open Jvm.FP
theorem repF (n : Int) (E : Nat) (hn : n.natAbs ≤ 2 ^ 53) (hE : E ≤ 2044) : ∃ V, Core.DFin V ∧ zv V = n * 2 ^ E := by
  by_cases h : n.natAbs < 2 ^ 53
  · exact repE n E h (by omega)
  · by_cases hs : n < 0
    · obtain ⟨V, fV, zV⟩ := repE (-2 ^ 52) (1 + E) (by decide) (by omega)
      exact ⟨V, fV, by rw [zV, show n = -2 ^ 52 * 2 ^ 1 by omega, Int.pow_add, Int.mul_assoc]⟩
    · obtain ⟨V, fV, zV⟩ := repE (2 ^ 52) (1 + E) (by decide) (by omega)
      exact ⟨V, fV, by rw [zV, show n = 2 ^ 52 * 2 ^ 1 by omega, Int.pow_add, Int.mul_assoc]⟩
theorem natCast_pow2 (k : Nat) : ((2 ^ k : Nat) : Int) = 2 ^ k := by rw [Int.natCast_pow]; rfl
/-- a positive ratio lies between two neighbouring numbers of 53 digits -/
theorem bracket {x D : Int} (hD : 0 < D) (h1 : 2 ^ 52 * D ≤ x) (h2 : x < 2 ^ 2090 * D) : ∃ (n : Int) (E : Nat), 2 ^ 52 ≤ n ∧ n < 2 ^ 53 ∧ E ≤ 2044 ∧ n * 2 ^ E * D ≤ x ∧ x < (n + 1) * 2 ^ E * D := by
  obtain ⟨y, hy⟩ : ∃ y : Nat, x / D = (y : Int) := ⟨(x / D).toNat, by
    have := Int.ediv_nonneg (a := x) (b := D) (by have : (0 : Int) ≤ 2 ^ 52 * D := Int.mul_nonneg (by decide) (by omega)
                                                  omega) (by omega)
    omega⟩
  have y1 : (y : Int) * D ≤ x := by rw [← hy]; exact Int.ediv_mul_le _ (by omega)
  have y2 : x < ((y : Int) + 1) * D := by rw [← hy]; exact Int.lt_ediv_add_one_mul_self _ hD
  have b1 : 2 ^ 52 ≤ y := by
    have : (2 : Int) ^ 52 < (y : Int) + 1 := Int.lt_of_mul_lt_mul_right (Int.lt_of_le_of_lt h1 y2) (by omega)
    omega
  have b2 : y < 2 ^ 2090 := by
    have : (y : Int) < 2 ^ 2090 := Int.lt_of_mul_lt_mul_right (Int.lt_of_le_of_lt y1 h2) (by omega)
    rw [← natCast_pow2] at this; omega
  have l1 : 2 ^ y.log2 ≤ y := Nat.log2_self_le (by omega)
  have l2 : y < 2 ^ (y.log2 + 1) := Nat.lt_log2_self
  have l3 : 52 ≤ y.log2 := (Nat.le_log2 (by omega)).mpr b1
  have l4 : y.log2 < 2090 := (Nat.log2_lt (by omega)).mpr b2
  obtain ⟨E, hE⟩ : ∃ E, y.log2 = E + 52 := ⟨y.log2 - 52, by omega⟩
  rw [hE] at l1 l2
  have p := Nat.two_pow_pos E
  refine ⟨((y / 2 ^ E : Nat) : Int), E, ?_, ?_, by omega, ?_, ?_⟩
  · have : 2 ^ 52 ≤ y / 2 ^ E := by rw [Nat.le_div_iff_mul_le p, ← Nat.pow_add, Nat.add_comm]; exact l1
    omega
  · have : y / 2 ^ E < 2 ^ 53 := by rw [Nat.div_lt_iff_lt_mul p, ← Nat.pow_add, show 53 + E = E + 52 + 1 by omega]; exact l2
    omega
  · refine Int.le_trans (Int.mul_le_mul_of_nonneg_right ?_ (by omega)) y1
    have := Nat.div_mul_le_self y (2 ^ E)
    rw [← natCast_pow2, ← Int.natCast_mul]; omega
  · refine Int.lt_of_lt_of_le y2 (Int.mul_le_mul_of_nonneg_right ?_ (by omega))
    have : y < (y / 2 ^ E + 1) * 2 ^ E := by rw [Nat.add_mul, Nat.one_mul]; have := Nat.div_add_mod' y (2 ^ E); have := Nat.mod_lt y p; omega
    have e : (((y / 2 ^ E : Nat) : Int) + 1) * 2 ^ E = (((y / 2 ^ E + 1) * 2 ^ E : Nat) : Int) := by rw [Int.natCast_mul, natCast_pow2]; rfl
    rw [e]; omega
/-- what rounds a ratio x / D, of either sign, lies within one part in 2^52 of it -/
theorem rel_of {r X D x s : Int} (hs : s = 1 ∨ s = -1) (hX : X = s * x) (hD : 0 < D) (h1 : 2 ^ 52 * D ≤ x) (h2 : x < 2 ^ 2090 * D)
    (le : ∀ V, Core.DFin V → X ≤ zv V * D → r ≤ zv V) (ge : ∀ V, Core.DFin V → zv V * D ≤ X → zv V ≤ r) :
    ∃ r' : Int, r = s * r' ∧ r' * D * 2 ^ 52 ≤ x * (2 ^ 52 + 1) ∧ x * (2 ^ 52 - 1) ≤ r' * D * 2 ^ 52 ∧ (∃ V W, Core.DFin V ∧ Core.DFin W ∧ zv V ≤ r ∧ r ≤ zv W) := by
  obtain ⟨n, E, n1, n2, hE, k1, k2⟩ := bracket hD h1 h2
  have pE := pow_pos E
  obtain ⟨P, hP⟩ : ∃ P : Int, P = 2 ^ E * D := ⟨_, rfl⟩
  have pP : 0 < P := hP ▸ Int.mul_pos pE hD
  rw [Int.mul_assoc, ← hP] at k1 k2
  have key : ∀ r' : Int, n * 2 ^ E ≤ r' → r' ≤ (n + 1) * 2 ^ E → r' * D * 2 ^ 52 ≤ x * (2 ^ 52 + 1) ∧ x * (2 ^ 52 - 1) ≤ r' * D * 2 ^ 52 := by
    intro r' a b
    have a' : n * P ≤ r' * D := by have := Int.mul_le_mul_of_nonneg_right a (show 0 ≤ D by omega); rw [hP, ← Int.mul_assoc]; exact this
    have b' : r' * D ≤ (n + 1) * P := by have := Int.mul_le_mul_of_nonneg_right b (show 0 ≤ D by omega); rw [hP, ← Int.mul_assoc]; exact this
    have c : 2 ^ 52 * P ≤ n * P := Int.mul_le_mul_of_nonneg_right n1 (by omega)
    rw [Int.add_mul, Int.one_mul] at b' k2
    rw [Int.mul_add, Int.mul_sub]
    generalize n * P = nP at *
    generalize r' * D = rD at *
    omega
  rcases hs with rfl | rfl
  · obtain ⟨V, fV, zV⟩ := repF n E (by omega) hE
    obtain ⟨W, fW, zW⟩ := repF (n + 1) E (by omega) hE
    rw [Int.one_mul] at hX
    have g1 : zv V ≤ r := ge V fV (by rw [zV, hX, Int.mul_assoc, ← hP]; exact k1)
    have g2 : r ≤ zv W := le W fW (by rw [zW, hX, Int.mul_assoc, ← hP]; omega)
    obtain ⟨q1, q2⟩ := key r (by rw [← zV]; exact g1) (by rw [← zW]; exact g2)
    exact ⟨r, by omega, q1, q2, V, W, fV, fW, g1, g2⟩
  · obtain ⟨V, fV, zV⟩ := repF (-n) E (by omega) hE
    obtain ⟨W, fW, zW⟩ := repF (-(n + 1)) E (by omega) hE
    have g1 : r ≤ zv V := le V fV (by rw [zV, hX, Int.mul_assoc, ← hP, Int.neg_mul n P]; omega)
    have g2 : zv W ≤ r := ge W fW (by rw [zW, hX, Int.mul_assoc, ← hP, Int.neg_mul (n + 1) P]; omega)
    rw [zV, Int.neg_mul] at g1; rw [zW, Int.neg_mul] at g2
    obtain ⟨q1, q2⟩ := key (-r) (by omega) (by omega)
    exact ⟨-r, by omega, q1, q2, W, V, fW, fV, by rw [zW, Int.neg_mul]; exact g2, by rw [zV, Int.neg_mul]; exact g1⟩
/-- between two powers of two -/
def Rng (lo hi : Nat) (z : Int) : Prop := (2 : Int) ^ lo ≤ z ∧ z ≤ 2 ^ hi
theorem Rng.pos {lo hi : Nat} {z : Int} (h : Rng lo hi z) : 0 < z := Int.lt_of_lt_of_le (pow_pos lo) h.1
theorem pow_le {a b : Nat} (h : a ≤ b) : (2 : Int) ^ a ≤ 2 ^ b := by
  rw [← natCast_pow2, ← natCast_pow2]; have := Nat.pow_le_pow_right (n := 2) (by decide) h; omega
theorem Rng.mul {a b c d : Nat} {x y : Int} (h : Rng a b x) (g : Rng c d y) : Rng (a + c) (b + d) (x * y) := by
  refine ⟨?_, ?_⟩
  · rw [Int.pow_add]; exact Int.mul_le_mul h.1 g.1 (Int.le_of_lt (pow_pos c)) (Int.le_of_lt h.pos)
  · rw [Int.pow_add]; exact Int.mul_le_mul h.2 g.2 (Int.le_of_lt g.pos) (Int.le_of_lt (pow_pos b))
theorem U_is : U = 2 ^ 1074 := by have := U_pow 0 (by decide); rw [this]; simp
theorem U_rng : Rng 1074 1074 U := by rw [U_is]; exact ⟨Int.le_refl _, Int.le_refl _⟩
/-- the range of a result near x / D -/
theorem near_rng {r D x : Int} {a b c d lo hi : Nat} (hx : Rng a b x) (hD : Rng c d D) (q1 : r * D * 2 ^ 52 ≤ x * (2 ^ 52 + 1)) (q2 : x * (2 ^ 52 - 1) ≤ r * D * 2 ^ 52) (h1 : lo + d + 1 ≤ a) (h2 : b + 1 ≤ hi + c) : Rng lo hi r := by
  have px := hx.pos; have pD := hD.pos
  have u1 : r * D ≤ 2 * x := by omega
  have u2 : x ≤ 2 * (r * D) := by omega
  constructor
  · have k1 : (2 : Int) ^ lo * D * 2 ≤ x := by
      refine Int.le_trans ?_ hx.1
      have : (2 : Int) ^ lo * D * 2 ≤ 2 ^ lo * 2 ^ d * 2 := Int.mul_le_mul_of_nonneg_right (Int.mul_le_mul_of_nonneg_left hD.2 (Int.le_of_lt (pow_pos lo))) (by decide)
      refine Int.le_trans this ?_
      rw [← Int.pow_add, show (2 : Int) ^ (lo + d) * 2 = 2 ^ (lo + d + 1) by rw [Int.pow_succ]]
      exact pow_le h1
    exact le_cancel pD (by omega)
  · have k1 : 2 * x ≤ 2 ^ hi * D := by
      have : 2 * x ≤ 2 ^ (b + 1) := by rw [Int.pow_succ]; have := hx.2; omega
      refine Int.le_trans this (Int.le_trans (pow_le h2) ?_)
      rw [Int.pow_add]; exact Int.mul_le_mul_of_nonneg_left hD.1 (Int.le_of_lt (pow_pos hi))
    exact le_cancel pD (by omega)
/-- a product of two numbers of middling size -/
theorem mul_rel {a b : UInt64} {s u v : Int} {la ha lb hb : Nat} (fa : Core.DFin a) (fb : Core.DFin b) (hs : s = 1 ∨ s = -1) (za : zv a = s * u) (zb : zv b = v) (ru : Rng la ha u) (rv : Rng lb hb v) (h1 : 1200 ≤ la + lb) (h2 : ha + hb ≤ 3000) :
    ∃ r : Int, zv (FP.dmul a b) = s * r ∧ Core.DFin (FP.dmul a b) ∧ r * U * 2 ^ 52 ≤ u * v * (2 ^ 52 + 1) ∧ u * v * (2 ^ 52 - 1) ≤ r * U * 2 ^ 52 ∧ Rng (la + lb - 1075) (ha + hb - 1073) r := by
  have rx := ru.mul rv
  obtain ⟨r, e, q1, q2, V, W, fV, fW, v1, w1⟩ := rel_of (r := zv (FP.dmul a b)) (X := zv a * zv b) (D := U) (x := u * v) hs (by rw [za, zb, Int.mul_assoc]) U_pos
    (by refine Int.le_trans ?_ rx.1; rw [U_is, ← Int.pow_add]; exact pow_le (by omega))
    (by refine Int.lt_of_le_of_lt rx.2 ?_; rw [U_is, ← Int.pow_add]; refine Int.lt_of_lt_of_le (b := 2 ^ (ha + hb + 1)) ?_ (pow_le (by omega)); rw [Int.pow_succ]; have := pow_pos (ha + hb); omega)
    (fun V fV h => dmul_le fa fb (notNan fV) h) (fun V fV h => dmul_ge fa fb (notNan fV) h)
  exact ⟨r, e, fin_between (dmul_nn fa fb) fV fW v1 w1, q1, q2, near_rng rx U_rng q1 q2 (by omega) (by omega)⟩
theorem div_rel {a b : UInt64} {s u v : Int} {la ha lb hb : Nat} (fa : Core.DFin a) (fb : Core.DFin b) (hs : s = 1 ∨ s = -1) (za : zv a = s * u) (zb : zv b = v) (ru : Rng la ha u) (rv : Rng lb hb v) (h1 : hb + 60 ≤ la + 1074) (h2 : ha + 1074 ≤ lb + 2000) :
    ∃ r : Int, zv (FP.ddiv a b) = s * r ∧ Core.DFin (FP.ddiv a b) ∧ r * v * 2 ^ 52 ≤ u * U * (2 ^ 52 + 1) ∧ u * U * (2 ^ 52 - 1) ≤ r * v * 2 ^ 52 ∧ Rng (la + 1074 - hb - 1) (ha + 1074 + 1 - lb) r := by
  have rx := ru.mul U_rng
  have pb : 0 < zv b := by rw [zb]; exact rv.pos
  obtain ⟨r, e, q1, q2, V, W, fV, fW, v1, w1⟩ := rel_of (r := zv (FP.ddiv a b)) (X := zv a * U) (D := v) (x := u * U) hs (by rw [za, Int.mul_assoc]) rv.pos
    (by refine Int.le_trans (Int.mul_le_mul_of_nonneg_left rv.2 (by decide)) (Int.le_trans ?_ rx.1); rw [← Int.pow_add]; exact pow_le (by omega))
    (by refine Int.lt_of_le_of_lt rx.2 ?_; refine Int.lt_of_lt_of_le (b := 2 ^ (2090 + lb)) ?_ (by rw [Int.pow_add]; exact Int.mul_le_mul_of_nonneg_left rv.1 (Int.le_of_lt (pow_pos 2090)))
        refine Int.lt_of_lt_of_le (b := 2 ^ (ha + 1074 + 1)) ?_ (pow_le (by omega)); rw [Int.pow_succ 2 (ha + 1074)]; have := pow_pos (ha + 1074); omega)
    (fun V fV h => ddiv_le fa fb pb (notNan fV) (by rw [zb]; exact h)) (fun V fV h => ddiv_ge fa fb pb (notNan fV) (by rw [zb]; exact h))
  exact ⟨r, e, fin_between (ddiv_nn fa fb pb) fV fW v1 w1, q1, q2, near_rng rx rv q1 q2 (by omega) (by omega)⟩
end Jvm.OwnFP
namespace Jvm.Pilot.@@N@@
open Jvm Jvm.ClassFile Sem Op Lib Jvm.Free Jvm.Stand Jvm.LawKit Jvm.RoadKit Bundle Jvm.Pilot.@@N@@.Jvm.D
open Jvm.OwnFP Jvm.FP
theorem pn_com_example_rival_tongues_rivaltongues_engine_Bm25SaturatePinLaw : plainName "com/example/rival_tongues/rivaltongues/engine/Bm25SaturatePinLaw" = true := by first | (simp [plainName, overriddenIn]; done) | decide +kernel
theorem pn_com_example_rival_tongues_rivaltongues_engine_Bm25 : plainName "com/example/rival_tongues/rivaltongues/engine/Bm25" = true := by first | (simp [plainName, overriddenIn]; done) | decide +kernel
theorem pd__DDD_D : parseMethodDescriptor "(DDD)D" = some ⟨[.double, .double, .double], some .double⟩ := by decide +kernel
theorem d1_0 : decode prog_8_method_5_code 0 = .ok (.dload_n 0, 1) := by decide +kernel
theorem d1_1 : decode prog_8_method_5_code 1 = .ok (.dload_n 2, 1) := by decide +kernel
theorem d1_2 : decode prog_8_method_5_code 2 = .ok (.dmul, 1) := by decide +kernel
theorem d1_3 : decode prog_8_method_5_code 3 = .ok (.ldc2_w 46, 3) := by decide +kernel
theorem d1_6 : decode prog_8_method_5_code 6 = .ok (.dmul, 1) := by decide +kernel
theorem d1_7 : decode prog_8_method_5_code 7 = .ok (.dload_n 2, 1) := by decide +kernel
theorem d1_8 : decode prog_8_method_5_code 8 = .ok (.ldc2_w 48, 3) := by decide +kernel
theorem d1_11 : decode prog_8_method_5_code 11 = .ok (.dload 4, 2) := by decide +kernel
theorem d1_13 : decode prog_8_method_5_code 13 = .ok (.dmul, 1) := by decide +kernel
theorem d1_14 : decode prog_8_method_5_code 14 = .ok (.dadd, 1) := by decide +kernel
theorem d1_15 : decode prog_8_method_5_code 15 = .ok (.ddiv, 1) := by decide +kernel
theorem d1_16 : decode prog_8_method_5_code 16 = .ok (.dreturn, 1) := by decide +kernel
theorem ef_1 (m : MethodId) (pw : UInt64) (pf : UInt64) (pl : UInt64) (rA : UInt64) (rB : UInt64) (r1 : UInt64) (rD : UInt64) (rS : UInt64) : entryFrame m #[(.double pw), (.double pf), (.double pl)] 6 = (mkF m 0 #[.val (.double pw), .second, .val (.double pf), .second, .val (.double pl), .second] []) := by first | (simp [entryFrame, mkF, argsToLocals, Value.category]; done) | rfl
def Q_1 (Z : State) (pw : UInt64) (pf : UInt64) (pl : UInt64) (rA : UInt64) (rB : UInt64) (r1 : UInt64) (rD : UInt64) (rS : UInt64) (h0 : Heap) (n0 : Nat) (v : Option Value) (h : Heap) (L : List Loc) : Prop := v = some (.double rS) ∧ Fr n0 L ∧ h = h0
set_option maxRecDepth 65536 in
set_option maxHeartbeats 2000000 in
theorem rm_1 (l : Launch) (Z : State) (a0 : Array Value) (hw : ∀ d ∈ tables_1, d.before a0 Z = true) (ws : List Jvm.Cond) (pw : UInt64) (pf : UInt64) (pl : UInt64) (rA : UInt64) (rB : UInt64) (r1 : UInt64) (rD : UInt64) (rS : UInt64) (h0 : Heap) (n0 : Nat) (Z0 : n0 ≤ h0.size) (hA : FP.dmul pw pf = rA) (hB : FP.dmul rA (4612136378390124954 : UInt64) = rB) (h1 : FP.dmul (4608083138725491507 : UInt64) pl = r1) (hD : FP.dadd pf r1 = rD) (hS : FP.ddiv rB rD = rS) (nrA : Jvm.Free.Fl.NoNaN64 rA) (nrB : Jvm.Free.Fl.NoNaN64 rB) (nr1 : Jvm.Free.Fl.NoNaN64 r1) (nrD : Jvm.Free.Fl.NoNaN64 rD) (nrS : Jvm.Free.Fl.NoNaN64 rS) :
    MetFree l (⟨"com/example/rival_tongues/rivaltongues/engine/Bm25", "saturate", "(DDD)D"⟩ : MethodName) (head1 (Jvm.Cond.code (⟨"com/example/rival_tongues/rivaltongues/engine/Bm25", "saturate", "(DDD)D"⟩ : MethodName) prog_8_method_5_code 6 (some .double) :: ws) ({ frames := 0, cells := 0, slots := 0, locals := 0 } : Room)) (fun aa UU => aa = #[(.double pw), (.double pf), (.double pl)] ∧ Z.Warmed39 UU.vm ∧ UU.heap = h0) (fun _ _ _ _ _ => True) (fun _ UU oo UU' => ∃ v L, oo = .returned v ∧ Q_1 Z pw pf pl rA rB r1 rD rS h0 n0 v UU'.heap L ∧ FrameEnd UU oo UU' L ({ frames := 0, cells := 0, slots := 0, locals := 0 } : Room).cells ({ frames := 0, cells := 0, slots := 0, locals := 0 } : Room).slots) := by
  refine MetFree.of_bodySF (plainFor_of_name pn_com_example_rival_tongues_rivaltongues_engine_Bm25) hisR ?_
  intro p e s m args below meth c s₁ Bd hml0 hP hK
  obtain ⟨rfl, hZ, hh⟩ := hP
  have hx := Bd.exec
  have hby := Bd.bytes
  have hml : c.maxLocals = 6 := hml0
  have hown : s.vm.findClass "com/example/rival_tongues/rivaltongues/engine/Bm25" = some m.cls := findClass_of_methodNamed Bd.named
  have hnaM := (name_of_methodNamed Bd.named Bd.method).1
  have X0 : Stand p l e ({ frames := 0, cells := 0, slots := 0, locals := 0 } : Room) s m #[(.double pw), (.double pf), (.double pl)] below meth c s₁ [] 0 0 := Stand.of_body Bd
  have e0 : s₁.heap = h0 := by rw [← hh, Bd.state]; rfl
  have N0 := Fr.nil n0
  have pre0 : ∀ t, Steps p.tables e below (s₁.setTop (entryFrame m #[(.double pw), (.double pf), (.double pl)] 6)) t → Steps p.tables e below (s₁.setTop (entryFrame m #[(.double pw), (.double pf), (.double pl)] 6)) t := fun t k => k
  have c0 : ∀ t, Steps p.tables e below (s₁.setTop (mkF m 0 #[.val (.double pw), .second, .val (.double pf), .second, .val (.double pl), .second] [])) t → Steps p.tables e below (s₁.setTop (entryFrame m #[(.double pw), (.double pf), (.double pl)] 6)) t := fun t k => castTop (ef_1 m pw pf pl rA rB r1 rD rS) k
  have c1 : ∀ t, Steps p.tables e below (s₁.setTop (mkF m 16 #[.val (.double pw), .second, .val (.double pf), .second, .val (.double pl), .second] [(.double rS)])) t → Steps p.tables e below (s₁.setTop (entryFrame m #[(.double pw), (.double pf), (.double pl)] 6)) t := fun t k => c0 t (by
    show Steps p.tables e below (s₁.setTop (mkF m 0 #[.val (.double pw), .second, .val (.double pf), .second, .val (.double pl), .second] [])) _
    refine XS.dloadN X0.here hx rfl (hb hby d1_0) rfl ?_
    show Steps p.tables e below (s₁.setTop (mkF m 1 #[.val (.double pw), .second, .val (.double pf), .second, .val (.double pl), .second] [(.double pw)])) _
    refine XS.dloadN X0.here hx rfl (hb hby d1_1) rfl ?_
    show Steps p.tables e below (s₁.setTop (mkF m 2 #[.val (.double pw), .second, .val (.double pf), .second, .val (.double pl), .second] [(.double pf), (.double pw)])) _
    refine XS.dmulS X0.here hx rfl (hb hby d1_2) rfl (hA ▸ nrA) hA ?_
    show Steps p.tables e below (s₁.setTop (mkF m 3 #[.val (.double pw), .second, .val (.double pf), .second, .val (.double pl), .second] [(.double rA)])) _
    refine Jvm.Stand.ldc2DoubleC X0 hx hown (mvT hZ (hw _ (List.mem_of_getElem? (i := 8) rfl))) (g := (mkF m 3 #[.val (.double pw), .second, .val (.double pf), .second, .val (.double pl), .second] [(.double rA)])) rfl (hb hby d1_3) _ ?_
    show Steps p.tables e below (s₁.setTop (mkF m 6 #[.val (.double pw), .second, .val (.double pf), .second, .val (.double pl), .second] [(.double (4612136378390124954 : UInt64)), (.double rA)])) _
    refine XS.dmulS X0.here hx rfl (hb hby d1_6) rfl (hB ▸ nrB) hB ?_
    show Steps p.tables e below (s₁.setTop (mkF m 7 #[.val (.double pw), .second, .val (.double pf), .second, .val (.double pl), .second] [(.double rB)])) _
    refine XS.dloadN X0.here hx rfl (hb hby d1_7) rfl ?_
    show Steps p.tables e below (s₁.setTop (mkF m 8 #[.val (.double pw), .second, .val (.double pf), .second, .val (.double pl), .second] [(.double pf), (.double rB)])) _
    refine Jvm.Stand.ldc2DoubleC X0 hx hown (mvT hZ (hw _ (List.mem_of_getElem? (i := 9) rfl))) (g := (mkF m 8 #[.val (.double pw), .second, .val (.double pf), .second, .val (.double pl), .second] [(.double pf), (.double rB)])) rfl (hb hby d1_8) _ ?_
    show Steps p.tables e below (s₁.setTop (mkF m 11 #[.val (.double pw), .second, .val (.double pf), .second, .val (.double pl), .second] [(.double (4608083138725491507 : UInt64)), (.double pf), (.double rB)])) _
    refine XS.dload X0.here hx rfl (hb hby d1_11) rfl ?_
    show Steps p.tables e below (s₁.setTop (mkF m 13 #[.val (.double pw), .second, .val (.double pf), .second, .val (.double pl), .second] [(.double pl), (.double (4608083138725491507 : UInt64)), (.double pf), (.double rB)])) _
    refine XS.dmulS X0.here hx rfl (hb hby d1_13) rfl (h1 ▸ nr1) h1 ?_
    show Steps p.tables e below (s₁.setTop (mkF m 14 #[.val (.double pw), .second, .val (.double pf), .second, .val (.double pl), .second] [(.double r1), (.double pf), (.double rB)])) _
    refine XS.daddS X0.here hx rfl (hb hby d1_14) rfl (hD ▸ nrD) hD ?_
    show Steps p.tables e below (s₁.setTop (mkF m 15 #[.val (.double pw), .second, .val (.double pf), .second, .val (.double pl), .second] [(.double rD), (.double rB)])) _
    refine XS.ddivS X0.here hx rfl (hb hby d1_15) rfl (hS ▸ nrS) hS ?_
    show Steps p.tables e below (s₁.setTop (mkF m 16 #[.val (.double pw), .second, .val (.double pf), .second, .val (.double pl), .second] [(.double rS)])) _
    exact k)
  obtain ⟨fs, hr, hrun, hended, hW, hsame⟩ := X0.leave (v := (some (.double rS))) (fun h => by rw [Bd.returns] at h; cases h)
  refine ⟨_, _, pre0 _ (c1 _ (retOut X0 hx (t := .double) (i := .dreturn) Bd.returns rfl (Or.inr (Or.inr (Or.inl ⟨rfl, rfl, _, rfl⟩))) (hb hby d1_16) hr)), hrun, hended, _, _, rfl, ?_, ⟨_, rfl⟩, hW, hsame.mono (by decide) (by decide)⟩
  show Q_1 Z pw pf pl rA rB r1 rD rS h0 n0 _ s₁.heap _
  rw [e0]
  exact ⟨rfl, N0, rfl⟩
theorem z22 : Core.DFin (4612136378390124954 : UInt64) ∧ Rng 1075 1076 (zv (4612136378390124954 : UInt64)) := ⟨by rw [Core.fin_bits]; decide, by unfold Rng; decide +kernel⟩
theorem z12 : Core.DFin (4608083138725491507 : UInt64) ∧ Rng 1074 1075 (zv (4608083138725491507 : UInt64)) := ⟨by rw [Core.fin_bits]; decide, by unfold Rng; decide +kernel⟩
theorem zct : Core.DFin (4427486594234968593 : UInt64) ∧ Rng 1034 1035 (zv (4427486594234968593 : UInt64)) := ⟨by rw [Core.fin_bits]; decide, by unfold Rng; decide +kernel⟩
theorem c8 : DS 1 3 (4593671619917905920 : UInt64) := ⟨by rw [Core.fin_bits]; decide, by decide +kernel⟩
theorem c4 : DS 1 2 (4598175219545276416 : UInt64) := ⟨by rw [Core.fin_bits]; decide, by decide +kernel⟩
/-- the value of n / 2^k in units, as a range -/
theorem rng_of {n : Int} {k b : Nat} {a : UInt64} (h : DS n k a) (h1 : 1 ≤ n) (h2 : n ≤ 2 ^ b) (hk : k ≤ 1000) : Rng (1074 - k) (1074 - k + b) (zv a) := by
  have e := h.2
  rw [U_is, show (1074 : Nat) = (1074 - k) + k by omega, Int.pow_add, ← Int.mul_assoc] at e
  have e2 : zv a = n * 2 ^ (1074 - k) := mul_cancel (pow_pos k) e
  have p := pow_pos (1074 - k)
  rw [e2]
  refine ⟨?_, ?_⟩
  · have := Int.mul_le_mul_of_nonneg_right h1 (Int.le_of_lt p); omega
  · rw [Int.pow_add, Int.mul_comm]; exact Int.mul_le_mul_of_nonneg_left h2 (Int.le_of_lt p)
theorem mul_zero_r {a b : UInt64} (fa : Core.DFin a) (fb : Core.DFin b) (h : zv b = 0) : Core.DFin (FP.dmul a b) ∧ zv (FP.dmul a b) = 0 := by
  have e : zv (FP.dmul a b) = zv FP.dconst0 := dmul_eq fa fb (notNan DS.zero.1) (by rw [h, zv_zero]; simp)
  exact ⟨fin_between (dmul_nn fa fb) DS.zero.1 DS.zero.1 (by omega) (by omega), by rw [e, zv_zero]⟩
theorem mul_zero_l {a b : UInt64} (fa : Core.DFin a) (fb : Core.DFin b) (h : zv a = 0) : Core.DFin (FP.dmul a b) ∧ zv (FP.dmul a b) = 0 := by
  have e : zv (FP.dmul a b) = zv FP.dconst0 := dmul_eq fa fb (notNan DS.zero.1) (by rw [h, zv_zero]; simp)
  exact ⟨fin_between (dmul_nn fa fb) DS.zero.1 DS.zero.1 (by omega) (by omega), by rw [e, zv_zero]⟩
theorem div_zero_l {a b : UInt64} (fa : Core.DFin a) (fb : Core.DFin b) (h : zv a = 0) (pb : 0 < zv b) : Core.DFin (FP.ddiv a b) ∧ zv (FP.ddiv a b) = 0 := by
  have g1 := ddiv_le fa fb pb (notNan DS.zero.1) (by rw [h, zv_zero]; simp)
  have g2 := ddiv_ge fa fb pb (notNan DS.zero.1) (by rw [h, zv_zero]; simp)
  exact ⟨fin_between (ddiv_nn fa fb pb) DS.zero.1 DS.zero.1 (by omega) (by omega), by rw [zv_zero] at g1 g2; omega⟩
/-- the divisor -/
theorem den_k {f l : UInt64} {fi li : Int} (df : DS fi 3 f) (dl : DS li 2 l) (hf : 0 ≤ fi ∧ fi < 2 ^ 31) (hl : 1 ≤ li ∧ li ≤ 2 ^ 20) :
    Core.DFin (FP.dmul (4608083138725491507 : UInt64) l) ∧ Core.DFin (FP.dadd f (FP.dmul (4608083138725491507 : UInt64) l)) ∧ Rng 1070 1110 (zv (FP.dadd f (FP.dmul (4608083138725491507 : UInt64) l))) := by
  have rl := rng_of dl hl.1 hl.2 (by decide)
  obtain ⟨r, e, f1, -, -, rr⟩ := mul_rel (s := 1) z12.1 dl.1 (Or.inl rfl) (by rw [Int.one_mul]) rfl z12.2 rl (by decide) (by decide)
  rw [Int.one_mul] at e
  have zf : zv f * 2 ^ 3 = fi * U := df.2
  have zf0 : 0 ≤ zv f ∧ zv f ≤ 2 ^ 1105 := by
    have b : fi * U ≤ 2 ^ 31 * U := Int.mul_le_mul_of_nonneg_right (by omega) (Int.le_of_lt U_pos)
    have c : 0 ≤ fi * U := Int.mul_nonneg hf.1 (Int.le_of_lt U_pos)
    rw [U_is, ← Int.pow_add] at b
    rw [← U_is] at b
    have : (2 : Int) ^ (31 + 1074) = 2 ^ 1105 := rfl
    rw [this] at b
    generalize (2 : Int) ^ 1105 = B at *
    omega
  obtain ⟨V, fV, zV⟩ := repE 1 1070 (by decide) (by decide)
  obtain ⟨W, fW, zW⟩ := repE 1 1110 (by decide) (by decide)
  rw [Int.one_mul] at zV zW
  have k1 : (2 : Int) ^ 1070 ≤ 2 ^ 1071 := pow_le (by decide)
  have k2 : (2 : Int) ^ 1105 + 2 ^ 1094 ≤ 2 ^ 1110 := by decide +kernel
  have r1 : (2 : Int) ^ 1071 ≤ r := rr.1
  have r2 : r ≤ 2 ^ 1094 := rr.2
  have g1 := dadd_ge df.1 f1 (notNan fV) (by rw [zV, e]; generalize (2 : Int) ^ 1070 = A at *; generalize (2 : Int) ^ 1071 = B at *; omega)
  have g2 := dadd_le df.1 f1 (notNan fW) (by rw [zW, e]; generalize (2 : Int) ^ 1105 = A at *; generalize (2 : Int) ^ 1094 = B at *; generalize (2 : Int) ^ 1110 = C at *; omega)
  exact ⟨f1, fin_between (dadd_nn df.1 f1) fV fW g1 g2, by rw [zV] at g1; rw [zW] at g2; exact ⟨g1, g2⟩⟩
/-- the heart: the two products differ by less than one part in 2^48 -/
theorem heart {u v q U_ D rA rB rs rl r1 rr : Int} (hu : 0 < u) (hv : 0 < v) (hq : 0 < q) (hU : 0 < U_) (hD : 0 < D)
    (a1 : rA * U_ * 2 ^ 52 ≤ u * v * (2 ^ 52 + 1)) (a2 : u * v * (2 ^ 52 - 1) ≤ rA * U_ * 2 ^ 52)
    (b1 : rB * U_ * 2 ^ 52 ≤ rA * q * (2 ^ 52 + 1)) (b2 : rA * q * (2 ^ 52 - 1) ≤ rB * U_ * 2 ^ 52)
    (s1 : rs * D * 2 ^ 52 ≤ rB * U_ * (2 ^ 52 + 1)) (s2 : rB * U_ * (2 ^ 52 - 1) ≤ rs * D * 2 ^ 52)
    (l1 : rl * U_ * 2 ^ 52 ≤ rs * D * (2 ^ 52 + 1)) (l2 : rs * D * (2 ^ 52 - 1) ≤ rl * U_ * 2 ^ 52)
    (p1 : r1 * U_ * 2 ^ 52 ≤ u * q * (2 ^ 52 + 1)) (p2 : u * q * (2 ^ 52 - 1) ≤ r1 * U_ * 2 ^ 52)
    (t1 : rr * U_ * 2 ^ 52 ≤ r1 * v * (2 ^ 52 + 1)) (t2 : r1 * v * (2 ^ 52 - 1) ≤ rr * U_ * 2 ^ 52) (hr : 0 < rr) :
    (rl - rr) * 2 ^ 48 ≤ rr ∧ (rr - rl) * 2 ^ 48 ≤ rr := by
  have c1 : rl * 2 ^ 104 ≤ rB * ((2 ^ 52 + 1) * (2 ^ 52 + 1)) := le_cancel hU (by
    rw [show rl * 2 ^ 104 * U_ = (rl * U_) * 2 ^ 104 by ac_rfl, show rB * ((2 ^ 52 + 1) * (2 ^ 52 + 1)) * U_ = (rB * U_) * ((2 ^ 52 + 1) * (2 ^ 52 + 1)) by ac_rfl]
    generalize rl * U_ = X at *; generalize rs * D = Y at *; generalize rB * U_ = W at *; omega)
  have c2 : rB * ((2 ^ 52 - 1) * (2 ^ 52 - 1)) ≤ rl * 2 ^ 104 := le_cancel hU (by
    rw [show rl * 2 ^ 104 * U_ = (rl * U_) * 2 ^ 104 by ac_rfl, show rB * ((2 ^ 52 - 1) * (2 ^ 52 - 1)) * U_ = (rB * U_) * ((2 ^ 52 - 1) * (2 ^ 52 - 1)) by ac_rfl]
    generalize rl * U_ = X at *; generalize rs * D = Y at *; generalize rB * U_ = W at *; omega)
  -- both against K = u * v * q
  have m : ∀ {x y z : Int}, x ≤ y → 0 < z → x * z ≤ y * z := fun h hz => Int.mul_le_mul_of_nonneg_right h (Int.le_of_lt hz)
  have kB1 : rB * U_ * U_ * 2 ^ 104 ≤ u * v * q * ((2 ^ 52 + 1) * (2 ^ 52 + 1)) := by
    have x1 := m b1 hU; have x2 := m a1 hq
    rw [show rB * U_ * 2 ^ 52 * U_ = (rB * U_ * U_) * 2 ^ 52 by ac_rfl, show rA * q * (2 ^ 52 + 1) * U_ = (rA * U_ * q) * (2 ^ 52 + 1) by ac_rfl] at x1
    rw [show rA * U_ * 2 ^ 52 * q = (rA * U_ * q) * 2 ^ 52 by ac_rfl, show u * v * (2 ^ 52 + 1) * q = (u * v * q) * (2 ^ 52 + 1) by ac_rfl] at x2
    generalize rB * U_ * U_ = X at *; generalize rA * U_ * q = Y at *; generalize u * v * q = K at *; omega
  have kB2 : u * v * q * ((2 ^ 52 - 1) * (2 ^ 52 - 1)) ≤ rB * U_ * U_ * 2 ^ 104 := by
    have x1 := m b2 hU; have x2 := m a2 hq
    rw [show rB * U_ * 2 ^ 52 * U_ = (rB * U_ * U_) * 2 ^ 52 by ac_rfl, show rA * q * (2 ^ 52 - 1) * U_ = (rA * U_ * q) * (2 ^ 52 - 1) by ac_rfl] at x1
    rw [show rA * U_ * 2 ^ 52 * q = (rA * U_ * q) * 2 ^ 52 by ac_rfl, show u * v * (2 ^ 52 - 1) * q = (u * v * q) * (2 ^ 52 - 1) by ac_rfl] at x2
    generalize rB * U_ * U_ = X at *; generalize rA * U_ * q = Y at *; generalize u * v * q = K at *; omega
  have kR1 : rr * U_ * U_ * 2 ^ 104 ≤ u * v * q * ((2 ^ 52 + 1) * (2 ^ 52 + 1)) := by
    have x1 := m t1 hU; have x2 := m p1 hv
    rw [show rr * U_ * 2 ^ 52 * U_ = (rr * U_ * U_) * 2 ^ 52 by ac_rfl, show r1 * v * (2 ^ 52 + 1) * U_ = (r1 * U_ * v) * (2 ^ 52 + 1) by ac_rfl] at x1
    rw [show r1 * U_ * 2 ^ 52 * v = (r1 * U_ * v) * 2 ^ 52 by ac_rfl, show u * q * (2 ^ 52 + 1) * v = (u * v * q) * (2 ^ 52 + 1) by ac_rfl] at x2
    generalize rr * U_ * U_ = X at *; generalize r1 * U_ * v = Y at *; generalize u * v * q = K at *; omega
  have kR2 : u * v * q * ((2 ^ 52 - 1) * (2 ^ 52 - 1)) ≤ rr * U_ * U_ * 2 ^ 104 := by
    have x1 := m t2 hU; have x2 := m p2 hv
    rw [show rr * U_ * 2 ^ 52 * U_ = (rr * U_ * U_) * 2 ^ 52 by ac_rfl, show r1 * v * (2 ^ 52 - 1) * U_ = (r1 * U_ * v) * (2 ^ 52 - 1) by ac_rfl] at x1
    rw [show r1 * U_ * 2 ^ 52 * v = (r1 * U_ * v) * 2 ^ 52 by ac_rfl, show u * q * (2 ^ 52 - 1) * v = (u * v * q) * (2 ^ 52 - 1) by ac_rfl] at x2
    generalize rr * U_ * U_ = X at *; generalize r1 * U_ * v = Y at *; generalize u * v * q = K at *; omega
  have UU : 0 < U_ * U_ := Int.mul_pos hU hU
  have d1 : rB * ((2 ^ 52 - 1) * (2 ^ 52 - 1)) ≤ rr * ((2 ^ 52 + 1) * (2 ^ 52 + 1)) := le_cancel UU (by
    rw [show rB * ((2 ^ 52 - 1) * (2 ^ 52 - 1)) * (U_ * U_) = (rB * U_ * U_) * ((2 ^ 52 - 1) * (2 ^ 52 - 1)) by ac_rfl, show rr * ((2 ^ 52 + 1) * (2 ^ 52 + 1)) * (U_ * U_) = (rr * U_ * U_) * ((2 ^ 52 + 1) * (2 ^ 52 + 1)) by ac_rfl]
    generalize rB * U_ * U_ = X at *; generalize rr * U_ * U_ = Y at *; generalize u * v * q = K at *; omega)
  have d2 : rr * ((2 ^ 52 - 1) * (2 ^ 52 - 1)) ≤ rB * ((2 ^ 52 + 1) * (2 ^ 52 + 1)) := le_cancel UU (by
    rw [show rr * ((2 ^ 52 - 1) * (2 ^ 52 - 1)) * (U_ * U_) = (rr * U_ * U_) * ((2 ^ 52 - 1) * (2 ^ 52 - 1)) by ac_rfl, show rB * ((2 ^ 52 + 1) * (2 ^ 52 + 1)) * (U_ * U_) = (rB * U_ * U_) * ((2 ^ 52 + 1) * (2 ^ 52 + 1)) by ac_rfl]
    generalize rB * U_ * U_ = X at *; generalize rr * U_ * U_ = Y at *; generalize u * v * q = K at *; omega)
  omega
/-- all that the law computes -/
theorem all_k {W : Int32} {f l : UInt64} {fi li : Int} (df : DS fi 3 f) (dl : DS li 2 l) (hf : 0 ≤ fi ∧ fi < 2 ^ 31) (hl : 1 ≤ li ∧ li ≤ 2 ^ 20) :
    ∃ rA rB r1 rD rS lh p1 rh df0, FP.dmul (FP.i2d W) f = rA ∧ FP.dmul rA (4612136378390124954 : UInt64) = rB ∧ FP.dmul (4608083138725491507 : UInt64) l = r1 ∧ FP.dadd f r1 = rD ∧ FP.ddiv rB rD = rS ∧ FP.dmul rS rD = lh ∧ FP.dmul (4612136378390124954 : UInt64) (FP.i2d W) = p1 ∧ FP.dmul p1 f = rh ∧ FP.dsub lh rh = df0 ∧
      Core.DFin rA ∧ Core.DFin rB ∧ Core.DFin r1 ∧ Core.DFin rD ∧ Core.DFin rS ∧ Core.DFin lh ∧ Core.DFin p1 ∧ Core.DFin rh ∧ Core.DFin df0 ∧
      ∃ V : UInt64, Core.DFin V ∧ 0 ≤ zv V ∧ zv df0 ≤ zv V ∧ -zv V ≤ zv df0 ∧ (zv V * 2 ^ 40 = zv rh ∨ zv V * 2 ^ 40 = -zv rh) := by
  obtain ⟨f1, fD, rDr⟩ := den_k df dl hf hl
  have dw := DS.i2d W
  have w1 := Int32.le_toInt W; have w2 := Int32.toInt_lt W
  have zw : zv (FP.i2d W) = W.toInt * U := by have := dw.2; rwa [Int.pow_zero, Int.mul_one] at this
  by_cases hz : W.toInt = 0 ∨ fi = 0
  · -- nothing but zeros
    have zA : Core.DFin (FP.dmul (FP.i2d W) f) ∧ zv (FP.dmul (FP.i2d W) f) = 0 := by
      rcases hz with h | h
      · exact mul_zero_l dw.1 df.1 (by rw [zw, h, Int.zero_mul])
      · exact mul_zero_r dw.1 df.1 (by have e := df.2; rw [h, Int.zero_mul] at e; omega)
    obtain ⟨fA, zA⟩ := zA
    obtain ⟨fB, zB⟩ := mul_zero_l fA z22.1 zA
    obtain ⟨fS, zS⟩ := div_zero_l fB fD zB rDr.pos
    obtain ⟨fL, zL⟩ := mul_zero_l fS fD zS
    obtain ⟨r, e, fp, -, -, -⟩ | zp : (∃ r : Int, zv (FP.dmul (4612136378390124954 : UInt64) (FP.i2d W)) = 1 * r ∧ Core.DFin (FP.dmul (4612136378390124954 : UInt64) (FP.i2d W)) ∧ True ∧ True ∧ True) ∨ False := Or.inl (by
      obtain ⟨V, fV, zV⟩ := repE 1 1200 (by decide) (by decide)
      obtain ⟨V', fV', zV'⟩ := repE (-1) 1200 (by decide) (by decide)
      have zq := z22.2.2
      have zq0 := z22.2.pos
      have bw : (W.toInt * U).natAbs ≤ 2 ^ 1105 := by
        rw [Int.natAbs_mul, show (2 : Nat) ^ 1105 = 2 ^ 31 * 2 ^ 1074 by rw [← Nat.pow_add]]
        exact Nat.mul_le_mul (by omega) (by rw [U_is, ← natCast_pow2]; exact Nat.le_refl _)
      have bx : (zv (4612136378390124954 : UInt64) * (W.toInt * U)).natAbs ≤ 2 ^ 1076 * 2 ^ 1105 := by
        rw [Int.natAbs_mul]; refine Nat.mul_le_mul ?_ bw
        rw [← natCast_pow2] at zq; omega
      have by_ : (2 : Nat) ^ 1076 * 2 ^ 1105 ≤ 2 ^ 1200 * 2 ^ 1074 := by rw [← Nat.pow_add, ← Nat.pow_add]; exact Nat.pow_le_pow_right (by decide) (by decide)
      have bz : ((2 ^ 1200 * 2 ^ 1074 : Nat) : Int) = 2 ^ 1200 * U := by rw [Int.natCast_mul, natCast_pow2, natCast_pow2, U_is]
      have g1 := dmul_le z22.1 dw.1 (notNan fV) (by rw [zV, zw, Int.one_mul]; omega)
      have g2 := dmul_ge z22.1 dw.1 (notNan fV') (by rw [zV', zw, show (-1 : Int) * 2 ^ 1200 * U = -(2 ^ 1200 * U) by rw [Int.neg_mul, Int.neg_mul, Int.one_mul]]; omega)
      exact ⟨_, (Int.one_mul _).symm, fin_between (dmul_nn z22.1 dw.1) fV' fV g2 g1, trivial, trivial, trivial⟩)
    · have zR : Core.DFin (FP.dmul (FP.dmul (4612136378390124954 : UInt64) (FP.i2d W)) f) ∧ zv (FP.dmul (FP.dmul (4612136378390124954 : UInt64) (FP.i2d W)) f) = 0 := by
        rcases hz with h | h
        · exact mul_zero_l fp df.1 (mul_zero_r z22.1 dw.1 (by rw [zw, h, Int.zero_mul])).2
        · exact mul_zero_r fp df.1 (by have e := df.2; rw [h, Int.zero_mul] at e; omega)
      obtain ⟨fR, zR⟩ := zR
      have g1 := dsub_le fL fR (notNan DS.zero.1) (by rw [zL, zR, zv_zero]; decide)
      have g2 := dsub_ge fL fR (notNan DS.zero.1) (by rw [zL, zR, zv_zero]; decide)
      rw [zv_zero] at g1 g2
      exact ⟨_, _, _, _, _, _, _, _, _, rfl, rfl, rfl, rfl, rfl, rfl, rfl, rfl, rfl, fA, fB, f1, fD, fS, fL, fp, fR, fin_between (dsub_nn fL fR) DS.zero.1 DS.zero.1 (by rw [zv_zero]; omega) (by rw [zv_zero]; omega), FP.dconst0, DS.zero.1, by rw [zv_zero]; omega, by rw [zv_zero]; omega, by rw [zv_zero]; omega, Or.inl (by rw [zv_zero, zR]; rfl)⟩
    · exact zp.elim
  · have hz1 : ¬ W.toInt = 0 := fun h => hz (Or.inl h)
    have hz2 : ¬ fi = 0 := fun h => hz (Or.inr h)
    obtain ⟨s, u, hs, zs, ru⟩ : ∃ s u : Int, (s = 1 ∨ s = -1) ∧ zv (FP.i2d W) = s * u ∧ Rng 1074 1105 u := by
      have rg : ∀ n : Int, 1 ≤ n → n ≤ 2 ^ 31 → Rng 1074 1105 (n * U) := fun n n1 n2 => by
        have p := U_pos
        refine ⟨?_, ?_⟩
        · rw [← U_is]; have := Int.mul_le_mul_of_nonneg_right n1 (Int.le_of_lt p); omega
        · rw [show (2 : Int) ^ 1105 = 2 ^ 31 * 2 ^ 1074 by rw [← Int.pow_add], ← U_is]; exact Int.mul_le_mul_of_nonneg_right n2 (Int.le_of_lt p)
      by_cases h : 0 < W.toInt
      · exact ⟨1, W.toInt * U, Or.inl rfl, by rw [zw, Int.one_mul], rg _ (by omega) (by omega)⟩
      · exact ⟨-1, -W.toInt * U, Or.inr rfl, by rw [zw, Int.neg_mul, Int.neg_mul, Int.one_mul, Int.neg_neg], rg _ (by omega) (by omega)⟩
    have rf := rng_of df (b := 31) (by omega) (by omega) (by decide)
    obtain ⟨rA, eA, fA, a1, a2, gA⟩ := mul_rel dw.1 df.1 hs zs rfl ru rf (by decide) (by decide)
    obtain ⟨rB, eB, fB, b1, b2, gB⟩ := mul_rel fA z22.1 hs eA rfl gA z22.2 (by decide) (by decide)
    obtain ⟨rS, eS, fS, s1, s2, gS⟩ := div_rel fB fD hs eB rfl gB rDr (by decide) (by decide)
    obtain ⟨rL, eL, fL, l1, l2, gL⟩ := mul_rel fS fD hs eS rfl gS rDr (by decide) (by decide)
    obtain ⟨r1, e1, fp, p1, p2, gp⟩ := mul_rel dw.1 z22.1 hs zs rfl ru z22.2 (by decide) (by decide)
    have cm : FP.dmul (FP.i2d W) (4612136378390124954 : UInt64) = FP.dmul (4612136378390124954 : UInt64) (FP.i2d W) := Core.dmul_comm _ _
    rw [cm] at e1 fp
    obtain ⟨rR, eR, fR, t1, t2, gR⟩ := mul_rel fp df.1 hs e1 rfl gp rf (by decide) (by decide)
    obtain ⟨h1, h2⟩ := heart ru.pos rf.pos z22.2.pos U_pos rDr.pos a1 a2 b1 b2 s1 s2 l1 l2 p1 p2 t1 t2 gR.pos
    -- a double worth rR / 2^40
    obtain ⟨sg, c, i, v1, ft, zc⟩ := fin_parts fR
    have hc : c < 2 ^ 53 := ft.1
    have zabs : ((c * 2 ^ i : Nat) : Int) = rR := by
      have e2 := congrArg Int.natAbs (zc.symm.trans eR)
      rw [Core.natAbs_signed, Int.natAbs_mul] at e2
      have : s.natAbs = 1 := by rcases hs with rfl | rfl <;> rfl
      rw [this, Nat.one_mul] at e2
      have := gR.pos; omega
    have hi : 40 ≤ i := by
      refine Nat.le_of_not_lt fun q => ?_
      have b1 : c * 2 ^ i < 2 ^ 53 * 2 ^ 40 := Nat.lt_of_lt_of_le (Nat.mul_lt_mul_of_pos_right hc (Nat.two_pow_pos i)) (Nat.mul_le_mul_left _ (Nat.pow_le_pow_right (by decide) (by omega)))
      have b2 : (2 : Int) ^ 94 ≤ rR := Int.le_trans (pow_le (by decide)) gR.1
      rw [← zabs] at b2
      have b3 : (2 : Nat) ^ 53 * 2 ^ 40 = 2 ^ 93 := by decide
      have b4 : ((2 ^ 94 : Nat) : Int) ≤ ((c * 2 ^ i : Nat) : Int) := by rw [natCast_pow2]; exact b2
      omega
    have hi2 : i ≤ 2045 := by
      have := ft.2.2.1
      have hq : Core.b64.qmax = 971 := by decide
      omega
    obtain ⟨V, fV, zV⟩ := repE (c : Int) (i - 40) (by omega) (by omega)
    obtain ⟨V', fV', zV'⟩ := repE (-(c : Int)) (i - 40) (by omega) (by omega)
    have zV2 : zv V * 2 ^ 40 = rR := by
      rw [zV, Int.mul_assoc, ← Int.pow_add, show i - 40 + 40 = i by omega, ← zabs, Int.natCast_mul, natCast_pow2]
    have zV3 : zv V' = - zv V := by rw [zV', zV, Int.neg_mul]
    have pV : 0 ≤ zv V := by have := gR.pos; omega
    have dd : s * rL - s * rR ≤ zv V ∧ -zv V ≤ s * rL - s * rR := by
      rcases hs with rfl | rfl <;> omega
    have g1 := dsub_le fL fR (notNan fV) (by rw [eL, eR]; exact dd.1)
    have g2 := dsub_ge fL fR (notNan fV') (by rw [eL, eR, zV3]; exact dd.2)
    refine ⟨_, _, _, _, _, _, _, _, _, rfl, rfl, rfl, rfl, rfl, rfl, rfl, rfl, rfl, fA, fB, f1, fD, fS, fL, fp, fR, fin_between (dsub_nn fL fR) fV' fV g2 g1, V, fV, pV, g1, by rw [zV3] at g2; exact g2, ?_⟩
    rw [zV2, eR]
    rcases hs with rfl | rfl <;> omega
/-- the last comparison -/
theorem last_k {d m V : UInt64} (fd : Core.DFin d) (fm : Core.DFin m) (fV : Core.DFin V) (h1 : zv d ≤ zv V) (h0 : 0 ≤ zv V) (h2 : zv V * 2 ^ 40 = zv m) :
    Core.val64 (FP.dmul (4427486594234968593 : UInt64) m) ≠ .nan ∧ ¬ 0 < cmpValue (FP.dcmp d (FP.dmul (4427486594234968593 : UInt64) m)) .g := by
  have nn := dmul_nn zct.1 fm
  have g : zv V ≤ zv (FP.dmul (4427486594234968593 : UInt64) m) := dmul_ge zct.1 fm (notNan fV) (by
    rw [← h2]
    have c : (2 : Int) ^ 1034 ≤ zv (4427486594234968593 : UInt64) := zct.2.1
    have : zv V * U = (2 ^ 1034) * (zv V * 2 ^ 40) := by rw [U_is, show (2 : Int) ^ 1074 = 2 ^ 1034 * 2 ^ 40 by rw [← Int.pow_add]]; exact Int.mul_left_comm _ _ _
    rw [this]
    exact Int.mul_le_mul_of_nonneg_right c (Int.mul_nonneg h0 (by decide)))
  refine ⟨nn, ?_⟩
  rw [cmpV_of (notNan fd) nn]
  split
  · decide
  · split
    · decide
    · omega
theorem f_k (x : Int32) : 0 ≤ (x &&& (2147483647 : Int32)).toInt ∧ (x &&& (2147483647 : Int32)).toInt < 2 ^ 31 := by
  have := Kit.i32_mask x 2147483647 (k := 31) (by decide) (by decide); omega
theorem l_k (x : Int32) : ((x &&& (1048575 : Int32)) + (1 : Int32)).toInt = (x &&& (1048575 : Int32)).toInt + 1 ∧ 1 ≤ ((x &&& (1048575 : Int32)) + (1 : Int32)).toInt ∧ ((x &&& (1048575 : Int32)) + (1 : Int32)).toInt ≤ 2 ^ 20 := by
  have h := Kit.i32_mask x 1048575 (k := 20) (by decide) (by decide)
  have q : (1 : Int32).toInt = 1 := by decide
  have e := Kit.i32_add (p := x &&& (1048575 : Int32)) (q := 1) (by omega) (by omega)
  omega
theorem ef_0 (m : MethodId) (y1 : Int32) (y2 : Int32) (y3 : Int32) : entryFrame m #[(.int y1), (.int y2), (.int y3)] maxLocals = (mkF m 0 #[.val (.int y1), .val (.int y2), .val (.int y3), .unset, .unset, .unset, .unset, .unset, .unset, .unset, .unset, .unset, .unset, .unset, .unset, .unset, .unset, .unset, .unset] []) := by first | (simp [entryFrame, mkF, argsToLocals, Value.category, maxLocals]; done) | rfl
def Q_0 (Z : State) (y1 : Int32) (y2 : Int32) (y3 : Int32) (h0 : Heap) (n0 : Nat) (v : Option Value) (h : Heap) (L : List Loc) : Prop := v = some (.int 1) ∧ Fr n0 L
set_option maxRecDepth 65536 in
set_option maxHeartbeats 2000000 in
theorem rm_0 (l : Launch) (Z : State) (a0 : Array Value) (hw : ∀ d ∈ tables_1, d.before a0 Z = true) (ws : List Jvm.Cond) (y1 : Int32) (y2 : Int32) (y3 : Int32) (h0 : Heap) (n0 : Nat) (Z0 : n0 ≤ h0.size)  :
    MetFree l x (head1 (Jvm.Cond.code x code maxLocals ret :: ws) room_1) (fun aa UU => aa = #[(.int y1), (.int y2), (.int y3)] ∧ Z.Warmed39 UU.vm ∧ UU.heap = h0) (fun _ _ _ _ _ => True) (fun _ UU oo UU' => ∃ v L, oo = .returned v ∧ Q_0 Z y1 y2 y3 h0 n0 v UU'.heap L ∧ FrameEnd UU oo UU' L 0 0) := by
  refine MetFree.of_bodySF (plainFor_of_name pn_com_example_rival_tongues_rivaltongues_engine_Bm25SaturatePinLaw) hisR ?_
  intro p e s m args below meth c s₁ Bd hml0 hP hK
  obtain ⟨rfl, hZ, hh⟩ := hP
  have hx := Bd.exec
  have hby := Bd.bytes
  have hml : c.maxLocals = 19 := hml0
  have hown : s.vm.findClass "com/example/rival_tongues/rivaltongues/engine/Bm25SaturatePinLaw" = some m.cls := findClass_of_methodNamed Bd.named
  have hnaM := (name_of_methodNamed Bd.named Bd.method).1
  have X0 : Stand p l e room_1 s m #[(.int y1), (.int y2), (.int y3)] below meth c s₁ [] 0 0 := Stand.of_body Bd
  have e0 : s₁.heap = h0 := by rw [← hh, Bd.state]; rfl
  have N0 := Fr.nil n0
  have pre0 : ∀ t, Steps p.tables e below (s₁.setTop (entryFrame m #[(.int y1), (.int y2), (.int y3)] maxLocals)) t → Steps p.tables e below (s₁.setTop (entryFrame m #[(.int y1), (.int y2), (.int y3)] maxLocals)) t := fun t k => k
  have c0 : ∀ t, Steps p.tables e below (s₁.setTop (mkF m 0 #[.val (.int y1), .val (.int y2), .val (.int y3), .unset, .unset, .unset, .unset, .unset, .unset, .unset, .unset, .unset, .unset, .unset, .unset, .unset, .unset, .unset, .unset] [])) t → Steps p.tables e below (s₁.setTop (entryFrame m #[(.int y1), (.int y2), (.int y3)] maxLocals)) t := fun t k => castTop (ef_0 m y1 y2 y3) k
  obtain ⟨e1, he1⟩ : ∃ v : UInt64, FP.i2d (y2 &&& (2147483647 : Int32)) = v := ⟨_, rfl⟩
  obtain ⟨ff, hff⟩ : ∃ v : UInt64, FP.dmul e1 (4593671619917905920 : UInt64) = v := ⟨_, rfl⟩
  have F1 := f_k y2
  have Df : DS (y2 &&& (2147483647 : Int32)).toInt 3 ff := by have := (DS.i2d (y2 &&& (2147483647 : Int32))).mul c8 (by omega) (by decide); rwa [Int.mul_one, he1, hff] at this
  obtain ⟨e2, he2⟩ : ∃ v : UInt64, FP.i2d ((y3 &&& (1048575 : Int32)) + (1 : Int32)) = v := ⟨_, rfl⟩
  obtain ⟨ll, hll⟩ : ∃ v : UInt64, FP.dmul e2 (4598175219545276416 : UInt64) = v := ⟨_, rfl⟩
  have L1 := l_k y3
  have Dl : DS ((y3 &&& (1048575 : Int32)) + (1 : Int32)).toInt 2 ll := by have := (DS.i2d ((y3 &&& (1048575 : Int32)) + (1 : Int32))).mul c4 (by omega) (by decide); rwa [Int.mul_one, he2, hll] at this
  obtain ⟨rA, rB, r1, rD, rS, lh, p1, rh, df0, hA, hB, h1, hD, hS, hlh, hp1, hrh, hdf, fA, fB, f1, fD, fS, fL, fp, fR, fdf, V, fV, pV, v1, v2, v3⟩ := all_k (W := y1) Df Dl F1 L1.2
  have c1 : ∀ t, Steps p.tables e below (s₁.setTop (mkF m 32 #[.val (.int y1), .val (.int y2), .val (.int y3), .val (.double (FP.i2d y1)), .second, .val (.double ff), .second, .val (.double ll), .second, .unset, .unset, .unset, .unset, .unset, .unset, .unset, .unset, .unset, .unset] [(.double ll), (.double ff), (.double (FP.i2d y1))])) t → Steps p.tables e below (s₁.setTop (entryFrame m #[(.int y1), (.int y2), (.int y3)] maxLocals)) t := fun t k => c0 t (by
    show Steps p.tables e below (s₁.setTop (mkF m 0 #[.val (.int y1), .val (.int y2), .val (.int y3), .unset, .unset, .unset, .unset, .unset, .unset, .unset, .unset, .unset, .unset, .unset, .unset, .unset, .unset, .unset, .unset] [])) _
    refine XS.iloadN X0.here hx rfl (hb hby at_0) rfl ?_
    show Steps p.tables e below (s₁.setTop (mkF m 1 #[.val (.int y1), .val (.int y2), .val (.int y3), .unset, .unset, .unset, .unset, .unset, .unset, .unset, .unset, .unset, .unset, .unset, .unset, .unset, .unset, .unset, .unset] [(.int y1)])) _
    refine XS.i2dS X0.here hx rfl (hb hby at_1) rfl rfl ?_
    show Steps p.tables e below (s₁.setTop (mkF m 2 #[.val (.int y1), .val (.int y2), .val (.int y3), .unset, .unset, .unset, .unset, .unset, .unset, .unset, .unset, .unset, .unset, .unset, .unset, .unset, .unset, .unset, .unset] [(.double (FP.i2d y1))])) _
    refine XS.dstoreN X0.here hx rfl (hb hby at_2) rfl (l' := #[.val (.int y1), .val (.int y2), .val (.int y3), .val (.double (FP.i2d y1)), .second, .unset, .unset, .unset, .unset, .unset, .unset, .unset, .unset, .unset, .unset, .unset, .unset, .unset, .unset]) rfl ?_
    show Steps p.tables e below (s₁.setTop (mkF m 3 #[.val (.int y1), .val (.int y2), .val (.int y3), .val (.double (FP.i2d y1)), .second, .unset, .unset, .unset, .unset, .unset, .unset, .unset, .unset, .unset, .unset, .unset, .unset, .unset, .unset] [])) _
    refine XS.iloadN X0.here hx rfl (hb hby at_3) rfl ?_
    show Steps p.tables e below (s₁.setTop (mkF m 4 #[.val (.int y1), .val (.int y2), .val (.int y3), .val (.double (FP.i2d y1)), .second, .unset, .unset, .unset, .unset, .unset, .unset, .unset, .unset, .unset, .unset, .unset, .unset, .unset, .unset] [(.int y2)])) _
    refine Jvm.Stand.ldcI X0 hx hown (mvT hZ (hw _ (List.mem_of_getElem? (i := 0) rfl))) rfl (hb hby at_4) ?_
    show Steps p.tables e below (s₁.setTop (mkF m 6 #[.val (.int y1), .val (.int y2), .val (.int y3), .val (.double (FP.i2d y1)), .second, .unset, .unset, .unset, .unset, .unset, .unset, .unset, .unset, .unset, .unset, .unset, .unset, .unset, .unset] [(.int (2147483647 : Int32)), (.int y2)])) _
    refine XS.iand X0.here hx rfl (hb hby at_6) rfl ?_
    show Steps p.tables e below (s₁.setTop (mkF m 7 #[.val (.int y1), .val (.int y2), .val (.int y3), .val (.double (FP.i2d y1)), .second, .unset, .unset, .unset, .unset, .unset, .unset, .unset, .unset, .unset, .unset, .unset, .unset, .unset, .unset] [(.int (y2 &&& (2147483647 : Int32)))])) _
    refine XS.i2dS X0.here hx rfl (hb hby at_7) rfl he1 ?_
    show Steps p.tables e below (s₁.setTop (mkF m 8 #[.val (.int y1), .val (.int y2), .val (.int y3), .val (.double (FP.i2d y1)), .second, .unset, .unset, .unset, .unset, .unset, .unset, .unset, .unset, .unset, .unset, .unset, .unset, .unset, .unset] [(.double e1)])) _
    refine Jvm.Stand.ldc2DoubleC X0 hx hown (mvT hZ (hw _ (List.mem_of_getElem? (i := 1) rfl))) (g := (mkF m 8 #[.val (.int y1), .val (.int y2), .val (.int y3), .val (.double (FP.i2d y1)), .second, .unset, .unset, .unset, .unset, .unset, .unset, .unset, .unset, .unset, .unset, .unset, .unset, .unset, .unset] [(.double e1)])) rfl (hb hby at_8) _ ?_
    show Steps p.tables e below (s₁.setTop (mkF m 11 #[.val (.int y1), .val (.int y2), .val (.int y3), .val (.double (FP.i2d y1)), .second, .unset, .unset, .unset, .unset, .unset, .unset, .unset, .unset, .unset, .unset, .unset, .unset, .unset, .unset] [(.double (4593671619917905920 : UInt64)), (.double e1)])) _
    refine XS.dmulS X0.here hx rfl (hb hby at_11) rfl (hff ▸ Df.noNaN) hff ?_
    show Steps p.tables e below (s₁.setTop (mkF m 12 #[.val (.int y1), .val (.int y2), .val (.int y3), .val (.double (FP.i2d y1)), .second, .unset, .unset, .unset, .unset, .unset, .unset, .unset, .unset, .unset, .unset, .unset, .unset, .unset, .unset] [(.double ff)])) _
    refine XS.dstore X0.here hx rfl (hb hby at_12) rfl (l' := #[.val (.int y1), .val (.int y2), .val (.int y3), .val (.double (FP.i2d y1)), .second, .val (.double ff), .second, .unset, .unset, .unset, .unset, .unset, .unset, .unset, .unset, .unset, .unset, .unset, .unset]) rfl ?_
    show Steps p.tables e below (s₁.setTop (mkF m 14 #[.val (.int y1), .val (.int y2), .val (.int y3), .val (.double (FP.i2d y1)), .second, .val (.double ff), .second, .unset, .unset, .unset, .unset, .unset, .unset, .unset, .unset, .unset, .unset, .unset, .unset] [])) _
    refine XS.iloadN X0.here hx rfl (hb hby at_14) rfl ?_
    show Steps p.tables e below (s₁.setTop (mkF m 15 #[.val (.int y1), .val (.int y2), .val (.int y3), .val (.double (FP.i2d y1)), .second, .val (.double ff), .second, .unset, .unset, .unset, .unset, .unset, .unset, .unset, .unset, .unset, .unset, .unset, .unset] [(.int y3)])) _
    refine Jvm.Stand.ldcI X0 hx hown (mvT hZ (hw _ (List.mem_of_getElem? (i := 2) rfl))) rfl (hb hby at_15) ?_
    show Steps p.tables e below (s₁.setTop (mkF m 17 #[.val (.int y1), .val (.int y2), .val (.int y3), .val (.double (FP.i2d y1)), .second, .val (.double ff), .second, .unset, .unset, .unset, .unset, .unset, .unset, .unset, .unset, .unset, .unset, .unset, .unset] [(.int (1048575 : Int32)), (.int y3)])) _
    refine XS.iand X0.here hx rfl (hb hby at_17) rfl ?_
    show Steps p.tables e below (s₁.setTop (mkF m 18 #[.val (.int y1), .val (.int y2), .val (.int y3), .val (.double (FP.i2d y1)), .second, .val (.double ff), .second, .unset, .unset, .unset, .unset, .unset, .unset, .unset, .unset, .unset, .unset, .unset, .unset] [(.int (y3 &&& (1048575 : Int32)))])) _
    refine XS.iconst X0.here hx rfl (hb hby at_18) ?_
    show Steps p.tables e below (s₁.setTop (mkF m 19 #[.val (.int y1), .val (.int y2), .val (.int y3), .val (.double (FP.i2d y1)), .second, .val (.double ff), .second, .unset, .unset, .unset, .unset, .unset, .unset, .unset, .unset, .unset, .unset, .unset, .unset] [(.int (1 : Int32)), (.int (y3 &&& (1048575 : Int32)))])) _
    refine XS.iadd X0.here hx rfl (hb hby at_19) rfl ?_
    show Steps p.tables e below (s₁.setTop (mkF m 20 #[.val (.int y1), .val (.int y2), .val (.int y3), .val (.double (FP.i2d y1)), .second, .val (.double ff), .second, .unset, .unset, .unset, .unset, .unset, .unset, .unset, .unset, .unset, .unset, .unset, .unset] [(.int ((y3 &&& (1048575 : Int32)) + (1 : Int32)))])) _
    refine XS.i2dS X0.here hx rfl (hb hby at_20) rfl he2 ?_
    show Steps p.tables e below (s₁.setTop (mkF m 21 #[.val (.int y1), .val (.int y2), .val (.int y3), .val (.double (FP.i2d y1)), .second, .val (.double ff), .second, .unset, .unset, .unset, .unset, .unset, .unset, .unset, .unset, .unset, .unset, .unset, .unset] [(.double e2)])) _
    refine Jvm.Stand.ldc2DoubleC X0 hx hown (mvT hZ (hw _ (List.mem_of_getElem? (i := 3) rfl))) (g := (mkF m 21 #[.val (.int y1), .val (.int y2), .val (.int y3), .val (.double (FP.i2d y1)), .second, .val (.double ff), .second, .unset, .unset, .unset, .unset, .unset, .unset, .unset, .unset, .unset, .unset, .unset, .unset] [(.double e2)])) rfl (hb hby at_21) _ ?_
    show Steps p.tables e below (s₁.setTop (mkF m 24 #[.val (.int y1), .val (.int y2), .val (.int y3), .val (.double (FP.i2d y1)), .second, .val (.double ff), .second, .unset, .unset, .unset, .unset, .unset, .unset, .unset, .unset, .unset, .unset, .unset, .unset] [(.double (4598175219545276416 : UInt64)), (.double e2)])) _
    refine XS.dmulS X0.here hx rfl (hb hby at_24) rfl (hll ▸ Dl.noNaN) hll ?_
    show Steps p.tables e below (s₁.setTop (mkF m 25 #[.val (.int y1), .val (.int y2), .val (.int y3), .val (.double (FP.i2d y1)), .second, .val (.double ff), .second, .unset, .unset, .unset, .unset, .unset, .unset, .unset, .unset, .unset, .unset, .unset, .unset] [(.double ll)])) _
    refine XS.dstore X0.here hx rfl (hb hby at_25) rfl (l' := #[.val (.int y1), .val (.int y2), .val (.int y3), .val (.double (FP.i2d y1)), .second, .val (.double ff), .second, .val (.double ll), .second, .unset, .unset, .unset, .unset, .unset, .unset, .unset, .unset, .unset, .unset]) rfl ?_
    show Steps p.tables e below (s₁.setTop (mkF m 27 #[.val (.int y1), .val (.int y2), .val (.int y3), .val (.double (FP.i2d y1)), .second, .val (.double ff), .second, .val (.double ll), .second, .unset, .unset, .unset, .unset, .unset, .unset, .unset, .unset, .unset, .unset] [])) _
    refine XS.dloadN X0.here hx rfl (hb hby at_27) rfl ?_
    show Steps p.tables e below (s₁.setTop (mkF m 28 #[.val (.int y1), .val (.int y2), .val (.int y3), .val (.double (FP.i2d y1)), .second, .val (.double ff), .second, .val (.double ll), .second, .unset, .unset, .unset, .unset, .unset, .unset, .unset, .unset, .unset, .unset] [(.double (FP.i2d y1))])) _
    refine XS.dload X0.here hx rfl (hb hby at_28) rfl ?_
    show Steps p.tables e below (s₁.setTop (mkF m 30 #[.val (.int y1), .val (.int y2), .val (.int y3), .val (.double (FP.i2d y1)), .second, .val (.double ff), .second, .val (.double ll), .second, .unset, .unset, .unset, .unset, .unset, .unset, .unset, .unset, .unset, .unset] [(.double ff), (.double (FP.i2d y1))])) _
    refine XS.dload X0.here hx rfl (hb hby at_30) rfl ?_
    show Steps p.tables e below (s₁.setTop (mkF m 32 #[.val (.int y1), .val (.int y2), .val (.int y3), .val (.double (FP.i2d y1)), .second, .val (.double ff), .second, .val (.double ll), .second, .unset, .unset, .unset, .unset, .unset, .unset, .unset, .unset, .unset, .unset] [(.double ll), (.double ff), (.double (FP.i2d y1))])) _
    exact k)
  obtain ⟨_, _, ⟨T2, L2, k2', n2⟩, -, X2, ⟨Lc2, hQ2, l2, y2, z2⟩, st2⟩ := Jvm.LawKit.callS X0 hx (y := (⟨"com/example/rival_tongues/rivaltongues/engine/Bm25", "saturate", "(DDD)D"⟩ : MethodName)) hown (mvT hZ (hw _ (List.mem_of_getElem? (i := 4) rfl))) (mvT hZ (hw _ (List.mem_of_getElem? (i := 5) rfl))) (mvT hZ (hw _ (List.mem_of_getElem? (i := 6) rfl))) (mvT hZ (hw _ (List.mem_of_getElem? (i := 7) rfl))) (by decide) (backOf (W := 0) (rm_1 l Z a0 hw [] (FP.i2d y1) ff ll rA rB r1 rD rS h0 n0 Z0 hA hB h1 hD hS (noNaN_of (notNan fA)) (noNaN_of (notNan fB)) (noNaN_of (notNan f1)) (noNaN_of (notNan fD)) (noNaN_of (notNan fS))) hZ (hw _ (List.mem_of_getElem? (i := 7) rfl)) (hw _ (List.mem_of_getElem? (i := 6) rfl)) (by decide) (by decide)) (g := (mkF m 32 #[.val (.int y1), .val (.int y2), .val (.int y3), .val (.double (FP.i2d y1)), .second, .val (.double ff), .second, .val (.double ll), .second, .unset, .unset, .unset, .unset, .unset, .unset, .unset, .unset, .unset, .unset] [(.double ll), (.double ff), (.double (FP.i2d y1))])) rfl (by rw [hml]; rfl) (argsL := [(.double (FP.i2d y1)), (.double ff), (.double ll)]) (rest := []) (lenOf pd__DDD_D rfl) rfl (by show 2 * 0 + _ ≤ _; exact Nat.le_of_eq rfl) (hb hby at_32) (fun _ _ => ⟨rfl, e0, (by decide : 0 + 0 ≤ _), (by decide : 0 + 0 ≤ _)⟩)
  dsimp only [Pt.U, Pt.locs, Pt.cells, Pt.slots] at X2 l2 y2 z2 st2 hQ2
  subst l2 y2 z2
  obtain ⟨rfl, N2, e2⟩ := hQ2
  have M2 := Fr.app N0 N2
  have c3 : ∀ t, Steps p.tables e below (T2.setTop (mkF m 35 #[.val (.int y1), .val (.int y2), .val (.int y3), .val (.double (FP.i2d y1)), .second, .val (.double ff), .second, .val (.double ll), .second, .unset, .unset, .unset, .unset, .unset, .unset, .unset, .unset, .unset, .unset] [(.double rS)])) t → Steps p.tables e below (s₁.setTop (entryFrame m #[(.int y1), (.int y2), (.int y3)] maxLocals)) t := fun t k => c1 t (st2 _ k)
  obtain ⟨k71, hk71⟩ : ∃ v : Int32, cmpValue (FP.dcmp df0 FP.dconst0) .g = v := ⟨_, rfl⟩
  have u71 : k71 < 0 ↔ zv df0 < 0 := by
    rw [← hk71, cmpV_of (notNan fdf) (notNan DS.zero.1), zv_zero]
    split
    · exact ⟨fun _ => by assumption, fun _ => by decide⟩
    · split
      · exact ⟨fun h => absurd h (by decide), fun h => absurd h (by assumption)⟩
      · exact ⟨fun h => absurd h (by decide), fun h => absurd h (by assumption)⟩
  have c4 : ∀ t, Steps p.tables e below (T2.setTop (mkF m 72 #[.val (.int y1), .val (.int y2), .val (.int y3), .val (.double (FP.i2d y1)), .second, .val (.double ff), .second, .val (.double ll), .second, .val (.double rS), .second, .val (.double lh), .second, .val (.double rh), .second, .val (.double df0), .second, .unset, .unset] [(.int k71)])) t → Steps p.tables e below (s₁.setTop (entryFrame m #[(.int y1), (.int y2), (.int y3)] maxLocals)) t := fun t k => c3 t (by
    show Steps p.tables e below (T2.setTop (mkF m 35 #[.val (.int y1), .val (.int y2), .val (.int y3), .val (.double (FP.i2d y1)), .second, .val (.double ff), .second, .val (.double ll), .second, .unset, .unset, .unset, .unset, .unset, .unset, .unset, .unset, .unset, .unset] [(.double rS)])) _
    refine XS.dstore X2.here hx rfl (hb hby at_35) rfl (l' := #[.val (.int y1), .val (.int y2), .val (.int y3), .val (.double (FP.i2d y1)), .second, .val (.double ff), .second, .val (.double ll), .second, .val (.double rS), .second, .unset, .unset, .unset, .unset, .unset, .unset, .unset, .unset]) rfl ?_
    show Steps p.tables e below (T2.setTop (mkF m 37 #[.val (.int y1), .val (.int y2), .val (.int y3), .val (.double (FP.i2d y1)), .second, .val (.double ff), .second, .val (.double ll), .second, .val (.double rS), .second, .unset, .unset, .unset, .unset, .unset, .unset, .unset, .unset] [])) _
    refine XS.dload X2.here hx rfl (hb hby at_37) rfl ?_
    show Steps p.tables e below (T2.setTop (mkF m 39 #[.val (.int y1), .val (.int y2), .val (.int y3), .val (.double (FP.i2d y1)), .second, .val (.double ff), .second, .val (.double ll), .second, .val (.double rS), .second, .unset, .unset, .unset, .unset, .unset, .unset, .unset, .unset] [(.double rS)])) _
    refine XS.dload X2.here hx rfl (hb hby at_39) rfl ?_
    show Steps p.tables e below (T2.setTop (mkF m 41 #[.val (.int y1), .val (.int y2), .val (.int y3), .val (.double (FP.i2d y1)), .second, .val (.double ff), .second, .val (.double ll), .second, .val (.double rS), .second, .unset, .unset, .unset, .unset, .unset, .unset, .unset, .unset] [(.double ff), (.double rS)])) _
    refine Jvm.Stand.ldc2DoubleC X2 hx hown (mvT hZ (hw _ (List.mem_of_getElem? (i := 10) rfl))) (g := (mkF m 41 #[.val (.int y1), .val (.int y2), .val (.int y3), .val (.double (FP.i2d y1)), .second, .val (.double ff), .second, .val (.double ll), .second, .val (.double rS), .second, .unset, .unset, .unset, .unset, .unset, .unset, .unset, .unset] [(.double ff), (.double rS)])) rfl (hb hby at_41) _ ?_
    show Steps p.tables e below (T2.setTop (mkF m 44 #[.val (.int y1), .val (.int y2), .val (.int y3), .val (.double (FP.i2d y1)), .second, .val (.double ff), .second, .val (.double ll), .second, .val (.double rS), .second, .unset, .unset, .unset, .unset, .unset, .unset, .unset, .unset] [(.double (4608083138725491507 : UInt64)), (.double ff), (.double rS)])) _
    refine XS.dload X2.here hx rfl (hb hby at_44) rfl ?_
    show Steps p.tables e below (T2.setTop (mkF m 46 #[.val (.int y1), .val (.int y2), .val (.int y3), .val (.double (FP.i2d y1)), .second, .val (.double ff), .second, .val (.double ll), .second, .val (.double rS), .second, .unset, .unset, .unset, .unset, .unset, .unset, .unset, .unset] [(.double ll), (.double (4608083138725491507 : UInt64)), (.double ff), (.double rS)])) _
    refine XS.dmulS X2.here hx rfl (hb hby at_46) rfl (h1 ▸ (noNaN_of (notNan f1))) h1 ?_
    show Steps p.tables e below (T2.setTop (mkF m 47 #[.val (.int y1), .val (.int y2), .val (.int y3), .val (.double (FP.i2d y1)), .second, .val (.double ff), .second, .val (.double ll), .second, .val (.double rS), .second, .unset, .unset, .unset, .unset, .unset, .unset, .unset, .unset] [(.double r1), (.double ff), (.double rS)])) _
    refine XS.daddS X2.here hx rfl (hb hby at_47) rfl (hD ▸ (noNaN_of (notNan fD))) hD ?_
    show Steps p.tables e below (T2.setTop (mkF m 48 #[.val (.int y1), .val (.int y2), .val (.int y3), .val (.double (FP.i2d y1)), .second, .val (.double ff), .second, .val (.double ll), .second, .val (.double rS), .second, .unset, .unset, .unset, .unset, .unset, .unset, .unset, .unset] [(.double rD), (.double rS)])) _
    refine XS.dmulS X2.here hx rfl (hb hby at_48) rfl (hlh ▸ (noNaN_of (notNan fL))) hlh ?_
    show Steps p.tables e below (T2.setTop (mkF m 49 #[.val (.int y1), .val (.int y2), .val (.int y3), .val (.double (FP.i2d y1)), .second, .val (.double ff), .second, .val (.double ll), .second, .val (.double rS), .second, .unset, .unset, .unset, .unset, .unset, .unset, .unset, .unset] [(.double lh)])) _
    refine XS.dstore X2.here hx rfl (hb hby at_49) rfl (l' := #[.val (.int y1), .val (.int y2), .val (.int y3), .val (.double (FP.i2d y1)), .second, .val (.double ff), .second, .val (.double ll), .second, .val (.double rS), .second, .val (.double lh), .second, .unset, .unset, .unset, .unset, .unset, .unset]) rfl ?_
    show Steps p.tables e below (T2.setTop (mkF m 51 #[.val (.int y1), .val (.int y2), .val (.int y3), .val (.double (FP.i2d y1)), .second, .val (.double ff), .second, .val (.double ll), .second, .val (.double rS), .second, .val (.double lh), .second, .unset, .unset, .unset, .unset, .unset, .unset] [])) _
    refine Jvm.Stand.ldc2DoubleC X2 hx hown (mvT hZ (hw _ (List.mem_of_getElem? (i := 11) rfl))) (g := (mkF m 51 #[.val (.int y1), .val (.int y2), .val (.int y3), .val (.double (FP.i2d y1)), .second, .val (.double ff), .second, .val (.double ll), .second, .val (.double rS), .second, .val (.double lh), .second, .unset, .unset, .unset, .unset, .unset, .unset] [])) rfl (hb hby at_51) _ ?_
    show Steps p.tables e below (T2.setTop (mkF m 54 #[.val (.int y1), .val (.int y2), .val (.int y3), .val (.double (FP.i2d y1)), .second, .val (.double ff), .second, .val (.double ll), .second, .val (.double rS), .second, .val (.double lh), .second, .unset, .unset, .unset, .unset, .unset, .unset] [(.double (4612136378390124954 : UInt64))])) _
    refine XS.dloadN X2.here hx rfl (hb hby at_54) rfl ?_
    show Steps p.tables e below (T2.setTop (mkF m 55 #[.val (.int y1), .val (.int y2), .val (.int y3), .val (.double (FP.i2d y1)), .second, .val (.double ff), .second, .val (.double ll), .second, .val (.double rS), .second, .val (.double lh), .second, .unset, .unset, .unset, .unset, .unset, .unset] [(.double (FP.i2d y1)), (.double (4612136378390124954 : UInt64))])) _
    refine XS.dmulS X2.here hx rfl (hb hby at_55) rfl (hp1 ▸ (noNaN_of (notNan fp))) hp1 ?_
    show Steps p.tables e below (T2.setTop (mkF m 56 #[.val (.int y1), .val (.int y2), .val (.int y3), .val (.double (FP.i2d y1)), .second, .val (.double ff), .second, .val (.double ll), .second, .val (.double rS), .second, .val (.double lh), .second, .unset, .unset, .unset, .unset, .unset, .unset] [(.double p1)])) _
    refine XS.dload X2.here hx rfl (hb hby at_56) rfl ?_
    show Steps p.tables e below (T2.setTop (mkF m 58 #[.val (.int y1), .val (.int y2), .val (.int y3), .val (.double (FP.i2d y1)), .second, .val (.double ff), .second, .val (.double ll), .second, .val (.double rS), .second, .val (.double lh), .second, .unset, .unset, .unset, .unset, .unset, .unset] [(.double ff), (.double p1)])) _
    refine XS.dmulS X2.here hx rfl (hb hby at_58) rfl (hrh ▸ (noNaN_of (notNan fR))) hrh ?_
    show Steps p.tables e below (T2.setTop (mkF m 59 #[.val (.int y1), .val (.int y2), .val (.int y3), .val (.double (FP.i2d y1)), .second, .val (.double ff), .second, .val (.double ll), .second, .val (.double rS), .second, .val (.double lh), .second, .unset, .unset, .unset, .unset, .unset, .unset] [(.double rh)])) _
    refine XS.dstore X2.here hx rfl (hb hby at_59) rfl (l' := #[.val (.int y1), .val (.int y2), .val (.int y3), .val (.double (FP.i2d y1)), .second, .val (.double ff), .second, .val (.double ll), .second, .val (.double rS), .second, .val (.double lh), .second, .val (.double rh), .second, .unset, .unset, .unset, .unset]) rfl ?_
    show Steps p.tables e below (T2.setTop (mkF m 61 #[.val (.int y1), .val (.int y2), .val (.int y3), .val (.double (FP.i2d y1)), .second, .val (.double ff), .second, .val (.double ll), .second, .val (.double rS), .second, .val (.double lh), .second, .val (.double rh), .second, .unset, .unset, .unset, .unset] [])) _
    refine XS.dload X2.here hx rfl (hb hby at_61) rfl ?_
    show Steps p.tables e below (T2.setTop (mkF m 63 #[.val (.int y1), .val (.int y2), .val (.int y3), .val (.double (FP.i2d y1)), .second, .val (.double ff), .second, .val (.double ll), .second, .val (.double rS), .second, .val (.double lh), .second, .val (.double rh), .second, .unset, .unset, .unset, .unset] [(.double lh)])) _
    refine XS.dload X2.here hx rfl (hb hby at_63) rfl ?_
    show Steps p.tables e below (T2.setTop (mkF m 65 #[.val (.int y1), .val (.int y2), .val (.int y3), .val (.double (FP.i2d y1)), .second, .val (.double ff), .second, .val (.double ll), .second, .val (.double rS), .second, .val (.double lh), .second, .val (.double rh), .second, .unset, .unset, .unset, .unset] [(.double rh), (.double lh)])) _
    refine XS.dsubS X2.here hx rfl (hb hby at_65) rfl (hdf ▸ (noNaN_of (notNan fdf))) hdf ?_
    show Steps p.tables e below (T2.setTop (mkF m 66 #[.val (.int y1), .val (.int y2), .val (.int y3), .val (.double (FP.i2d y1)), .second, .val (.double ff), .second, .val (.double ll), .second, .val (.double rS), .second, .val (.double lh), .second, .val (.double rh), .second, .unset, .unset, .unset, .unset] [(.double df0)])) _
    refine XS.dstore X2.here hx rfl (hb hby at_66) rfl (l' := #[.val (.int y1), .val (.int y2), .val (.int y3), .val (.double (FP.i2d y1)), .second, .val (.double ff), .second, .val (.double ll), .second, .val (.double rS), .second, .val (.double lh), .second, .val (.double rh), .second, .val (.double df0), .second, .unset, .unset]) rfl ?_
    show Steps p.tables e below (T2.setTop (mkF m 68 #[.val (.int y1), .val (.int y2), .val (.int y3), .val (.double (FP.i2d y1)), .second, .val (.double ff), .second, .val (.double ll), .second, .val (.double rS), .second, .val (.double lh), .second, .val (.double rh), .second, .val (.double df0), .second, .unset, .unset] [])) _
    refine XS.dload X2.here hx rfl (hb hby at_68) rfl ?_
    show Steps p.tables e below (T2.setTop (mkF m 70 #[.val (.int y1), .val (.int y2), .val (.int y3), .val (.double (FP.i2d y1)), .second, .val (.double ff), .second, .val (.double ll), .second, .val (.double rS), .second, .val (.double lh), .second, .val (.double rh), .second, .val (.double df0), .second, .unset, .unset] [(.double df0)])) _
    refine XS.dconst0 X2.here hx rfl (hb hby at_70) rfl ?_
    show Steps p.tables e below (T2.setTop (mkF m 71 #[.val (.int y1), .val (.int y2), .val (.int y3), .val (.double (FP.i2d y1)), .second, .val (.double ff), .second, .val (.double ll), .second, .val (.double rS), .second, .val (.double lh), .second, .val (.double rh), .second, .val (.double df0), .second, .unset, .unset] [(.double FP.dconst0), (.double df0)])) _
    refine XS.dcmpS X2.here hx rfl (hb hby at_71) rfl hk71 ?_
    show Steps p.tables e below (T2.setTop (mkF m 72 #[.val (.int y1), .val (.int y2), .val (.int y3), .val (.double (FP.i2d y1)), .second, .val (.double ff), .second, .val (.double ll), .second, .val (.double rS), .second, .val (.double lh), .second, .val (.double rh), .second, .val (.double df0), .second, .unset, .unset] [(.int k71)])) _
    exact k)
  by_cases q72 : k71 < 0
  · skip
    have s72 := u71.mp q72
    obtain ⟨d77, hd77⟩ : ∃ v : UInt64, FP.dneg df0 = v := ⟨_, rfl⟩
    have gd : Core.DFin d77 ∧ zv d77 ≤ zv V := ⟨hd77 ▸ fin_dneg fdf, by rw [← hd77, zv_dneg]; omega⟩
    obtain ⟨k83, hk83⟩ : ∃ v : Int32, cmpValue (FP.dcmp rh FP.dconst0) .g = v := ⟨_, rfl⟩
    have u83 : k83 < 0 ↔ zv rh < 0 := by
      rw [← hk83, cmpV_of (notNan fR) (notNan DS.zero.1), zv_zero]
      split
      · exact ⟨fun _ => by assumption, fun _ => by decide⟩
      · split
        · exact ⟨fun h => absurd h (by decide), fun h => absurd h (by assumption)⟩
        · exact ⟨fun h => absurd h (by decide), fun h => absurd h (by assumption)⟩
    have c5 : ∀ t, Steps p.tables e below (T2.setTop (mkF m 84 #[.val (.int y1), .val (.int y2), .val (.int y3), .val (.double (FP.i2d y1)), .second, .val (.double ff), .second, .val (.double ll), .second, .val (.double rS), .second, .val (.double lh), .second, .val (.double rh), .second, .val (.double d77), .second, .unset, .unset] [(.int k83)])) t → Steps p.tables e below (s₁.setTop (entryFrame m #[(.int y1), (.int y2), (.int y3)] maxLocals)) t := fun t k => c4 t (by
      show Steps p.tables e below (T2.setTop (mkF m 72 #[.val (.int y1), .val (.int y2), .val (.int y3), .val (.double (FP.i2d y1)), .second, .val (.double ff), .second, .val (.double ll), .second, .val (.double rS), .second, .val (.double lh), .second, .val (.double rh), .second, .val (.double df0), .second, .unset, .unset] [(.int k71)])) _
      refine XS.ifNo X2.here hx rfl (hb hby at_72) rfl (XT.i0_ge_f q72) ?_
      show Steps p.tables e below (T2.setTop (mkF m 75 #[.val (.int y1), .val (.int y2), .val (.int y3), .val (.double (FP.i2d y1)), .second, .val (.double ff), .second, .val (.double ll), .second, .val (.double rS), .second, .val (.double lh), .second, .val (.double rh), .second, .val (.double df0), .second, .unset, .unset] [])) _
      refine XS.dload X2.here hx rfl (hb hby at_75) rfl ?_
      show Steps p.tables e below (T2.setTop (mkF m 77 #[.val (.int y1), .val (.int y2), .val (.int y3), .val (.double (FP.i2d y1)), .second, .val (.double ff), .second, .val (.double ll), .second, .val (.double rS), .second, .val (.double lh), .second, .val (.double rh), .second, .val (.double df0), .second, .unset, .unset] [(.double df0)])) _
      refine XS.dnegS X2.here hx rfl (hb hby at_77) rfl hd77 ?_
      show Steps p.tables e below (T2.setTop (mkF m 78 #[.val (.int y1), .val (.int y2), .val (.int y3), .val (.double (FP.i2d y1)), .second, .val (.double ff), .second, .val (.double ll), .second, .val (.double rS), .second, .val (.double lh), .second, .val (.double rh), .second, .val (.double df0), .second, .unset, .unset] [(.double d77)])) _
      refine XS.dstore X2.here hx rfl (hb hby at_78) rfl (l' := #[.val (.int y1), .val (.int y2), .val (.int y3), .val (.double (FP.i2d y1)), .second, .val (.double ff), .second, .val (.double ll), .second, .val (.double rS), .second, .val (.double lh), .second, .val (.double rh), .second, .val (.double d77), .second, .unset, .unset]) rfl ?_
      show Steps p.tables e below (T2.setTop (mkF m 80 #[.val (.int y1), .val (.int y2), .val (.int y3), .val (.double (FP.i2d y1)), .second, .val (.double ff), .second, .val (.double ll), .second, .val (.double rS), .second, .val (.double lh), .second, .val (.double rh), .second, .val (.double d77), .second, .unset, .unset] [])) _
      refine XS.dload X2.here hx rfl (hb hby at_80) rfl ?_
      show Steps p.tables e below (T2.setTop (mkF m 82 #[.val (.int y1), .val (.int y2), .val (.int y3), .val (.double (FP.i2d y1)), .second, .val (.double ff), .second, .val (.double ll), .second, .val (.double rS), .second, .val (.double lh), .second, .val (.double rh), .second, .val (.double d77), .second, .unset, .unset] [(.double rh)])) _
      refine XS.dconst0 X2.here hx rfl (hb hby at_82) rfl ?_
      show Steps p.tables e below (T2.setTop (mkF m 83 #[.val (.int y1), .val (.int y2), .val (.int y3), .val (.double (FP.i2d y1)), .second, .val (.double ff), .second, .val (.double ll), .second, .val (.double rS), .second, .val (.double lh), .second, .val (.double rh), .second, .val (.double d77), .second, .unset, .unset] [(.double FP.dconst0), (.double rh)])) _
      refine XS.dcmpS X2.here hx rfl (hb hby at_83) rfl hk83 ?_
      show Steps p.tables e below (T2.setTop (mkF m 84 #[.val (.int y1), .val (.int y2), .val (.int y3), .val (.double (FP.i2d y1)), .second, .val (.double ff), .second, .val (.double ll), .second, .val (.double rS), .second, .val (.double lh), .second, .val (.double rh), .second, .val (.double d77), .second, .unset, .unset] [(.int k83)])) _
      exact k)
    by_cases q84 : k83 < 0
    · skip
      have s84 := u83.mp q84
      obtain ⟨d89, hd89⟩ : ∃ v : UInt64, FP.dneg rh = v := ⟨_, rfl⟩
      have gm : Core.DFin d89 ∧ zv V * 2 ^ 40 = zv d89 := ⟨hd89 ▸ fin_dneg fR, by rw [← hd89, zv_dneg]; omega⟩
      obtain ⟨d104, hd104⟩ : ∃ v : UInt64, FP.dmul (4427486594234968593 : UInt64) d89 = v := ⟨_, rfl⟩
      obtain ⟨n104, u105⟩ := last_k gd.1 gm.1 fV gd.2 pV gm.2
      rw [hd104] at u105
      obtain ⟨k105, hk105⟩ : ∃ v : Int32, cmpValue (FP.dcmp d77 d104) .g = v := ⟨_, rfl⟩
      rw [hk105] at u105
      have c6 : ∀ t, Steps p.tables e below (T2.setTop (mkF m 114 #[.val (.int y1), .val (.int y2), .val (.int y3), .val (.double (FP.i2d y1)), .second, .val (.double ff), .second, .val (.double ll), .second, .val (.double rS), .second, .val (.double lh), .second, .val (.double rh), .second, .val (.double d77), .second, .val (.double d89), .second] [(.int (1 : Int32))])) t → Steps p.tables e below (s₁.setTop (entryFrame m #[(.int y1), (.int y2), (.int y3)] maxLocals)) t := fun t k => c5 t (by
        show Steps p.tables e below (T2.setTop (mkF m 84 #[.val (.int y1), .val (.int y2), .val (.int y3), .val (.double (FP.i2d y1)), .second, .val (.double ff), .second, .val (.double ll), .second, .val (.double rS), .second, .val (.double lh), .second, .val (.double rh), .second, .val (.double d77), .second, .unset, .unset] [(.int k83)])) _
        refine XS.ifNo X2.here hx rfl (hb hby at_84) rfl (XT.i0_ge_f q84) ?_
        show Steps p.tables e below (T2.setTop (mkF m 87 #[.val (.int y1), .val (.int y2), .val (.int y3), .val (.double (FP.i2d y1)), .second, .val (.double ff), .second, .val (.double ll), .second, .val (.double rS), .second, .val (.double lh), .second, .val (.double rh), .second, .val (.double d77), .second, .unset, .unset] [])) _
        refine XS.dload X2.here hx rfl (hb hby at_87) rfl ?_
        show Steps p.tables e below (T2.setTop (mkF m 89 #[.val (.int y1), .val (.int y2), .val (.int y3), .val (.double (FP.i2d y1)), .second, .val (.double ff), .second, .val (.double ll), .second, .val (.double rS), .second, .val (.double lh), .second, .val (.double rh), .second, .val (.double d77), .second, .unset, .unset] [(.double rh)])) _
        refine XS.dnegS X2.here hx rfl (hb hby at_89) rfl hd89 ?_
        show Steps p.tables e below (T2.setTop (mkF m 90 #[.val (.int y1), .val (.int y2), .val (.int y3), .val (.double (FP.i2d y1)), .second, .val (.double ff), .second, .val (.double ll), .second, .val (.double rS), .second, .val (.double lh), .second, .val (.double rh), .second, .val (.double d77), .second, .unset, .unset] [(.double d89)])) _
        refine XS.goto X2.here hx rfl (pc0 := 90) (pc' := 95) rfl (hb hby at_90) (by decide) (by decide) ?_
        show Steps p.tables e below (T2.setTop (mkF m 95 #[.val (.int y1), .val (.int y2), .val (.int y3), .val (.double (FP.i2d y1)), .second, .val (.double ff), .second, .val (.double ll), .second, .val (.double rS), .second, .val (.double lh), .second, .val (.double rh), .second, .val (.double d77), .second, .unset, .unset] [(.double d89)])) _
        refine XS.dstore X2.here hx rfl (hb hby at_95) rfl (l' := #[.val (.int y1), .val (.int y2), .val (.int y3), .val (.double (FP.i2d y1)), .second, .val (.double ff), .second, .val (.double ll), .second, .val (.double rS), .second, .val (.double lh), .second, .val (.double rh), .second, .val (.double d77), .second, .val (.double d89), .second]) rfl ?_
        show Steps p.tables e below (T2.setTop (mkF m 97 #[.val (.int y1), .val (.int y2), .val (.int y3), .val (.double (FP.i2d y1)), .second, .val (.double ff), .second, .val (.double ll), .second, .val (.double rS), .second, .val (.double lh), .second, .val (.double rh), .second, .val (.double d77), .second, .val (.double d89), .second] [])) _
        refine XS.dload X2.here hx rfl (hb hby at_97) rfl ?_
        show Steps p.tables e below (T2.setTop (mkF m 99 #[.val (.int y1), .val (.int y2), .val (.int y3), .val (.double (FP.i2d y1)), .second, .val (.double ff), .second, .val (.double ll), .second, .val (.double rS), .second, .val (.double lh), .second, .val (.double rh), .second, .val (.double d77), .second, .val (.double d89), .second] [(.double d77)])) _
        refine Jvm.Stand.ldc2DoubleC X2 hx hown (mvT hZ (hw _ (List.mem_of_getElem? (i := 12) rfl))) (g := (mkF m 99 #[.val (.int y1), .val (.int y2), .val (.int y3), .val (.double (FP.i2d y1)), .second, .val (.double ff), .second, .val (.double ll), .second, .val (.double rS), .second, .val (.double lh), .second, .val (.double rh), .second, .val (.double d77), .second, .val (.double d89), .second] [(.double d77)])) rfl (hb hby at_99) _ ?_
        show Steps p.tables e below (T2.setTop (mkF m 102 #[.val (.int y1), .val (.int y2), .val (.int y3), .val (.double (FP.i2d y1)), .second, .val (.double ff), .second, .val (.double ll), .second, .val (.double rS), .second, .val (.double lh), .second, .val (.double rh), .second, .val (.double d77), .second, .val (.double d89), .second] [(.double (4427486594234968593 : UInt64)), (.double d77)])) _
        refine XS.dload X2.here hx rfl (hb hby at_102) rfl ?_
        show Steps p.tables e below (T2.setTop (mkF m 104 #[.val (.int y1), .val (.int y2), .val (.int y3), .val (.double (FP.i2d y1)), .second, .val (.double ff), .second, .val (.double ll), .second, .val (.double rS), .second, .val (.double lh), .second, .val (.double rh), .second, .val (.double d77), .second, .val (.double d89), .second] [(.double d89), (.double (4427486594234968593 : UInt64)), (.double d77)])) _
        refine XS.dmulS X2.here hx rfl (hb hby at_104) rfl (noNaN_of n104) hd104 ?_
        show Steps p.tables e below (T2.setTop (mkF m 105 #[.val (.int y1), .val (.int y2), .val (.int y3), .val (.double (FP.i2d y1)), .second, .val (.double ff), .second, .val (.double ll), .second, .val (.double rS), .second, .val (.double lh), .second, .val (.double rh), .second, .val (.double d77), .second, .val (.double d89), .second] [(.double d104), (.double d77)])) _
        refine XS.dcmpS X2.here hx rfl (hb hby at_105) rfl hk105 ?_
        show Steps p.tables e below (T2.setTop (mkF m 106 #[.val (.int y1), .val (.int y2), .val (.int y3), .val (.double (FP.i2d y1)), .second, .val (.double ff), .second, .val (.double ll), .second, .val (.double rS), .second, .val (.double lh), .second, .val (.double rh), .second, .val (.double d77), .second, .val (.double d89), .second] [(.int k105)])) _
        refine XS.ifNo X2.here hx rfl (hb hby at_106) rfl (XT.i0_gt_f u105) ?_
        show Steps p.tables e below (T2.setTop (mkF m 109 #[.val (.int y1), .val (.int y2), .val (.int y3), .val (.double (FP.i2d y1)), .second, .val (.double ff), .second, .val (.double ll), .second, .val (.double rS), .second, .val (.double lh), .second, .val (.double rh), .second, .val (.double d77), .second, .val (.double d89), .second] [])) _
        refine XS.iconst X2.here hx rfl (hb hby at_109) ?_
        show Steps p.tables e below (T2.setTop (mkF m 110 #[.val (.int y1), .val (.int y2), .val (.int y3), .val (.double (FP.i2d y1)), .second, .val (.double ff), .second, .val (.double ll), .second, .val (.double rS), .second, .val (.double lh), .second, .val (.double rh), .second, .val (.double d77), .second, .val (.double d89), .second] [(.int (1 : Int32))])) _
        refine XS.goto X2.here hx rfl (pc0 := 110) (pc' := 114) rfl (hb hby at_110) (by decide) (by decide) ?_
        show Steps p.tables e below (T2.setTop (mkF m 114 #[.val (.int y1), .val (.int y2), .val (.int y3), .val (.double (FP.i2d y1)), .second, .val (.double ff), .second, .val (.double ll), .second, .val (.double rS), .second, .val (.double lh), .second, .val (.double rh), .second, .val (.double d77), .second, .val (.double d89), .second] [(.int (1 : Int32))])) _
        exact k)
      obtain ⟨fs, hr, hrun, hended, hW, hsame⟩ := X2.leave (v := (some (.int (1 : Int32)))) (fun h => by rw [Bd.returns] at h; cases h)
      refine ⟨_, _, pre0 _ (c6 _ (retN X2 hx (t := .boolean) Bd.returns (by simp) (hb hby at_114) hr)), hrun, hended, _, _, rfl, ?_, ⟨_, rfl⟩, hW, hsame.mono (by decide) (by decide)⟩
      show Q_0 Z y1 y2 y3 h0 n0 _ T2.heap _
      rw [e2]
      exact ⟨rfl, M2⟩
    · skip
      have s84 : ¬ zv rh < 0 := fun q => q84 (u83.mpr q)
      have gm : Core.DFin rh ∧ zv V * 2 ^ 40 = zv rh := ⟨fR, by omega⟩
      obtain ⟨d104, hd104⟩ : ∃ v : UInt64, FP.dmul (4427486594234968593 : UInt64) rh = v := ⟨_, rfl⟩
      obtain ⟨n104, u105⟩ := last_k gd.1 gm.1 fV gd.2 pV gm.2
      rw [hd104] at u105
      obtain ⟨k105, hk105⟩ : ∃ v : Int32, cmpValue (FP.dcmp d77 d104) .g = v := ⟨_, rfl⟩
      rw [hk105] at u105
      have c7 : ∀ t, Steps p.tables e below (T2.setTop (mkF m 114 #[.val (.int y1), .val (.int y2), .val (.int y3), .val (.double (FP.i2d y1)), .second, .val (.double ff), .second, .val (.double ll), .second, .val (.double rS), .second, .val (.double lh), .second, .val (.double rh), .second, .val (.double d77), .second, .val (.double rh), .second] [(.int (1 : Int32))])) t → Steps p.tables e below (s₁.setTop (entryFrame m #[(.int y1), (.int y2), (.int y3)] maxLocals)) t := fun t k => c5 t (by
        show Steps p.tables e below (T2.setTop (mkF m 84 #[.val (.int y1), .val (.int y2), .val (.int y3), .val (.double (FP.i2d y1)), .second, .val (.double ff), .second, .val (.double ll), .second, .val (.double rS), .second, .val (.double lh), .second, .val (.double rh), .second, .val (.double d77), .second, .unset, .unset] [(.int k83)])) _
        refine XS.ifYes X2.here hx rfl (pc0 := 84) (pc' := 93) rfl (hb hby at_84) rfl (XT.i0_ge_t q84) (by decide) (by decide) ?_
        show Steps p.tables e below (T2.setTop (mkF m 93 #[.val (.int y1), .val (.int y2), .val (.int y3), .val (.double (FP.i2d y1)), .second, .val (.double ff), .second, .val (.double ll), .second, .val (.double rS), .second, .val (.double lh), .second, .val (.double rh), .second, .val (.double d77), .second, .unset, .unset] [])) _
        refine XS.dload X2.here hx rfl (hb hby at_93) rfl ?_
        show Steps p.tables e below (T2.setTop (mkF m 95 #[.val (.int y1), .val (.int y2), .val (.int y3), .val (.double (FP.i2d y1)), .second, .val (.double ff), .second, .val (.double ll), .second, .val (.double rS), .second, .val (.double lh), .second, .val (.double rh), .second, .val (.double d77), .second, .unset, .unset] [(.double rh)])) _
        refine XS.dstore X2.here hx rfl (hb hby at_95) rfl (l' := #[.val (.int y1), .val (.int y2), .val (.int y3), .val (.double (FP.i2d y1)), .second, .val (.double ff), .second, .val (.double ll), .second, .val (.double rS), .second, .val (.double lh), .second, .val (.double rh), .second, .val (.double d77), .second, .val (.double rh), .second]) rfl ?_
        show Steps p.tables e below (T2.setTop (mkF m 97 #[.val (.int y1), .val (.int y2), .val (.int y3), .val (.double (FP.i2d y1)), .second, .val (.double ff), .second, .val (.double ll), .second, .val (.double rS), .second, .val (.double lh), .second, .val (.double rh), .second, .val (.double d77), .second, .val (.double rh), .second] [])) _
        refine XS.dload X2.here hx rfl (hb hby at_97) rfl ?_
        show Steps p.tables e below (T2.setTop (mkF m 99 #[.val (.int y1), .val (.int y2), .val (.int y3), .val (.double (FP.i2d y1)), .second, .val (.double ff), .second, .val (.double ll), .second, .val (.double rS), .second, .val (.double lh), .second, .val (.double rh), .second, .val (.double d77), .second, .val (.double rh), .second] [(.double d77)])) _
        refine Jvm.Stand.ldc2DoubleC X2 hx hown (mvT hZ (hw _ (List.mem_of_getElem? (i := 12) rfl))) (g := (mkF m 99 #[.val (.int y1), .val (.int y2), .val (.int y3), .val (.double (FP.i2d y1)), .second, .val (.double ff), .second, .val (.double ll), .second, .val (.double rS), .second, .val (.double lh), .second, .val (.double rh), .second, .val (.double d77), .second, .val (.double rh), .second] [(.double d77)])) rfl (hb hby at_99) _ ?_
        show Steps p.tables e below (T2.setTop (mkF m 102 #[.val (.int y1), .val (.int y2), .val (.int y3), .val (.double (FP.i2d y1)), .second, .val (.double ff), .second, .val (.double ll), .second, .val (.double rS), .second, .val (.double lh), .second, .val (.double rh), .second, .val (.double d77), .second, .val (.double rh), .second] [(.double (4427486594234968593 : UInt64)), (.double d77)])) _
        refine XS.dload X2.here hx rfl (hb hby at_102) rfl ?_
        show Steps p.tables e below (T2.setTop (mkF m 104 #[.val (.int y1), .val (.int y2), .val (.int y3), .val (.double (FP.i2d y1)), .second, .val (.double ff), .second, .val (.double ll), .second, .val (.double rS), .second, .val (.double lh), .second, .val (.double rh), .second, .val (.double d77), .second, .val (.double rh), .second] [(.double rh), (.double (4427486594234968593 : UInt64)), (.double d77)])) _
        refine XS.dmulS X2.here hx rfl (hb hby at_104) rfl (noNaN_of n104) hd104 ?_
        show Steps p.tables e below (T2.setTop (mkF m 105 #[.val (.int y1), .val (.int y2), .val (.int y3), .val (.double (FP.i2d y1)), .second, .val (.double ff), .second, .val (.double ll), .second, .val (.double rS), .second, .val (.double lh), .second, .val (.double rh), .second, .val (.double d77), .second, .val (.double rh), .second] [(.double d104), (.double d77)])) _
        refine XS.dcmpS X2.here hx rfl (hb hby at_105) rfl hk105 ?_
        show Steps p.tables e below (T2.setTop (mkF m 106 #[.val (.int y1), .val (.int y2), .val (.int y3), .val (.double (FP.i2d y1)), .second, .val (.double ff), .second, .val (.double ll), .second, .val (.double rS), .second, .val (.double lh), .second, .val (.double rh), .second, .val (.double d77), .second, .val (.double rh), .second] [(.int k105)])) _
        refine XS.ifNo X2.here hx rfl (hb hby at_106) rfl (XT.i0_gt_f u105) ?_
        show Steps p.tables e below (T2.setTop (mkF m 109 #[.val (.int y1), .val (.int y2), .val (.int y3), .val (.double (FP.i2d y1)), .second, .val (.double ff), .second, .val (.double ll), .second, .val (.double rS), .second, .val (.double lh), .second, .val (.double rh), .second, .val (.double d77), .second, .val (.double rh), .second] [])) _
        refine XS.iconst X2.here hx rfl (hb hby at_109) ?_
        show Steps p.tables e below (T2.setTop (mkF m 110 #[.val (.int y1), .val (.int y2), .val (.int y3), .val (.double (FP.i2d y1)), .second, .val (.double ff), .second, .val (.double ll), .second, .val (.double rS), .second, .val (.double lh), .second, .val (.double rh), .second, .val (.double d77), .second, .val (.double rh), .second] [(.int (1 : Int32))])) _
        refine XS.goto X2.here hx rfl (pc0 := 110) (pc' := 114) rfl (hb hby at_110) (by decide) (by decide) ?_
        show Steps p.tables e below (T2.setTop (mkF m 114 #[.val (.int y1), .val (.int y2), .val (.int y3), .val (.double (FP.i2d y1)), .second, .val (.double ff), .second, .val (.double ll), .second, .val (.double rS), .second, .val (.double lh), .second, .val (.double rh), .second, .val (.double d77), .second, .val (.double rh), .second] [(.int (1 : Int32))])) _
        exact k)
      obtain ⟨fs, hr, hrun, hended, hW, hsame⟩ := X2.leave (v := (some (.int (1 : Int32)))) (fun h => by rw [Bd.returns] at h; cases h)
      refine ⟨_, _, pre0 _ (c7 _ (retN X2 hx (t := .boolean) Bd.returns (by simp) (hb hby at_114) hr)), hrun, hended, _, _, rfl, ?_, ⟨_, rfl⟩, hW, hsame.mono (by decide) (by decide)⟩
      show Q_0 Z y1 y2 y3 h0 n0 _ T2.heap _
      rw [e2]
      exact ⟨rfl, M2⟩
  · skip
    have s72 : ¬ zv df0 < 0 := fun q => q72 (u71.mpr q)
    have gd : Core.DFin df0 ∧ zv df0 ≤ zv V := ⟨fdf, v1⟩
    obtain ⟨k83, hk83⟩ : ∃ v : Int32, cmpValue (FP.dcmp rh FP.dconst0) .g = v := ⟨_, rfl⟩
    have u83 : k83 < 0 ↔ zv rh < 0 := by
      rw [← hk83, cmpV_of (notNan fR) (notNan DS.zero.1), zv_zero]
      split
      · exact ⟨fun _ => by assumption, fun _ => by decide⟩
      · split
        · exact ⟨fun h => absurd h (by decide), fun h => absurd h (by assumption)⟩
        · exact ⟨fun h => absurd h (by decide), fun h => absurd h (by assumption)⟩
    have c8 : ∀ t, Steps p.tables e below (T2.setTop (mkF m 84 #[.val (.int y1), .val (.int y2), .val (.int y3), .val (.double (FP.i2d y1)), .second, .val (.double ff), .second, .val (.double ll), .second, .val (.double rS), .second, .val (.double lh), .second, .val (.double rh), .second, .val (.double df0), .second, .unset, .unset] [(.int k83)])) t → Steps p.tables e below (s₁.setTop (entryFrame m #[(.int y1), (.int y2), (.int y3)] maxLocals)) t := fun t k => c4 t (by
      show Steps p.tables e below (T2.setTop (mkF m 72 #[.val (.int y1), .val (.int y2), .val (.int y3), .val (.double (FP.i2d y1)), .second, .val (.double ff), .second, .val (.double ll), .second, .val (.double rS), .second, .val (.double lh), .second, .val (.double rh), .second, .val (.double df0), .second, .unset, .unset] [(.int k71)])) _
      refine XS.ifYes X2.here hx rfl (pc0 := 72) (pc' := 80) rfl (hb hby at_72) rfl (XT.i0_ge_t q72) (by decide) (by decide) ?_
      show Steps p.tables e below (T2.setTop (mkF m 80 #[.val (.int y1), .val (.int y2), .val (.int y3), .val (.double (FP.i2d y1)), .second, .val (.double ff), .second, .val (.double ll), .second, .val (.double rS), .second, .val (.double lh), .second, .val (.double rh), .second, .val (.double df0), .second, .unset, .unset] [])) _
      refine XS.dload X2.here hx rfl (hb hby at_80) rfl ?_
      show Steps p.tables e below (T2.setTop (mkF m 82 #[.val (.int y1), .val (.int y2), .val (.int y3), .val (.double (FP.i2d y1)), .second, .val (.double ff), .second, .val (.double ll), .second, .val (.double rS), .second, .val (.double lh), .second, .val (.double rh), .second, .val (.double df0), .second, .unset, .unset] [(.double rh)])) _
      refine XS.dconst0 X2.here hx rfl (hb hby at_82) rfl ?_
      show Steps p.tables e below (T2.setTop (mkF m 83 #[.val (.int y1), .val (.int y2), .val (.int y3), .val (.double (FP.i2d y1)), .second, .val (.double ff), .second, .val (.double ll), .second, .val (.double rS), .second, .val (.double lh), .second, .val (.double rh), .second, .val (.double df0), .second, .unset, .unset] [(.double FP.dconst0), (.double rh)])) _
      refine XS.dcmpS X2.here hx rfl (hb hby at_83) rfl hk83 ?_
      show Steps p.tables e below (T2.setTop (mkF m 84 #[.val (.int y1), .val (.int y2), .val (.int y3), .val (.double (FP.i2d y1)), .second, .val (.double ff), .second, .val (.double ll), .second, .val (.double rS), .second, .val (.double lh), .second, .val (.double rh), .second, .val (.double df0), .second, .unset, .unset] [(.int k83)])) _
      exact k)
    by_cases q84 : k83 < 0
    · skip
      have s84 := u83.mp q84
      obtain ⟨d89, hd89⟩ : ∃ v : UInt64, FP.dneg rh = v := ⟨_, rfl⟩
      have gm : Core.DFin d89 ∧ zv V * 2 ^ 40 = zv d89 := ⟨hd89 ▸ fin_dneg fR, by rw [← hd89, zv_dneg]; omega⟩
      obtain ⟨d104, hd104⟩ : ∃ v : UInt64, FP.dmul (4427486594234968593 : UInt64) d89 = v := ⟨_, rfl⟩
      obtain ⟨n104, u105⟩ := last_k gd.1 gm.1 fV gd.2 pV gm.2
      rw [hd104] at u105
      obtain ⟨k105, hk105⟩ : ∃ v : Int32, cmpValue (FP.dcmp df0 d104) .g = v := ⟨_, rfl⟩
      rw [hk105] at u105
      have c9 : ∀ t, Steps p.tables e below (T2.setTop (mkF m 114 #[.val (.int y1), .val (.int y2), .val (.int y3), .val (.double (FP.i2d y1)), .second, .val (.double ff), .second, .val (.double ll), .second, .val (.double rS), .second, .val (.double lh), .second, .val (.double rh), .second, .val (.double df0), .second, .val (.double d89), .second] [(.int (1 : Int32))])) t → Steps p.tables e below (s₁.setTop (entryFrame m #[(.int y1), (.int y2), (.int y3)] maxLocals)) t := fun t k => c8 t (by
        show Steps p.tables e below (T2.setTop (mkF m 84 #[.val (.int y1), .val (.int y2), .val (.int y3), .val (.double (FP.i2d y1)), .second, .val (.double ff), .second, .val (.double ll), .second, .val (.double rS), .second, .val (.double lh), .second, .val (.double rh), .second, .val (.double df0), .second, .unset, .unset] [(.int k83)])) _
        refine XS.ifNo X2.here hx rfl (hb hby at_84) rfl (XT.i0_ge_f q84) ?_
        show Steps p.tables e below (T2.setTop (mkF m 87 #[.val (.int y1), .val (.int y2), .val (.int y3), .val (.double (FP.i2d y1)), .second, .val (.double ff), .second, .val (.double ll), .second, .val (.double rS), .second, .val (.double lh), .second, .val (.double rh), .second, .val (.double df0), .second, .unset, .unset] [])) _
        refine XS.dload X2.here hx rfl (hb hby at_87) rfl ?_
        show Steps p.tables e below (T2.setTop (mkF m 89 #[.val (.int y1), .val (.int y2), .val (.int y3), .val (.double (FP.i2d y1)), .second, .val (.double ff), .second, .val (.double ll), .second, .val (.double rS), .second, .val (.double lh), .second, .val (.double rh), .second, .val (.double df0), .second, .unset, .unset] [(.double rh)])) _
        refine XS.dnegS X2.here hx rfl (hb hby at_89) rfl hd89 ?_
        show Steps p.tables e below (T2.setTop (mkF m 90 #[.val (.int y1), .val (.int y2), .val (.int y3), .val (.double (FP.i2d y1)), .second, .val (.double ff), .second, .val (.double ll), .second, .val (.double rS), .second, .val (.double lh), .second, .val (.double rh), .second, .val (.double df0), .second, .unset, .unset] [(.double d89)])) _
        refine XS.goto X2.here hx rfl (pc0 := 90) (pc' := 95) rfl (hb hby at_90) (by decide) (by decide) ?_
        show Steps p.tables e below (T2.setTop (mkF m 95 #[.val (.int y1), .val (.int y2), .val (.int y3), .val (.double (FP.i2d y1)), .second, .val (.double ff), .second, .val (.double ll), .second, .val (.double rS), .second, .val (.double lh), .second, .val (.double rh), .second, .val (.double df0), .second, .unset, .unset] [(.double d89)])) _
        refine XS.dstore X2.here hx rfl (hb hby at_95) rfl (l' := #[.val (.int y1), .val (.int y2), .val (.int y3), .val (.double (FP.i2d y1)), .second, .val (.double ff), .second, .val (.double ll), .second, .val (.double rS), .second, .val (.double lh), .second, .val (.double rh), .second, .val (.double df0), .second, .val (.double d89), .second]) rfl ?_
        show Steps p.tables e below (T2.setTop (mkF m 97 #[.val (.int y1), .val (.int y2), .val (.int y3), .val (.double (FP.i2d y1)), .second, .val (.double ff), .second, .val (.double ll), .second, .val (.double rS), .second, .val (.double lh), .second, .val (.double rh), .second, .val (.double df0), .second, .val (.double d89), .second] [])) _
        refine XS.dload X2.here hx rfl (hb hby at_97) rfl ?_
        show Steps p.tables e below (T2.setTop (mkF m 99 #[.val (.int y1), .val (.int y2), .val (.int y3), .val (.double (FP.i2d y1)), .second, .val (.double ff), .second, .val (.double ll), .second, .val (.double rS), .second, .val (.double lh), .second, .val (.double rh), .second, .val (.double df0), .second, .val (.double d89), .second] [(.double df0)])) _
        refine Jvm.Stand.ldc2DoubleC X2 hx hown (mvT hZ (hw _ (List.mem_of_getElem? (i := 12) rfl))) (g := (mkF m 99 #[.val (.int y1), .val (.int y2), .val (.int y3), .val (.double (FP.i2d y1)), .second, .val (.double ff), .second, .val (.double ll), .second, .val (.double rS), .second, .val (.double lh), .second, .val (.double rh), .second, .val (.double df0), .second, .val (.double d89), .second] [(.double df0)])) rfl (hb hby at_99) _ ?_
        show Steps p.tables e below (T2.setTop (mkF m 102 #[.val (.int y1), .val (.int y2), .val (.int y3), .val (.double (FP.i2d y1)), .second, .val (.double ff), .second, .val (.double ll), .second, .val (.double rS), .second, .val (.double lh), .second, .val (.double rh), .second, .val (.double df0), .second, .val (.double d89), .second] [(.double (4427486594234968593 : UInt64)), (.double df0)])) _
        refine XS.dload X2.here hx rfl (hb hby at_102) rfl ?_
        show Steps p.tables e below (T2.setTop (mkF m 104 #[.val (.int y1), .val (.int y2), .val (.int y3), .val (.double (FP.i2d y1)), .second, .val (.double ff), .second, .val (.double ll), .second, .val (.double rS), .second, .val (.double lh), .second, .val (.double rh), .second, .val (.double df0), .second, .val (.double d89), .second] [(.double d89), (.double (4427486594234968593 : UInt64)), (.double df0)])) _
        refine XS.dmulS X2.here hx rfl (hb hby at_104) rfl (noNaN_of n104) hd104 ?_
        show Steps p.tables e below (T2.setTop (mkF m 105 #[.val (.int y1), .val (.int y2), .val (.int y3), .val (.double (FP.i2d y1)), .second, .val (.double ff), .second, .val (.double ll), .second, .val (.double rS), .second, .val (.double lh), .second, .val (.double rh), .second, .val (.double df0), .second, .val (.double d89), .second] [(.double d104), (.double df0)])) _
        refine XS.dcmpS X2.here hx rfl (hb hby at_105) rfl hk105 ?_
        show Steps p.tables e below (T2.setTop (mkF m 106 #[.val (.int y1), .val (.int y2), .val (.int y3), .val (.double (FP.i2d y1)), .second, .val (.double ff), .second, .val (.double ll), .second, .val (.double rS), .second, .val (.double lh), .second, .val (.double rh), .second, .val (.double df0), .second, .val (.double d89), .second] [(.int k105)])) _
        refine XS.ifNo X2.here hx rfl (hb hby at_106) rfl (XT.i0_gt_f u105) ?_
        show Steps p.tables e below (T2.setTop (mkF m 109 #[.val (.int y1), .val (.int y2), .val (.int y3), .val (.double (FP.i2d y1)), .second, .val (.double ff), .second, .val (.double ll), .second, .val (.double rS), .second, .val (.double lh), .second, .val (.double rh), .second, .val (.double df0), .second, .val (.double d89), .second] [])) _
        refine XS.iconst X2.here hx rfl (hb hby at_109) ?_
        show Steps p.tables e below (T2.setTop (mkF m 110 #[.val (.int y1), .val (.int y2), .val (.int y3), .val (.double (FP.i2d y1)), .second, .val (.double ff), .second, .val (.double ll), .second, .val (.double rS), .second, .val (.double lh), .second, .val (.double rh), .second, .val (.double df0), .second, .val (.double d89), .second] [(.int (1 : Int32))])) _
        refine XS.goto X2.here hx rfl (pc0 := 110) (pc' := 114) rfl (hb hby at_110) (by decide) (by decide) ?_
        show Steps p.tables e below (T2.setTop (mkF m 114 #[.val (.int y1), .val (.int y2), .val (.int y3), .val (.double (FP.i2d y1)), .second, .val (.double ff), .second, .val (.double ll), .second, .val (.double rS), .second, .val (.double lh), .second, .val (.double rh), .second, .val (.double df0), .second, .val (.double d89), .second] [(.int (1 : Int32))])) _
        exact k)
      obtain ⟨fs, hr, hrun, hended, hW, hsame⟩ := X2.leave (v := (some (.int (1 : Int32)))) (fun h => by rw [Bd.returns] at h; cases h)
      refine ⟨_, _, pre0 _ (c9 _ (retN X2 hx (t := .boolean) Bd.returns (by simp) (hb hby at_114) hr)), hrun, hended, _, _, rfl, ?_, ⟨_, rfl⟩, hW, hsame.mono (by decide) (by decide)⟩
      show Q_0 Z y1 y2 y3 h0 n0 _ T2.heap _
      rw [e2]
      exact ⟨rfl, M2⟩
    · skip
      have s84 : ¬ zv rh < 0 := fun q => q84 (u83.mpr q)
      have gm : Core.DFin rh ∧ zv V * 2 ^ 40 = zv rh := ⟨fR, by omega⟩
      obtain ⟨d104, hd104⟩ : ∃ v : UInt64, FP.dmul (4427486594234968593 : UInt64) rh = v := ⟨_, rfl⟩
      obtain ⟨n104, u105⟩ := last_k gd.1 gm.1 fV gd.2 pV gm.2
      rw [hd104] at u105
      obtain ⟨k105, hk105⟩ : ∃ v : Int32, cmpValue (FP.dcmp df0 d104) .g = v := ⟨_, rfl⟩
      rw [hk105] at u105
      have c10 : ∀ t, Steps p.tables e below (T2.setTop (mkF m 114 #[.val (.int y1), .val (.int y2), .val (.int y3), .val (.double (FP.i2d y1)), .second, .val (.double ff), .second, .val (.double ll), .second, .val (.double rS), .second, .val (.double lh), .second, .val (.double rh), .second, .val (.double df0), .second, .val (.double rh), .second] [(.int (1 : Int32))])) t → Steps p.tables e below (s₁.setTop (entryFrame m #[(.int y1), (.int y2), (.int y3)] maxLocals)) t := fun t k => c8 t (by
        show Steps p.tables e below (T2.setTop (mkF m 84 #[.val (.int y1), .val (.int y2), .val (.int y3), .val (.double (FP.i2d y1)), .second, .val (.double ff), .second, .val (.double ll), .second, .val (.double rS), .second, .val (.double lh), .second, .val (.double rh), .second, .val (.double df0), .second, .unset, .unset] [(.int k83)])) _
        refine XS.ifYes X2.here hx rfl (pc0 := 84) (pc' := 93) rfl (hb hby at_84) rfl (XT.i0_ge_t q84) (by decide) (by decide) ?_
        show Steps p.tables e below (T2.setTop (mkF m 93 #[.val (.int y1), .val (.int y2), .val (.int y3), .val (.double (FP.i2d y1)), .second, .val (.double ff), .second, .val (.double ll), .second, .val (.double rS), .second, .val (.double lh), .second, .val (.double rh), .second, .val (.double df0), .second, .unset, .unset] [])) _
        refine XS.dload X2.here hx rfl (hb hby at_93) rfl ?_
        show Steps p.tables e below (T2.setTop (mkF m 95 #[.val (.int y1), .val (.int y2), .val (.int y3), .val (.double (FP.i2d y1)), .second, .val (.double ff), .second, .val (.double ll), .second, .val (.double rS), .second, .val (.double lh), .second, .val (.double rh), .second, .val (.double df0), .second, .unset, .unset] [(.double rh)])) _
        refine XS.dstore X2.here hx rfl (hb hby at_95) rfl (l' := #[.val (.int y1), .val (.int y2), .val (.int y3), .val (.double (FP.i2d y1)), .second, .val (.double ff), .second, .val (.double ll), .second, .val (.double rS), .second, .val (.double lh), .second, .val (.double rh), .second, .val (.double df0), .second, .val (.double rh), .second]) rfl ?_
        show Steps p.tables e below (T2.setTop (mkF m 97 #[.val (.int y1), .val (.int y2), .val (.int y3), .val (.double (FP.i2d y1)), .second, .val (.double ff), .second, .val (.double ll), .second, .val (.double rS), .second, .val (.double lh), .second, .val (.double rh), .second, .val (.double df0), .second, .val (.double rh), .second] [])) _
        refine XS.dload X2.here hx rfl (hb hby at_97) rfl ?_
        show Steps p.tables e below (T2.setTop (mkF m 99 #[.val (.int y1), .val (.int y2), .val (.int y3), .val (.double (FP.i2d y1)), .second, .val (.double ff), .second, .val (.double ll), .second, .val (.double rS), .second, .val (.double lh), .second, .val (.double rh), .second, .val (.double df0), .second, .val (.double rh), .second] [(.double df0)])) _
        refine Jvm.Stand.ldc2DoubleC X2 hx hown (mvT hZ (hw _ (List.mem_of_getElem? (i := 12) rfl))) (g := (mkF m 99 #[.val (.int y1), .val (.int y2), .val (.int y3), .val (.double (FP.i2d y1)), .second, .val (.double ff), .second, .val (.double ll), .second, .val (.double rS), .second, .val (.double lh), .second, .val (.double rh), .second, .val (.double df0), .second, .val (.double rh), .second] [(.double df0)])) rfl (hb hby at_99) _ ?_
        show Steps p.tables e below (T2.setTop (mkF m 102 #[.val (.int y1), .val (.int y2), .val (.int y3), .val (.double (FP.i2d y1)), .second, .val (.double ff), .second, .val (.double ll), .second, .val (.double rS), .second, .val (.double lh), .second, .val (.double rh), .second, .val (.double df0), .second, .val (.double rh), .second] [(.double (4427486594234968593 : UInt64)), (.double df0)])) _
        refine XS.dload X2.here hx rfl (hb hby at_102) rfl ?_
        show Steps p.tables e below (T2.setTop (mkF m 104 #[.val (.int y1), .val (.int y2), .val (.int y3), .val (.double (FP.i2d y1)), .second, .val (.double ff), .second, .val (.double ll), .second, .val (.double rS), .second, .val (.double lh), .second, .val (.double rh), .second, .val (.double df0), .second, .val (.double rh), .second] [(.double rh), (.double (4427486594234968593 : UInt64)), (.double df0)])) _
        refine XS.dmulS X2.here hx rfl (hb hby at_104) rfl (noNaN_of n104) hd104 ?_
        show Steps p.tables e below (T2.setTop (mkF m 105 #[.val (.int y1), .val (.int y2), .val (.int y3), .val (.double (FP.i2d y1)), .second, .val (.double ff), .second, .val (.double ll), .second, .val (.double rS), .second, .val (.double lh), .second, .val (.double rh), .second, .val (.double df0), .second, .val (.double rh), .second] [(.double d104), (.double df0)])) _
        refine XS.dcmpS X2.here hx rfl (hb hby at_105) rfl hk105 ?_
        show Steps p.tables e below (T2.setTop (mkF m 106 #[.val (.int y1), .val (.int y2), .val (.int y3), .val (.double (FP.i2d y1)), .second, .val (.double ff), .second, .val (.double ll), .second, .val (.double rS), .second, .val (.double lh), .second, .val (.double rh), .second, .val (.double df0), .second, .val (.double rh), .second] [(.int k105)])) _
        refine XS.ifNo X2.here hx rfl (hb hby at_106) rfl (XT.i0_gt_f u105) ?_
        show Steps p.tables e below (T2.setTop (mkF m 109 #[.val (.int y1), .val (.int y2), .val (.int y3), .val (.double (FP.i2d y1)), .second, .val (.double ff), .second, .val (.double ll), .second, .val (.double rS), .second, .val (.double lh), .second, .val (.double rh), .second, .val (.double df0), .second, .val (.double rh), .second] [])) _
        refine XS.iconst X2.here hx rfl (hb hby at_109) ?_
        show Steps p.tables e below (T2.setTop (mkF m 110 #[.val (.int y1), .val (.int y2), .val (.int y3), .val (.double (FP.i2d y1)), .second, .val (.double ff), .second, .val (.double ll), .second, .val (.double rS), .second, .val (.double lh), .second, .val (.double rh), .second, .val (.double df0), .second, .val (.double rh), .second] [(.int (1 : Int32))])) _
        refine XS.goto X2.here hx rfl (pc0 := 110) (pc' := 114) rfl (hb hby at_110) (by decide) (by decide) ?_
        show Steps p.tables e below (T2.setTop (mkF m 114 #[.val (.int y1), .val (.int y2), .val (.int y3), .val (.double (FP.i2d y1)), .second, .val (.double ff), .second, .val (.double ll), .second, .val (.double rS), .second, .val (.double lh), .second, .val (.double rh), .second, .val (.double df0), .second, .val (.double rh), .second] [(.int (1 : Int32))])) _
        exact k)
      obtain ⟨fs, hr, hrun, hended, hW, hsame⟩ := X2.leave (v := (some (.int (1 : Int32)))) (fun h => by rw [Bd.returns] at h; cases h)
      refine ⟨_, _, pre0 _ (c10 _ (retN X2 hx (t := .boolean) Bd.returns (by simp) (hb hby at_114) hr)), hrun, hended, _, _, rfl, ?_, ⟨_, rfl⟩, hW, hsame.mono (by decide) (by decide)⟩
      show Q_0 Z y1 y2 y3 h0 n0 _ T2.heap _
      rw [e2]
      exact ⟨rfl, M2⟩
set_option maxRecDepth 65536 in
set_option maxHeartbeats 40000000 in
theorem comes_1 {Post : Tables → Env → Array Value → State → Outcome → State → Prop} (hpost : ∀ tb e args s v u, (limb_1_1.after args s (.returned v) u = true ∧ limb_1_2.after args s (.returned v) u = true ∧ True) → FrameEnd s (.returned v) u (Jvm.fieldLocs frame_1_writes args s ++ Jvm.arrayLocs frame_1_arrays args s ++ Jvm.staticLocs frame_1_statics s) 0 0 → Post tb e args s (.returned v) u) :
    ArmFor flags0 classFile x code maxLocals ret World_1 tables_1 room_1 Calls_1 rest_1 Pre_1 Post := by
  intro l hfl _ _ p e ha hc hk s m args below hf hA hF happ hP
  obtain ⟨hcalls, hrest, hpre⟩ := hP
  obtain ⟨-, -, -, hnamed, -, -, -, hat⟩ := (Spec.applies_iff hf).mp happ
  obtain ⟨hg, hn⟩ := and_e (Cond.before_iff.mp (show (Jvm.Cond.and given_1 narrow_1).before args s = true from hpre))
  obtain ⟨g0, r0⟩ := and_e hg
  obtain ⟨g1, r1⟩ := and_e r0
  obtain ⟨g2, r2⟩ := and_e r1
  obtain ⟨w0, w1, w2, rfl⟩ : ∃ w0 w1 w2 : Value, args = #[w0, w1, w2] := by
    have hs : args.size = 3 := by simpa [Cond.value, given_1] using g0
    obtain ⟨L⟩ := args
    match L, hs with
    | [w0, w1, w2], _ => exact ⟨w0, w1, w2, rfl⟩
  have hw := fun d (hd : d ∈ tables_1) => atoms_spec (ws := Jvm.Cond.code x code maxLocals ret :: tables_1) hat d (List.mem_cons_of_mem _ hd)
  obtain ⟨i0, e0⟩ := is_v g1
  obtain rfl : w0 = (.int i0) := Option.some.inj e0
  obtain ⟨i1, e1⟩ := is_v g2
  obtain rfl : w1 = (.int i1) := Option.some.inj e1
  obtain ⟨i2, e2⟩ := is_v r2
  obtain rfl : w2 = (.int i2) := Option.some.inj e2
  obtain ⟨n, o, h1, h2, h3, _, L, rfl, ⟨rfl, N⟩, hq⟩ := rm_0 l s _ hw tables_1 i0 i1 i2 s.heap s.heap.size (Nat.le_refl _)  p e ha hc hk s m _ below hf ((Spec.applies_iff_loose hf).mp happ).1 ⟨rfl, State.Warmed39.refl s, rfl⟩ trivial
  refine ⟨n, _, h1, h2, h3, hpost _ _ _ _ _ _ ⟨Cond.after_iff.mpr rfl, Cond.after_iff.mpr (eq_i res_at (Term.int_eval (1)) rfl), trivial⟩ ⟨hq.1, hq.2.1, (hq.2.2.sift fun y hy => Or.inr (N y hy)).mono (by decide) (by decide)⟩⟩
theorem main_1_1 : Claimed_1_1 := comes_1 fun _ _ _ _ _ _ h hF => ⟨h.1, hF⟩
theorem main_1_2 : Claimed_1_2 := comes_1 fun _ _ _ _ _ _ h hF => ⟨h.2.1, hF⟩
end Jvm.Pilot.@@N@@
namespace Jvm.Pilot.@@N@@
open Jvm Jvm.ClassFile Sem Op Lib Jvm.Free Jvm.Stand Jvm.Pilot.@@N@@.Jvm.D
/-! MADE BY PROGRAM (witnessworld.py) out of the Statement's table words and the real class files: 10 classes; the members and pool entries that the words name. The judged class is class 1, her method 1. -/
namespace start1
open Jvm.ClassFile
def u (s : String) : CpInfo := .utf8 (stringToUtf16 s)
/-- a pool by its gaps: so many unusable entries, then the entry; so many at the end -/
def gap : Nat → List CpInfo → List CpInfo
  | 0, r => r
  | n + 1, r => .unusable :: gap n r
def poolList (es : List (Nat × CpInfo)) (last : Nat) : List CpInfo := es.foldr (fun e r => gap e.1 (e.2 :: r)) (gap last [])
def pool (es : List (Nat × CpInfo)) (last : Nat) : Array CpInfo := ⟨poolList es last⟩
def fileOf (pool : Array CpInfo) (this : Nat) (attrs : Array Attribute := #[]) (ms : Array MethodInfo := #[]) (fl : Nat := 33) (sup : Nat := 0) (ifs : Array Nat := #[]) (fds : Array FieldInfo := #[]) : ClassFile where
  minorVersion := 0
  majorVersion := 65
  constantPool := pool
  accessFlags := fl
  thisClass := this
  superClass := sup
  interfaces := ifs
  fields := fds
  methods := ms
  attributes := attrs
def plain (name : String) (sup : Option ClassId) : Class where
  name := name
  kind := .ordinary
  loader := none
  accessFlags := 33
  super := sup
  interfaces := #[]
  cf := none
  fields := #[]
  methods := #[]
  instanceTypes := #[]
  staticTypes := #[]
  resolved := #[]
  callSites := []
  init := .initialized
  statics := none
  mirror := none

def pool0 : Array CpInfo := pool [(5, u "<init>"), (0, u "()V"), (1, .class_ 10), (1, u "java/lang/Object")] 113

def k0m0 : Method := { name := "<init>", desc := "()V", sig := { parameters := [], returnType := none }, accessFlags := 1, code := none }
/-- java/lang/Object -/
def k0 : Class := { plain "java/lang/Object" none with
  accessFlags := 33
  interfaces := #[]
  cf := some (fileOf pool0 8 #[] #[{ accessFlags := 1, nameIndex := 5, descriptorIndex := 6, attributes := #[] }] 33 0 #[] #[])
  fields := #[]
  methods := #[k0m0]
  instanceTypes := #[]
  staticTypes := #[]
  resolved := Array.replicate 124 none
  statics := none }

def pool1 : Array CpInfo := pool [(2, .class_ 4), (1, u "java/lang/Object"), (0, u "<init>"), (0, u "()V"), (0, .integer 2147483647), (0, .double 4593671619917905920), (1, .integer 1048575), (0, .double 4598175219545276416), (1, .methodref 14 15), (0, .class_ 16), (0, .nameAndType 17 18), (0, u "com/example/rival_tongues/rivaltongues/engine/Bm25"), (0, u "saturate"), (0, u "(DDD)D"), (0, .double 4608083138725491507), (1, .double 4612136378390124954), (1, .double 4427486594234968593), (1, .class_ 26), (0, u "com/example/rival_tongues/rivaltongues/engine/Bm25SaturatePinLaw"), (2, u "law"), (0, u "(III)Z")] 3

def k1m0 : Method := { name := "<init>", desc := "()V", sig := { parameters := [], returnType := none }, accessFlags := 1, code := none }
def k1c1 : Code := { maxStack := 8, maxLocals := 19, code := code, exceptionTable := #[], attributes := #[] }
def k1m1 : Method := { name := "law", desc := "(III)Z", sig := { parameters := [.int, .int, .int], returnType := some .boolean }, accessFlags := 9, code := some k1c1 }
/-- com/example/rival_tongues/rivaltongues/engine/Bm25SaturatePinLaw -/
def k1 : Class := { plain "com/example/rival_tongues/rivaltongues/engine/Bm25SaturatePinLaw" (some 0) with
  accessFlags := 49
  interfaces := #[]
  cf := some (fileOf pool1 25 #[] #[{ accessFlags := 1, nameIndex := 5, descriptorIndex := 6, attributes := #[] }, { accessFlags := 9, nameIndex := 29, descriptorIndex := 30, attributes := #[] }] 49 2 #[] #[])
  fields := #[]
  methods := #[k1m0, k1m1]
  instanceTypes := #[]
  staticTypes := #[]
  resolved := Array.replicate 34 none
  statics := none }

def pool2 : Array CpInfo := pool [(2, .class_ 4), (1, u "java/lang/Object"), (0, u "<init>"), (0, u "()V"), (1, .class_ 10), (1, u "com/example/rival_tongues/rivaltongues/engine/RankingModel"), (0, u "BY_NAME"), (0, u "Ljava/util/SortedMap;"), (107, .class_ 121), (0, u "com/example/rival_tongues/rivaltongues/engine/RankingModel$QueryTerm"), (49, .class_ 173), (1, u "com/example/rival_tongues/rivaltongues/engine/RankingModel$QueryScorer"), (59, u "DEFAULT"), (0, u "Ljava/lang/String;")] 79

def k2m0 : Method := { name := "<init>", desc := "()V", sig := { parameters := [], returnType := none }, accessFlags := 1, code := none }
/-- com/example/rival_tongues/rivaltongues/engine/RankingModel -/
def k2 : Class := { plain "com/example/rival_tongues/rivaltongues/engine/RankingModel" (some 0) with
  accessFlags := 1057
  interfaces := #[]
  cf := some (fileOf pool2 8 #[.nestMembers #[171, 120]] #[{ accessFlags := 1, nameIndex := 5, descriptorIndex := 6, attributes := #[] }] 1057 2 #[] #[{ accessFlags := 25, nameIndex := 233, descriptorIndex := 234, attributes := #[] }, { accessFlags := 26, nameIndex := 11, descriptorIndex := 12, attributes := #[] }])
  fields := #[{ name := "DEFAULT", type := (.object "java/lang/String"), accessFlags := 25, slot := 0, constantValue := 0 }, { name := "BY_NAME", type := (.object "java/util/SortedMap"), accessFlags := 26, slot := 1, constantValue := 0 }]
  methods := #[k2m0]
  instanceTypes := #[]
  staticTypes := #[(.object "java/lang/String"), (.object "java/util/SortedMap")]
  resolved := Array.replicate 314 none
  statics := none }

def pool3 : Array CpInfo := pool [(2, .class_ 4), (1, u "com/example/rival_tongues/rivaltongues/engine/RankingModel"), (0, u "<init>"), (0, u "()V"), (0, .class_ 8), (0, u "com/example/rival_tongues/rivaltongues/engine/Bm25$Scorer"), (21, .class_ 31), (0, u "com/example/rival_tongues/rivaltongues/engine/Bm25"), (14, .double 4612136378390124954), (1, .double 4608083138725491507), (1, u "K1"), (0, u "D"), (1, u "B"), (10, u "saturate"), (0, u "(DDD)D")] 11

def k3m0 : Method := { name := "<init>", desc := "()V", sig := { parameters := [], returnType := none }, accessFlags := 1, code := none }
def k3c1 : Code := { maxStack := 8, maxLocals := 6, code := prog_8_method_5_code, exceptionTable := #[], attributes := #[] }
def k3m1 : Method := { name := "saturate", desc := "(DDD)D", sig := { parameters := [.double, .double, .double], returnType := some .double }, accessFlags := 8, code := some k3c1 }
/-- com/example/rival_tongues/rivaltongues/engine/Bm25 -/
def k3 : Class := { plain "com/example/rival_tongues/rivaltongues/engine/Bm25" (some 2) with
  accessFlags := 49
  interfaces := #[]
  cf := some (fileOf pool3 30 #[.nestMembers #[7]] #[{ accessFlags := 1, nameIndex := 5, descriptorIndex := 6, attributes := #[] }, { accessFlags := 8, nameIndex := 64, descriptorIndex := 65, attributes := #[] }] 49 2 #[] #[{ accessFlags := 24, nameIndex := 50, descriptorIndex := 51, attributes := #[] }, { accessFlags := 24, nameIndex := 53, descriptorIndex := 51, attributes := #[] }])
  fields := #[{ name := "K1", type := .double, accessFlags := 24, slot := 0, constantValue := 0 }, { name := "B", type := .double, accessFlags := 24, slot := 1, constantValue := 0 }]
  methods := #[k3m0, k3m1]
  instanceTypes := #[]
  staticTypes := #[.double, .double]
  resolved := Array.replicate 77 none
  statics := none }

def pool4 : Array CpInfo := pool [(1, u "java/lang/Cloneable"), (0, .class_ 1), (0, u "java/lang/Object"), (0, .class_ 3)] 3

/-- java/lang/Cloneable -/
def k4 : Class := { plain "java/lang/Cloneable" (some 0) with
  accessFlags := 1537
  interfaces := #[]
  cf := some (fileOf pool4 2 #[] #[] 1537 4 #[] #[])
  fields := #[]
  methods := #[]
  instanceTypes := #[]
  staticTypes := #[]
  resolved := Array.replicate 8 none
  statics := none }

def pool5 : Array CpInfo := pool [(1, u "java/io/Serializable"), (0, .class_ 1), (0, u "java/lang/Object"), (0, .class_ 3)] 3

/-- java/io/Serializable -/
def k5 : Class := { plain "java/io/Serializable" (some 0) with
  accessFlags := 1537
  interfaces := #[]
  cf := some (fileOf pool5 2 #[] #[] 1537 4 #[] #[])
  fields := #[]
  methods := #[]
  instanceTypes := #[]
  staticTypes := #[]
  resolved := Array.replicate 8 none
  statics := none }

/-- the primitive byte -/
def k6 : Class := { plain "byte" none with kind := .primitive 'B', accessFlags := 0x411 }
/-- [B -/
def k7 : Class := { plain "[B" (some 0) with kind := .array 6 .byte, interfaces := #[4, 5], accessFlags := 1041 }

/-- the primitive int -/
def k8 : Class := { plain "int" none with kind := .primitive 'I', accessFlags := 0x411 }
/-- [I -/
def k9 : Class := { plain "[I" (some 0) with kind := .array 8 .int, interfaces := #[4, 5], accessFlags := 1041 }

def heap : Heap := #[]
def classes : Array Class := #[k0, k1, k2, k3, k4, k5, k6, k7, k8, k9]
def interned : List (Array UInt16 × Addr) := []
def slotsUsed : Nat := 0
def theMethod : MethodId := ⟨1, 1⟩
def args0 : Array Value := #[.int 3, .int 3, .int 3]
def aboutOver (below : List Frame) : State where
  vm := { classes := classes, interned := interned.toArray }
  heap := heap
  slotsUsed := slotsUsed
  threads := #[{ frames := .invoking theMethod args0 :: below }]
def below0 : List Frame := [.native { method := ⟨0, 0⟩, args := #[] }]
def about1 : State := aboutOver below0
def p0 : Program := .bare "" "" ""
def e0 : Env := launch0.env 0 0 0
theorem w_frames : about1.frames = Frame.invoking theMethod args0 :: below0 := rfl
set_option maxRecDepth 65536 in
theorem w_args : argsFit about1.vm theMethod args0 = true := by decide +kernel
set_option maxRecDepth 65536 in
theorem w_heap : heapFits about1 = true := by decide +kernel
set_option maxRecDepth 65536 in
theorem w_runnable : about1.curStatus? = some .runnable := by decide +kernel
set_option maxRecDepth 65536 in
theorem w_alone : about1.alone = true := by decide +kernel
set_option maxRecDepth 65536 in
theorem w_named : about1.methodNamed? x = some theMethod := by decide +kernel
set_option maxRecDepth 65536 in
theorem w_hears : about1.hears theMethod below0 = true := by decide +kernel
set_option maxRecDepth 65536 in
theorem w_ripe : about1.ripe theMethod args0 below0 = true := by decide +kernel
theorem w_running : about1.status = .running := rfl
set_option maxRecDepth 65536 in
theorem w_room : about1.hasRoom e0.platform room_1 = true :=
  launch0.hasRoom_least _ room_1 (by decide +kernel) (by decide +kernel) (by decide +kernel) (by decide +kernel) (by decide +kernel) (by decide +kernel)
theorem allAtoms_all (ts : List Jvm.Cond) (a : Array Jvm.Value) (st : Jvm.State) : (allAtoms ts).before a st = ts.all (fun c => c.before a st) := by
  induction ts with
  | nil => rfl
  | cons c t ih =>
    show (Jvm.Cond.and c (allAtoms t)).before a st = _
    rw [Jvm.Cond.before_and, ih, List.all_cons]
def words1 : List Jvm.Cond := Jvm.Cond.code x code maxLocals ret :: tables_1
/-- a 'code' word, met by the world's own term for the bytes: nothing is compared byte by byte -/
theorem code_word {y : MethodName} {bytes : ByteArray} {mx : Nat} {rt : Option FieldType} {a : Array Value} {s : State} {m : MethodId} {meth : Method} {c : Code} (h1 : s.methodNamed? y = some m) (h2 : s.vm.method? m = some meth) (h3 : meth.code = some c) (h4 : c.code = bytes)
    (h5 : (c.maxLocals == mx && c.exceptionTable.isEmpty && decide (c.maxStack ≤ mostOperands) && decide (meth.sig.returnType = rt) && !meth.locks && decide (parseMethodDescriptor y.desc = some meth.sig)) = true) : (Jvm.Cond.code y bytes mx rt).before a s = true := by
  simp only [Bool.and_eq_true, beq_iff_eq, Bool.not_eq_true', decide_eq_true_eq] at h5
  obtain ⟨⟨⟨⟨⟨g1, g2⟩, g3⟩, g4⟩, g5⟩, g6⟩ := h5
  simp [Cond.before, Cond.holds, Cond.value, h1, h2, h3, h4, g1, g2, g3, g4, g5, g6]
def isCode : Jvm.Cond → Bool
  | .code _ _ _ _ => true
  | _ => false
theorem all_split {L : List Jvm.Cond} {P : Jvm.Cond → Bool} (h1 : L.all (fun c => isCode c || P c) = true) (h2 : ∀ c ∈ L.filter isCode, P c = true) : L.all P = true := by
  refine List.all_eq_true.mpr fun c hc => ?_
  have h := List.all_eq_true.mp h1 c hc
  rcases Bool.eq_false_or_eq_true (isCode c) with hi | hi
  · exact h2 c (List.mem_filter.mpr ⟨hc, hi⟩)
  · simpa [hi] using h
set_option maxRecDepth 65536 in
theorem w_c0 : (Jvm.Cond.code x code maxLocals ret).before args0 about1 = true := code_word (m := ⟨1, 1⟩) (meth := k1m1) (c := k1c1) (by decide +kernel) rfl rfl rfl (by decide +kernel)
set_option maxRecDepth 65536 in
theorem w_c1 : (Jvm.Cond.code ({ cls := "com/example/rival_tongues/rivaltongues/engine/Bm25", name := "saturate", desc := "(DDD)D" } : Jvm.MethodName) prog_8_method_5_code (6 : Nat) (Option.some Jvm.ClassFile.FieldType.double)).before args0 about1 = true := code_word (m := ⟨3, 1⟩) (meth := k3m1) (c := k3c1) (by decide +kernel) rfl rfl rfl (by decide +kernel)
def codes1 : List Jvm.Cond := [Jvm.Cond.code x code maxLocals ret, Jvm.Cond.code ({ cls := "com/example/rival_tongues/rivaltongues/engine/Bm25", name := "saturate", desc := "(DDD)D" } : Jvm.MethodName) prog_8_method_5_code (6 : Nat) (Option.some Jvm.ClassFile.FieldType.double)]
set_option maxRecDepth 65536 in
theorem codes_eq : words1.filter isCode = codes1 := rfl
theorem w_codes : ∀ c ∈ words1.filter isCode, c.before args0 about1 = true := by
  rw [codes_eq]
  intro c hc
  simp only [codes1, List.mem_cons, List.not_mem_nil, or_false] at hc
  rcases hc with rfl | rfl
  · exact w_c0
  · exact w_c1
set_option maxRecDepth 65536 in
theorem w_t1 : words1.all (fun c => isCode c || c.before args0 about1) = true := by decide +kernel
theorem w_tables : (allAtoms (Jvm.Cond.code x code maxLocals ret :: tables_1)).before args0 about1 = true := by
  rw [allAtoms_all]
  show words1.all (fun c => c.before args0 about1) = true
  refine all_split ?_ w_codes
  rw [w_t1]
set_option maxRecDepth 65536 in
theorem w_case : (Jvm.Cond.and given_1 narrow_1).before args0 about1 = true := by decide +kernel
theorem w_applies : (headSpec (Jvm.Cond.code x code maxLocals ret :: tables_1) room_1).applies x e0.platform about1 = true :=
  (Spec.applies_iff w_frames).mpr ⟨w_running, w_runnable, w_alone, w_named, w_hears, w_ripe, w_room, w_tables⟩
theorem atStart : AtStart classFile x code maxLocals ret World_1 tables_1 room_1 Calls_1 rest_1 Pre_1 launch0 p0 e0 about1 theMethod args0 below0 :=
  ⟨lists_1, trivial, launch0.admits_env _ _ _, launch0.least_env, fairChoices_fair.cas, fairChoices_fair.clock, w_frames, w_args, w_heap, w_applies, trivial, trivial, w_case⟩
end start1
theorem witness_1 : WitnessClaimed_1 := ⟨start1.p0, start1.e0, start1.about1, start1.theMethod, start1.args0, start1.below0, start1.atStart⟩
end Jvm.Pilot.@@N@@
