import JvmDerived
import JvmDerived.Pilot.@@N@@Statement
import JvmDerived.Pilot.@@N@@Code
set_option linter.unusedVariables false
set_option linter.unusedSimpArgs false
@@BLOCK:NumsL.lean.txt@@
namespace Jvm.RoadKit
open Sem ClassFile Op Lib Jvm.Stand Jvm.Free Jvm.LawKit
section New
variable {p : Program} {l : Launch} {e : Env} {R : Room} {s : State} {m : MethodId} {args : Array Value} {below : List Frame} {meth : Method} {c : Code} {T : State} {locs : List Loc} {cells slots : Nat}
theorem retI (X : Stand p l e R s m args below meth c T locs cells slots) (hx : p.tables.exec = Jvm.exec) {pc : Nat} {Ls : Array Slot} {z : Int32} {rest : List Value} (hret : meth.sig.returnType = some .int) (hd : decode c.code pc = .ok (.ireturn, 1)) {fs : List Frame}
    (hl : ∀ (f : JFrame) (acts : List Action), f.method = m → f.locked = none → f.entered = [] → (doReturn e (T.setTop f) acts (some (.int z))).1 = T.setFrames fs) : Steps p.tables e below (T.setTop (mkF m pc Ls (.int z :: rest))) (T.setFrames fs) := by
  have hm' : T.vm.method? m = some meth := X.method'
  have hn : narrow .int (.int z) = .int z := rfl
  show Steps p.tables e below (T.setTop { method := m, pc := pc, locals := Ls, stack := _ :: rest, locked := none }) _
  jvm_step X.here [X.here.top, hx, hd, hm', hret, hn]
  first | (intro acts; rw [hl _ acts rfl rfl rfl]) | rw [hl _ _ rfl rfl rfl]
  exact Steps.refl _
end New
end Jvm.RoadKit
namespace Jvm.OwnFP
open Jvm.FP
/-- a double's value in units of 2^-1074 -/
def zv (a : UInt64) : Int := Core.zval Core.b64 (Core.val64 a)
/-- how many units make one -/
def U : Int := (Core.one64 : Int)
theorem U_pos : 0 < U := by have := Core.one64_pos; unfold U; omega
theorem U_pow (k : Nat) (h : k ≤ 1074) : U = 2 ^ (1074 - k) * 2 ^ k := by
  have e : (2 : Int) ^ (1074 - k) * 2 ^ k = 2 ^ 1074 := by rw [← Int.pow_add]; congr 1; omega
  rw [e]; unfold U Core.one64; rw [Int.natCast_pow]; rfl
theorem pow_pos (k : Nat) : (0 : Int) < 2 ^ k := Int.pow_pos (by decide)
theorem notNan {a : UInt64} (h : Core.DFin a) : Core.val64 a ≠ .nan := by obtain ⟨s, c, q, h⟩ := h; rw [h]; exact Core.Datum.noConfusion
theorem fin_parts {a : UInt64} (h : Core.DFin a) : ∃ (s : Bool) (c i : Nat), Core.val64 a = .fin s c ((i : Int) - 1074) ∧ Core.fits Core.b64 (.fin s c ((i : Int) - 1074)) ∧ zv a = Core.signed s (c * 2 ^ i) := by
  obtain ⟨s, c, q, h⟩ := h
  have hf := Core.val64_fits a
  rw [h] at hf
  have hq : -1074 ≤ q := by have := hf.2.1; rw [Core.qmin_b64] at this; exact this
  obtain ⟨i, hi⟩ : ∃ i : Nat, q = (i : Int) - 1074 := ⟨(q + 1074).toNat, by omega⟩
  subst hi
  refine ⟨s, c, i, h, hf, ?_⟩
  unfold zv Core.zval; rw [h]
  show Core.signed s (c * 2 ^ ((i : Int) - 1074 - Core.b64.qmin).toNat) = _
  rw [Core.qmin_b64, show ((i : Int) - 1074 - -1074).toNat = i by omega]
/-- rounding a quotient is monotone: at most a number of the format -/
theorem ratio_le {s : Bool} {A B : Nat} {e e0 : Int} {V : Core.Datum} (hB : 0 < B) (hV : Core.fits Core.b64 V) (hn : V ≠ .nan) (h0 : e0 ≤ Core.b64.qmin) (h0e : e0 ≤ e)
    (h : Core.signed s (Core.inUnits A e e0) ≤ Core.zval Core.b64 V * ((2 ^ (Core.b64.qmin - e0).toNat * B : Nat) : Int)) :
    Core.zval Core.b64 (Core.roundRatio Core.b64 s A B e) ≤ Core.zval Core.b64 V := by
  have hle := Core.zmag_roundRatio_le Core.good_b64 (s := s) (A := A) hB hV hn h0 h0e
  have hge := Core.zmag_roundRatio_ge Core.good_b64 (s := s) (A := A) hB hV h0 h0e
  have hP : 0 < 2 ^ (Core.b64.qmin - e0).toNat * B := Nat.mul_pos (Nat.two_pow_pos _) hB
  rw [Nat.mul_assoc] at hle hge
  unfold Core.zval at h ⊢
  rw [Core.sgn_roundRatio]
  rw [← Core.signed_mul] at h
  have hz : Core.zmag Core.b64 V * (2 ^ (Core.b64.qmin - e0).toNat * B) = 0 → Core.zmag Core.b64 V = 0 := fun q => by
    rcases Nat.mul_eq_zero.mp q with q | q
    · exact q
    · omega
  generalize Core.zmag Core.b64 V * (2 ^ (Core.b64.qmin - e0).toNat * B) = vP at *
  generalize Core.sgn V = t at *
  generalize Core.zmag Core.b64 V = z at *
  generalize Core.zmag Core.b64 (Core.roundRatio Core.b64 s A B e) = r at *
  generalize Core.inUnits A e e0 = x at *
  cases s <;> cases t <;> simp only [Core.signed, if_true, Bool.false_eq_true, if_false] at h ⊢
  · have := hle (by omega); omega
  · have := hle (by omega); have := hz (by omega); omega
  · omega
  · have := hge (by omega); omega
theorem ratio_ge {s : Bool} {A B : Nat} {e e0 : Int} {V : Core.Datum} (hB : 0 < B) (hV : Core.fits Core.b64 V) (hn : V ≠ .nan) (h0 : e0 ≤ Core.b64.qmin) (h0e : e0 ≤ e)
    (h : Core.zval Core.b64 V * ((2 ^ (Core.b64.qmin - e0).toNat * B : Nat) : Int) ≤ Core.signed s (Core.inUnits A e e0)) :
    Core.zval Core.b64 V ≤ Core.zval Core.b64 (Core.roundRatio Core.b64 s A B e) := by
  have h1 := ratio_le (s := !s) (V := Core.negate V) hB (Core.negate_fits hV) (Core.negate_ne_nan hn) h0 h0e (by
    rw [Core.zval_negate, Int.neg_mul, Core.signed_not]; exact Int.neg_le_neg h)
  rw [Core.zval_negate, ← Core.negate_roundRatio, Core.zval_negate] at h1
  omega
theorem signed_pos_parts {t : Bool} {n : Nat} (h : 0 < Core.signed t n) : t = false ∧ 0 < n := by
  cases t <;> simp [Core.signed] at h ⊢ <;> omega
/-- the quotient as a rounded ratio -/
theorem ddiv_parts {a b : UInt64} (ha : Core.DFin a) (hb : Core.DFin b) (pb : 0 < zv b) :
    ∃ (s : Bool) (c d i j : Nat), zv a = Core.signed s (c * 2 ^ i) ∧ zv b = ((d * 2 ^ j : Nat) : Int) ∧ 0 < d ∧ Core.val64 (FP.ddiv a b) = Core.roundRatio Core.b64 s c d ((i : Int) - (j : Int)) := by
  obtain ⟨s, c, i, h1, f1, z1⟩ := fin_parts ha
  obtain ⟨t, d, j, h2, f2, z2⟩ := fin_parts hb
  rw [z2] at pb
  obtain ⟨rfl, hd⟩ := signed_pos_parts pb
  have hd' : 0 < d := Nat.pos_of_mul_pos_right hd
  refine ⟨s, c, d, i, j, z1, z2, hd', ?_⟩
  show Core.val64 (Core.ddiv a b) = _
  rw [Core.val64_ddiv, h1, h2]
  show (if d = 0 then _ else Core.roundRatio Core.b64 (s != false) c d ((i : Int) - 1074 - ((j : Int) - 1074))) = _
  rw [if_neg (by omega), show ((i : Int) - 1074 - ((j : Int) - 1074)) = (i : Int) - j by omega]
  cases s <;> rfl
theorem div_key {s : Bool} {c d i j : Nat} : Core.signed s (Core.inUnits c ((i : Int) - j) (-1074 - (j : Int))) = Core.signed s (c * 2 ^ i) * U ∧ ((2 ^ (Core.b64.qmin - (-1074 - (j : Int))).toNat * d : Nat) : Int) = ((d * 2 ^ j : Nat) : Int) := by
  constructor
  · unfold Core.inUnits
    rw [show ((i : Int) - j - (-1074 - (j : Int))).toNat = i + 1074 by omega, Nat.pow_add, ← Nat.mul_assoc, Core.signed_mul]
    rfl
  · rw [Core.qmin_b64, show (-1074 - (-1074 - (j : Int))).toNat = j by omega, Nat.mul_comm]
theorem ddiv_le {a b V : UInt64} (ha : Core.DFin a) (hb : Core.DFin b) (pb : 0 < zv b) (hV : Core.val64 V ≠ .nan) (h : zv a * U ≤ zv V * zv b) : zv (FP.ddiv a b) ≤ zv V := by
  obtain ⟨s, c, d, i, j, z1, z2, hd, hr⟩ := ddiv_parts ha hb pb
  have e : zv (FP.ddiv a b) = Core.zval Core.b64 (Core.roundRatio Core.b64 s c d ((i : Int) - (j : Int))) := by unfold zv; rw [hr]
  rw [e]
  refine ratio_le (e0 := -1074 - (j : Int)) hd (Core.val64_fits V) hV (by rw [Core.qmin_b64]; omega) (by omega) ?_
  rw [(div_key (d := d)).1, (div_key (s := s) (c := c) (i := i)).2, ← z1, ← z2]; exact h
theorem ddiv_ge {a b V : UInt64} (ha : Core.DFin a) (hb : Core.DFin b) (pb : 0 < zv b) (hV : Core.val64 V ≠ .nan) (h : zv V * zv b ≤ zv a * U) : zv V ≤ zv (FP.ddiv a b) := by
  obtain ⟨s, c, d, i, j, z1, z2, hd, hr⟩ := ddiv_parts ha hb pb
  have e : zv (FP.ddiv a b) = Core.zval Core.b64 (Core.roundRatio Core.b64 s c d ((i : Int) - (j : Int))) := by unfold zv; rw [hr]
  rw [e]
  refine ratio_ge (e0 := -1074 - (j : Int)) hd (Core.val64_fits V) hV (by rw [Core.qmin_b64]; omega) (by omega) ?_
  rw [(div_key (d := d)).1, (div_key (s := s) (c := c) (i := i)).2, ← z1, ← z2]; exact h
theorem ddiv_nn {a b : UInt64} (ha : Core.DFin a) (hb : Core.DFin b) (pb : 0 < zv b) : Core.val64 (FP.ddiv a b) ≠ .nan := by
  obtain ⟨s, c, d, i, j, z1, z2, hd, hr⟩ := ddiv_parts ha hb pb
  rw [hr]; exact Core.roundRatio_ne_nan _ _ _ _ _
/-- two quotients of one value -/
theorem ddiv_congr {a b a' b' : UInt64} (ha : Core.DFin a) (hb : Core.DFin b) (pb : 0 < zv b) (ha' : Core.DFin a') (hb' : Core.DFin b') (pb' : 0 < zv b') (hs : Core.sgn (Core.val64 a) = Core.sgn (Core.val64 a')) (h : zv a * zv b' = zv a' * zv b) : FP.ddiv a b = FP.ddiv a' b' := by
  obtain ⟨s, c, i, h1, f1, z1⟩ := fin_parts ha
  obtain ⟨s', c', i', h1', f1', z1'⟩ := fin_parts ha'
  obtain ⟨t, d, j, h2, f2, z2⟩ := fin_parts hb
  obtain ⟨t', d', j', h2', f2', z2'⟩ := fin_parts hb'
  rw [z2] at pb; rw [z2'] at pb'
  obtain ⟨rfl, hd⟩ := signed_pos_parts pb
  obtain ⟨rfl, hd'⟩ := signed_pos_parts pb'
  have hd1 : 0 < d := Nat.pos_of_mul_pos_right hd
  have hd1' : 0 < d' := Nat.pos_of_mul_pos_right hd'
  have es : s = s' := by rw [h1, h1'] at hs; exact hs
  subst es
  show Core.of64 (Core.quotient Core.b64 (Core.val64 a) (Core.val64 b)) = Core.of64 (Core.quotient Core.b64 (Core.val64 a') (Core.val64 b'))
  congr 1
  rw [h1, h2, h1', h2']
  show (if d = 0 then _ else Core.roundRatio Core.b64 (s != false) c d ((i : Int) - 1074 - ((j : Int) - 1074))) = (if d' = 0 then _ else Core.roundRatio Core.b64 (s != false) c' d' ((i' : Int) - 1074 - ((j' : Int) - 1074)))
  rw [if_neg (by omega), if_neg (by omega)]
  apply Core.roundRatio_congr hd1 hd1'
  have hn : (c * 2 ^ i) * (d' * 2 ^ j') = (c' * 2 ^ i') * (d * 2 ^ j) := by
    rw [z1, z1', z2, z2'] at h
    have : ∀ n : Nat, Core.signed false n = (n : Int) := fun _ => rfl
    rw [this, this, ← Core.signed_mul, ← Core.signed_mul] at h
    have := congrArg Int.natAbs h
    rwa [Core.natAbs_signed, Core.natAbs_signed] at this
  generalize hE : (i : Int) - 1074 - ((j : Int) - 1074) = E
  generalize hE' : (i' : Int) - 1074 - ((j' : Int) - 1074) = E'
  have k1 : c * d' * 2 ^ (i + j') = c' * d * 2 ^ (i' + j) := by
    rw [Nat.pow_add, Nat.pow_add]
    calc c * d' * (2 ^ i * 2 ^ j') = (c * 2 ^ i) * (d' * 2 ^ j') := by ac_rfl
      _ = (c' * 2 ^ i') * (d * 2 ^ j) := hn
      _ = c' * d * (2 ^ i' * 2 ^ j) := by ac_rfl
  by_cases hle : i' + j ≤ i + j'
  · have e1 : (E - E').toNat = i + j' - (i' + j) := by omega
    have e2 : (E' - E).toNat = 0 := by omega
    rw [e1, e2]
    have : 2 ^ (i + j') = 2 ^ (i + j' - (i' + j)) * 2 ^ (i' + j) := by rw [← Nat.pow_add]; congr 1; omega
    rw [this, ← Nat.mul_assoc] at k1
    simpa using Nat.eq_of_mul_eq_mul_right (Nat.two_pow_pos _) k1
  · have e1 : (E - E').toNat = 0 := by omega
    have e2 : (E' - E).toNat = i' + j - (i + j') := by omega
    rw [e1, e2]
    have : 2 ^ (i' + j) = 2 ^ (i' + j - (i + j')) * 2 ^ (i + j') := by rw [← Nat.pow_add]; congr 1; omega
    rw [this, ← Nat.mul_assoc] at k1
    simpa using Nat.eq_of_mul_eq_mul_right (Nat.two_pow_pos _) k1
theorem dmul_parts {a b : UInt64} (ha : Core.DFin a) (hb : Core.DFin b) :
    ∃ (s : Bool) (n : Nat) (e : Int), Core.val64 (FP.dmul a b) = Core.round Core.b64 (.fin s n e) ∧ -2148 ≤ e ∧ Core.signed s (Core.inUnits n e (-2148)) = zv a * zv b := by
  obtain ⟨s, c, i, h1, f1, z1⟩ := fin_parts ha
  obtain ⟨t, d, j, h2, f2, z2⟩ := fin_parts hb
  obtain ⟨p1, p2, p3⟩ := Core.product_units f1 f2
  refine ⟨s != t, c * d, (i : Int) - 1074 + ((j : Int) - 1074), ?_, by omega, ?_⟩
  · show Core.val64 (Core.dmul a b) = _
    rw [Core.val64_dmul, h1, h2, p1]
  · rw [z1, z2]
    unfold Core.inUnits
    rw [show ((i : Int) - 1074 + ((j : Int) - 1074) - (-2148)).toNat = i + j by omega, Nat.pow_add,
      show c * d * (2 ^ i * 2 ^ j) = (c * 2 ^ i) * (d * 2 ^ j) by ac_rfl, Core.signed_xor]
theorem mul_key : ((2 ^ (Core.b64.qmin - (-2148 : Int)).toNat : Nat) : Int) = U := by
  rw [Core.qmin_b64]; rfl
theorem dmul_le {a b V : UInt64} (ha : Core.DFin a) (hb : Core.DFin b) (hV : Core.val64 V ≠ .nan) (h : zv a * zv b ≤ zv V * U) : zv (FP.dmul a b) ≤ zv V := by
  obtain ⟨s, n, e, h1, h2, h3⟩ := dmul_parts ha hb
  have e1 : zv (FP.dmul a b) = Core.zval Core.b64 (Core.round Core.b64 (.fin s n e)) := by unfold zv; rw [h1]
  rw [e1]
  refine Core.zval_round_le Core.good_b64 (e0 := -2148) (Core.val64_fits V) hV (by rw [Core.qmin_b64]; decide) h2 ?_
  rw [h3, mul_key]; exact h
theorem dmul_ge {a b V : UInt64} (ha : Core.DFin a) (hb : Core.DFin b) (hV : Core.val64 V ≠ .nan) (h : zv V * U ≤ zv a * zv b) : zv V ≤ zv (FP.dmul a b) := by
  obtain ⟨s, n, e, h1, h2, h3⟩ := dmul_parts ha hb
  have e1 : zv (FP.dmul a b) = Core.zval Core.b64 (Core.round Core.b64 (.fin s n e)) := by unfold zv; rw [h1]
  rw [e1]
  refine Core.zval_round_ge Core.good_b64 (e0 := -2148) (Core.val64_fits V) hV (by rw [Core.qmin_b64]; decide) h2 ?_
  rw [h3, mul_key]; exact h
theorem dmul_nn {a b : UInt64} (ha : Core.DFin a) (hb : Core.DFin b) : Core.val64 (FP.dmul a b) ≠ .nan := by
  obtain ⟨s, n, e, h1, h2, h3⟩ := dmul_parts ha hb
  rw [h1]; exact Core.roundRatio_ne_nan _ _ _ _ _
theorem dadd_le {a b V : UInt64} (ha : Core.DFin a) (hb : Core.DFin b) (hV : Core.val64 V ≠ .nan) (h : zv a + zv b ≤ zv V) : zv (FP.dadd a b) ≤ zv V := by
  have := Core.sum_le Core.good_b64 ha hb (Core.val64_fits a) (Core.val64_fits b) (Core.val64_fits V) hV h
  unfold zv; show Core.zval Core.b64 (Core.val64 (Core.dadd a b)) ≤ _
  rw [Core.val64_dadd]; exact this
theorem dadd_ge {a b V : UInt64} (ha : Core.DFin a) (hb : Core.DFin b) (hV : Core.val64 V ≠ .nan) (h : zv V ≤ zv a + zv b) : zv V ≤ zv (FP.dadd a b) := by
  have := Core.sum_ge Core.good_b64 ha hb (Core.val64_fits a) (Core.val64_fits b) (Core.val64_fits V) hV h
  unfold zv; show _ ≤ Core.zval Core.b64 (Core.val64 (Core.dadd a b))
  rw [Core.val64_dadd]; exact this
theorem dadd_nn {a b : UInt64} (ha : Core.DFin a) (hb : Core.DFin b) : Core.val64 (FP.dadd a b) ≠ .nan := by
  have := Core.dadd_out (notNaN_of ha) hb
  exact (Core.notNaN_iff _).mp this
where notNaN_of {a : UInt64} (h : Core.DFin a) : Core.dIsNaN a = false := (Core.notNaN_iff a).mpr (notNan h)
theorem zv_dneg (a : UInt64) : zv (FP.dneg a) = - zv a := by
  unfold zv; rw [FP.val64_dneg, Core.zval_negate]
theorem fin_dneg {a : UInt64} (h : Core.DFin a) : Core.DFin (FP.dneg a) := by
  obtain ⟨s, c, q, h⟩ := h
  refine ⟨!s, c, q, ?_⟩
  rw [FP.val64_dneg, h]; rfl
theorem dsub_dadd {a b : UInt64} (hb : Core.DFin b) : FP.dsub a b = FP.dadd a (FP.dneg b) := by
  have h1 : FP.dneg b = Core.dneg b := FP.dneg_core ((Core.notNaN_iff b).mpr (notNan hb))
  rw [h1]; exact Core.dsub_eq a b
theorem dsub_le {a b V : UInt64} (ha : Core.DFin a) (hb : Core.DFin b) (hV : Core.val64 V ≠ .nan) (h : zv a - zv b ≤ zv V) : zv (FP.dsub a b) ≤ zv V := by
  rw [dsub_dadd hb]; exact dadd_le ha (fin_dneg hb) hV (by rw [zv_dneg]; omega)
theorem dsub_ge {a b V : UInt64} (ha : Core.DFin a) (hb : Core.DFin b) (hV : Core.val64 V ≠ .nan) (h : zv V ≤ zv a - zv b) : zv V ≤ zv (FP.dsub a b) := by
  rw [dsub_dadd hb]; exact dadd_ge ha (fin_dneg hb) hV (by rw [zv_dneg]; omega)
theorem dsub_nn {a b : UInt64} (ha : Core.DFin a) (hb : Core.DFin b) : Core.val64 (FP.dsub a b) ≠ .nan := by
  rw [dsub_dadd hb]; exact dadd_nn ha (fin_dneg hb)
/-- finite, if it lies between two finite ones -/
theorem fin_between {a V W : UInt64} (n : Core.val64 a ≠ .nan) (hV : Core.DFin V) (hW : Core.DFin W) (h1 : zv V ≤ zv a) (h2 : zv a ≤ zv W) : Core.DFin a := by
  have hv := hV.zval_lt; have hw := hW.zval_lt
  unfold zv Core.zval at h1 h2
  cases e : Core.val64 a with
  | nan => exact absurd e n
  | fin s c q => exact ⟨s, c, q, e⟩
  | inf s =>
    exfalso
    rw [e] at h1 h2
    have t : Core.zmag Core.b64 (.inf s) = Core.b64.tails * 2 ^ (Core.b64.exps - 2) := rfl
    rw [t] at h1 h2
    generalize Core.b64.tails * 2 ^ (Core.b64.exps - 2) = top at *
    generalize Core.zmag Core.b64 (Core.val64 V) = v at *
    generalize Core.zmag Core.b64 (Core.val64 W) = w at *
    generalize Core.sgn (Core.val64 V) = sv at *
    generalize Core.sgn (Core.val64 W) = sw at *
    cases s <;> cases sv <;> cases sw <;> simp [Core.signed, Core.sgn] at h1 h2 <;> omega
theorem signed_of (n : Int) : Core.signed (decide (n < 0)) n.natAbs = n := by
  unfold Core.signed
  by_cases q : n < 0
  · simp [q]; omega
  · simp [q]; omega
/-- n * 2^E units are a double -/
theorem repE (n : Int) (E : Nat) (hn : n.natAbs < 2 ^ 53) (hE : E ≤ 2045) : ∃ V, Core.DFin V ∧ zv V = n * 2 ^ E := by
  have hq : Core.b64.qmax = 971 := by decide
  obtain ⟨c', q', h1, h2⟩ := Core.round_exact Core.good_b64 (decide (n < 0)) (c := n.natAbs) (q := (E : Int) - 1074) hn (by rw [Core.qmin_b64]; omega) (by rw [hq]; omega)
  have h3 : Core.val64 (Core.of64 (Core.round Core.b64 (.fin (decide (n < 0)) n.natAbs ((E : Int) - 1074)))) = .fin (decide (n < 0)) c' q' := by
    rw [Core.val64_of64 (Core.round_fits Core.good_b64 _), h1]
  refine ⟨_, ⟨_, _, _, h3⟩, ?_⟩
  unfold zv Core.zval
  rw [h3]
  show Core.signed (decide (n < 0)) (Core.inUnits c' q' Core.b64.qmin) = _
  rw [h2]
  unfold Core.inUnits
  rw [Core.qmin_b64, show ((E : Int) - 1074 - -1074).toNat = E by omega, Core.signed_mul, signed_of, Int.natCast_pow]
  rfl
/-- n / 2^k is a double -/
theorem rep (n : Int) (k : Nat) (hn : n.natAbs ≤ 2 ^ 53) (hk : k ≤ 1000) : ∃ V, Core.DFin V ∧ zv V * 2 ^ k = n * U := by
  by_cases h : n.natAbs < 2 ^ 53
  · obtain ⟨V, fV, zV⟩ := repE n (1074 - k) h (by omega)
    exact ⟨V, fV, by rw [zV, U_pow k (by omega), Int.mul_assoc]⟩
  · by_cases hs : n < 0
    · obtain ⟨V, fV, zV⟩ := repE (-1) (53 + (1074 - k)) (by decide) (by omega)
      exact ⟨V, fV, by rw [zV, U_pow k (by omega), show n = -1 * 2 ^ 53 by omega, Int.pow_add]; ac_rfl⟩
    · obtain ⟨V, fV, zV⟩ := repE 1 (53 + (1074 - k)) (by decide) (by omega)
      exact ⟨V, fV, by rw [zV, U_pow k (by omega), show n = 1 * 2 ^ 53 by omega, Int.pow_add]; ac_rfl⟩
/-- and so are, with the infinities, the numbers up to 2^53 * 2^E -/
theorem repI (n : Int) (E : Nat) (hn : n.natAbs ≤ 2 ^ 53) (hE : E ≤ 2045) : ∃ V, Core.val64 V ≠ .nan ∧ zv V = n * 2 ^ E := by
  by_cases h : n.natAbs < 2 ^ 53
  · obtain ⟨V, fV, zV⟩ := repE n E h hE; exact ⟨V, notNan fV, zV⟩
  · by_cases hE2 : E + 53 ≤ 2045
    · by_cases hs : n < 0
      · obtain ⟨V, fV, zV⟩ := repE (-1) (53 + E) (by decide) (by omega)
        exact ⟨V, notNan fV, by rw [zV, show n = -1 * 2 ^ 53 by omega, Int.pow_add, Int.mul_assoc]⟩
      · obtain ⟨V, fV, zV⟩ := repE 1 (53 + E) (by decide) (by omega)
        exact ⟨V, notNan fV, by rw [zV, show n = 1 * 2 ^ 53 by omega, Int.pow_add, Int.mul_assoc]⟩
    · by_cases hE3 : E = 2045
      · subst hE3
        have v1 : Core.val64 9218868437227405312 = .inf false := by decide +kernel
        have v2 : Core.val64 18442240474082181120 = .inf true := by decide +kernel
        have z1 : Core.zmag Core.b64 (.inf false) = 2 ^ 53 * 2 ^ 2045 := by decide +kernel
        by_cases hs : n < 0
        · refine ⟨18442240474082181120, by rw [v2]; exact Core.Datum.noConfusion, ?_⟩
          unfold zv Core.zval; rw [v2]
          show Core.signed true (Core.zmag Core.b64 (.inf false)) = _
          rw [z1, Core.signed_mul, show n = -2 ^ 53 by omega, Int.natCast_pow]; rfl
        · refine ⟨9218868437227405312, by rw [v1]; exact Core.Datum.noConfusion, ?_⟩
          unfold zv Core.zval; rw [v1]
          show Core.signed false (Core.zmag Core.b64 (.inf false)) = _
          rw [z1, Core.signed_mul, show n = 2 ^ 53 by omega, Int.natCast_pow]; rfl
      · by_cases hs : n < 0
        · obtain ⟨V, fV, zV⟩ := repE (-2 ^ 52) (1 + E) (by decide) (by omega)
          exact ⟨V, notNan fV, by rw [zV, show n = -2 ^ 52 * 2 ^ 1 by omega, Int.pow_add, Int.mul_assoc]⟩
        · obtain ⟨V, fV, zV⟩ := repE (2 ^ 52) (1 + E) (by decide) (by omega)
          exact ⟨V, notNan fV, by rw [zV, show n = 2 ^ 52 * 2 ^ 1 by omega, Int.pow_add, Int.mul_assoc]⟩
theorem dmul_eq {a b V : UInt64} (ha : Core.DFin a) (hb : Core.DFin b) (hV : Core.val64 V ≠ .nan) (h : zv a * zv b = zv V * U) : zv (FP.dmul a b) = zv V := by
  have := dmul_le ha hb hV (Int.le_of_eq h); have := dmul_ge ha hb hV (Int.le_of_eq h.symm); omega
/-! ## values n / 2^k -/
/-- finite, and worth n / 2^k -/
def DS (n : Int) (k : Nat) (a : UInt64) : Prop := Core.DFin a ∧ zv a * 2 ^ k = n * U
def Le (a : UInt64) (n : Int) (k : Nat) : Prop := zv a * 2 ^ k ≤ n * U
def Ge (a : UInt64) (n : Int) (k : Nat) : Prop := n * U ≤ zv a * 2 ^ k
theorem DS.le {n : Int} {k : Nat} {a : UInt64} (h : DS n k a) : Le a n k := Int.le_of_eq h.2
theorem DS.ge {n : Int} {k : Nat} {a : UInt64} (h : DS n k a) : Ge a n k := Int.le_of_eq h.2.symm
theorem DS.int {i : Int} {a : UInt64} (h : Core.DInt i a) : DS i 0 a := by
  refine ⟨?_, ?_⟩
  · unfold Core.DInt at h
    cases e : Core.val64 a with
    | nan => rw [e] at h; exact h.elim
    | inf => rw [e] at h; exact h.elim
    | fin s c q => exact ⟨s, c, q, e⟩
  · show zv a * 2 ^ 0 = i * U
    rw [Int.pow_zero, Int.mul_one]; exact Core.DInt_zval h
theorem DS.i2d (x : Int32) : DS x.toInt 0 (FP.i2d x) := DS.int (Core.i2d_int x)
theorem DS.l2d {x : Int64} (h : x.toInt.natAbs ≤ 2 ^ 53) : DS x.toInt 0 (FP.l2d x) := DS.int (Core.l2d_int h)
theorem mul_cancel {a b c : Int} (hc : 0 < c) (h : a * c = b * c) : a = b := Int.eq_of_mul_eq_mul_right (by omega) h
theorem le_cancel {a b c : Int} (hc : 0 < c) (h : a * c ≤ b * c) : a ≤ b := Int.le_of_mul_le_mul_right h hc
theorem DS.up {n : Int} {k : Nat} {a : UInt64} (h : DS n k a) (j : Nat) : DS (n * 2 ^ j) (k + j) a := ⟨h.1, by
  rw [Int.pow_add, ← Int.mul_assoc, h.2]; grind⟩
theorem Le.up {n : Int} {k : Nat} {a : UInt64} (h : Le a n k) (j : Nat) : Le a (n * 2 ^ j) (k + j) := by
  unfold Le at *
  have := Int.mul_le_mul_of_nonneg_right h (Int.le_of_lt (pow_pos j))
  rw [Int.pow_add]; grind
theorem Ge.up {n : Int} {k : Nat} {a : UInt64} (h : Ge a n k) (j : Nat) : Ge a (n * 2 ^ j) (k + j) := by
  unfold Ge at *
  have := Int.mul_le_mul_of_nonneg_right h (Int.le_of_lt (pow_pos j))
  rw [Int.pow_add]; grind
/-- what lies between two bounds n / 2^k is finite -/
theorem fin_of {a : UInt64} {n m : Int} {k j : Nat} (nn : Core.val64 a ≠ .nan) (h1 : Ge a n k) (h2 : Le a m j) (bn : n.natAbs ≤ 2 ^ 53) (bm : m.natAbs ≤ 2 ^ 53) (hk : k ≤ 1000) (hj : j ≤ 1000) : Core.DFin a := by
  obtain ⟨V, fV, zV⟩ := rep n k bn hk
  obtain ⟨W, fW, zW⟩ := rep m j bm hj
  refine fin_between nn fV fW ?_ ?_
  · exact le_cancel (pow_pos k) (by unfold Ge at h1; omega)
  · exact le_cancel (pow_pos j) (by unfold Le at h2; omega)
theorem DS.of {a : UInt64} {n : Int} {k : Nat} (nn : Core.val64 a ≠ .nan) (h1 : Ge a n k) (h2 : Le a n k) (bn : n.natAbs ≤ 2 ^ 53) (hk : k ≤ 1000) : DS n k a :=
  ⟨fin_of nn h1 h2 bn bn hk hk, by unfold Ge at h1; unfold Le at h2; omega⟩
/-! the operations against bounds -/
theorem add_Le {a b : UInt64} {n m q : Int} {k : Nat} (fa : Core.DFin a) (fb : Core.DFin b) (ha : Le a n k) (hb : Le b m k) (h : n + m ≤ q) (bq : q.natAbs ≤ 2 ^ 53) (hk : k ≤ 1000) : Le (FP.dadd a b) q k := by
  obtain ⟨V, fV, zV⟩ := rep q k bq hk
  have h1 : zv (FP.dadd a b) ≤ zv V := dadd_le fa fb (notNan fV) (le_cancel (pow_pos k) (by
    unfold Le at ha hb
    rw [Int.add_mul, zV]
    have := Int.mul_le_mul_of_nonneg_right h (Int.le_of_lt U_pos)
    rw [Int.add_mul] at this; omega))
  unfold Le; rw [← zV]; exact Int.mul_le_mul_of_nonneg_right h1 (Int.le_of_lt (pow_pos k))
theorem add_Ge {a b : UInt64} {n m q : Int} {k : Nat} (fa : Core.DFin a) (fb : Core.DFin b) (ha : Ge a n k) (hb : Ge b m k) (h : q ≤ n + m) (bq : q.natAbs ≤ 2 ^ 53) (hk : k ≤ 1000) : Ge (FP.dadd a b) q k := by
  obtain ⟨V, fV, zV⟩ := rep q k bq hk
  have h1 : zv V ≤ zv (FP.dadd a b) := dadd_ge fa fb (notNan fV) (le_cancel (pow_pos k) (by
    unfold Ge at ha hb
    rw [Int.add_mul, zV]
    have := Int.mul_le_mul_of_nonneg_right h (Int.le_of_lt U_pos)
    rw [Int.add_mul] at this; omega))
  unfold Ge; rw [← zV]; exact Int.mul_le_mul_of_nonneg_right h1 (Int.le_of_lt (pow_pos k))
theorem DS.add {a b : UInt64} {n m : Int} {k : Nat} (ha : DS n k a) (hb : DS m k b) (bq : (n + m).natAbs ≤ 2 ^ 53) (hk : k ≤ 1000) : DS (n + m) k (FP.dadd a b) :=
  DS.of (dadd_nn ha.1 hb.1) (add_Ge ha.1 hb.1 ha.ge hb.ge (Int.le_refl _) bq hk) (add_Le ha.1 hb.1 ha.le hb.le (Int.le_refl _) bq hk) bq hk
theorem DS.neg {a : UInt64} {n : Int} {k : Nat} (ha : DS n k a) : DS (-n) k (FP.dneg a) := ⟨fin_dneg ha.1, by rw [zv_dneg, Int.neg_mul, ha.2, Int.neg_mul]⟩
theorem DS.sub {a b : UInt64} {n m : Int} {k : Nat} (ha : DS n k a) (hb : DS m k b) (bq : (n - m).natAbs ≤ 2 ^ 53) (hk : k ≤ 1000) : DS (n - m) k (FP.dsub a b) := by
  rw [dsub_dadd hb.1, show n - m = n + -m by omega]; exact ha.add hb.neg (by rw [← Int.sub_eq_add_neg]; exact bq) hk
theorem DS.mul {a b : UInt64} {n m : Int} {k j : Nat} (ha : DS n k a) (hb : DS m j b) (bq : (n * m).natAbs ≤ 2 ^ 53) (hk : k + j ≤ 1000) : DS (n * m) (k + j) (FP.dmul a b) := by
  obtain ⟨V, fV, zV⟩ := rep (n * m) (k + j) bq hk
  have e : zv a * zv b = zv V * U := by
    have h1 := ha.2; have h2 := hb.2
    refine mul_cancel (pow_pos (k + j)) ?_
    calc zv a * zv b * 2 ^ (k + j) = (zv a * 2 ^ k) * (zv b * 2 ^ j) := by rw [Int.pow_add]; grind
      _ = (n * U) * (m * U) := by rw [h1, h2]
      _ = (n * m * U) * U := by grind
      _ = zv V * U * 2 ^ (k + j) := by rw [← zV]; grind
  have g1 := dmul_le ha.1 hb.1 (notNan fV) (Int.le_of_eq e)
  have g2 := dmul_ge ha.1 hb.1 (notNan fV) (Int.le_of_eq e.symm)
  have g : zv (FP.dmul a b) = zv V := by omega
  exact ⟨fin_between (dmul_nn ha.1 hb.1) fV fV (by omega) (by omega), by rw [g, zV]⟩
theorem DS.pos {b : UInt64} {m : Int} {j : Nat} (hb : DS m j b) (hm : 0 < m) : 0 < zv b := by
  have h1 : 0 < zv b * 2 ^ j := by rw [hb.2]; exact Int.mul_pos hm U_pos
  exact Int.pos_of_mul_pos_left h1 (pow_pos j)
/-- a quotient against a bound q / 2^l -/
theorem div_Le {a b : UInt64} {n m q : Int} {k j l : Nat} (ha : DS n k a) (hb : DS m j b) (hm : 0 < m) (h : n * 2 ^ j * 2 ^ l ≤ q * m * 2 ^ k) (bq : q.natAbs ≤ 2 ^ 53) (hl : l ≤ 1000) : Le (FP.ddiv a b) q l := by
  obtain ⟨V, fV, zV⟩ := rep q l bq hl
  have h1 : zv (FP.ddiv a b) ≤ zv V := ddiv_le ha.1 hb.1 (hb.pos hm) (notNan fV) (by
    refine le_cancel (pow_pos (k + j + l)) ?_
    have e1 : zv a * U * 2 ^ (k + j + l) = (n * 2 ^ j * 2 ^ l) * (U * U) := by
      calc zv a * U * 2 ^ (k + j + l) = (zv a * 2 ^ k) * U * 2 ^ j * 2 ^ l := by rw [Int.pow_add, Int.pow_add]; grind
        _ = _ := by rw [ha.2]; grind
    have e2 : zv V * zv b * 2 ^ (k + j + l) = (q * m * 2 ^ k) * (U * U) := by
      calc zv V * zv b * 2 ^ (k + j + l) = (zv V * 2 ^ l) * (zv b * 2 ^ j) * 2 ^ k := by rw [Int.pow_add, Int.pow_add]; grind
        _ = _ := by rw [zV, hb.2]; grind
    rw [e1, e2]
    exact Int.mul_le_mul_of_nonneg_right h (Int.le_of_lt (Int.mul_pos U_pos U_pos)))
  unfold Le; rw [← zV]; exact Int.mul_le_mul_of_nonneg_right h1 (Int.le_of_lt (pow_pos l))
theorem div_Ge {a b : UInt64} {n m q : Int} {k j l : Nat} (ha : DS n k a) (hb : DS m j b) (hm : 0 < m) (h : q * m * 2 ^ k ≤ n * 2 ^ j * 2 ^ l) (bq : q.natAbs ≤ 2 ^ 53) (hl : l ≤ 1000) : Ge (FP.ddiv a b) q l := by
  obtain ⟨V, fV, zV⟩ := rep q l bq hl
  have h1 : zv V ≤ zv (FP.ddiv a b) := ddiv_ge ha.1 hb.1 (hb.pos hm) (notNan fV) (by
    refine le_cancel (pow_pos (k + j + l)) ?_
    have e1 : zv a * U * 2 ^ (k + j + l) = (n * 2 ^ j * 2 ^ l) * (U * U) := by
      calc zv a * U * 2 ^ (k + j + l) = (zv a * 2 ^ k) * U * 2 ^ j * 2 ^ l := by rw [Int.pow_add, Int.pow_add]; grind
        _ = _ := by rw [ha.2]; grind
    have e2 : zv V * zv b * 2 ^ (k + j + l) = (q * m * 2 ^ k) * (U * U) := by
      calc zv V * zv b * 2 ^ (k + j + l) = (zv V * 2 ^ l) * (zv b * 2 ^ j) * 2 ^ k := by rw [Int.pow_add, Int.pow_add]; grind
        _ = _ := by rw [zV, hb.2]; grind
    rw [e1, e2]
    exact Int.mul_le_mul_of_nonneg_right h (Int.le_of_lt (Int.mul_pos U_pos U_pos)))
  unfold Ge; rw [← zV]; exact Int.mul_le_mul_of_nonneg_right h1 (Int.le_of_lt (pow_pos l))
theorem DS.div {a b : UInt64} {n m q : Int} {k j l : Nat} (ha : DS n k a) (hb : DS m j b) (hm : 0 < m) (h : n * 2 ^ j * 2 ^ l = q * m * 2 ^ k) (bq : q.natAbs ≤ 2 ^ 53) (hl : l ≤ 1000) : DS q l (FP.ddiv a b) :=
  DS.of (ddiv_nn ha.1 hb.1 (hb.pos hm)) (div_Ge ha hb hm (Int.le_of_eq h.symm) bq hl) (div_Le ha hb hm (Int.le_of_eq h) bq hl) bq hl
/-! comparisons -/
theorem cmp_zv {a b : UInt64} (ha : Core.val64 a ≠ .nan) (hb : Core.val64 b ≠ .nan) : FP.dcmp a b = some (compare (zv a) (zv b)) := Core.dcmp_zval ha hb
theorem cmpV_of {a b : UInt64} (ha : Core.val64 a ≠ .nan) (hb : Core.val64 b ≠ .nan) (o : ClassFile.CmpOp) : Op.cmpValue (FP.dcmp a b) o = if zv a < zv b then -1 else if zv a = zv b then 0 else 1 := by
  rw [cmp_zv ha hb, Core.compare_ite]
  split
  · rfl
  · split <;> rfl
theorem cmp_gt {a b : UInt64} (ha : Core.val64 a ≠ .nan) (hb : Core.val64 b ≠ .nan) (h : zv b < zv a) (o : ClassFile.CmpOp) : Op.cmpValue (FP.dcmp a b) o = 1 := by
  rw [cmpV_of ha hb, if_neg (by omega), if_neg (by omega)]
theorem cmp_lt {a b : UInt64} (ha : Core.val64 a ≠ .nan) (hb : Core.val64 b ≠ .nan) (h : zv a < zv b) (o : ClassFile.CmpOp) : Op.cmpValue (FP.dcmp a b) o = -1 := by
  rw [cmpV_of ha hb, if_pos h]
theorem cmp_eq {a b : UInt64} (ha : Core.val64 a ≠ .nan) (hb : Core.val64 b ≠ .nan) (h : zv a = zv b) (o : ClassFile.CmpOp) : Op.cmpValue (FP.dcmp a b) o = 0 := by
  rw [cmpV_of ha hb, if_neg (by omega), if_pos h]
theorem zv_zero : zv FP.dconst0 = 0 := Core.zval64_zero
theorem cmp_neg {a b : UInt64} {k : Int32} {o : ClassFile.CmpOp} (h : Op.cmpValue (FP.dcmp a b) o = k) (ha : Core.val64 a ≠ .nan) (hb : Core.val64 b ≠ .nan) : k < 0 ↔ zv a < zv b := by
  rw [← h, cmpV_of ha hb]; split
  · exact ⟨fun _ => by assumption, fun _ => by decide⟩
  · split
    · exact ⟨fun h => absurd h (by decide), fun h => absurd h (by assumption)⟩
    · exact ⟨fun h => absurd h (by decide), fun h => absurd h (by assumption)⟩
theorem cmp_pos {a b : UInt64} {k : Int32} {o : ClassFile.CmpOp} (h : Op.cmpValue (FP.dcmp a b) o = k) (ha : Core.val64 a ≠ .nan) (hb : Core.val64 b ≠ .nan) : 0 < k ↔ zv b < zv a := by
  rw [← h, cmpV_of ha hb]; split
  · exact ⟨fun h => absurd h (by decide), fun h => by omega⟩
  · split
    · exact ⟨fun h => absurd h (by decide), fun h => by omega⟩
    · exact ⟨fun h => by omega, fun _ => by decide⟩
theorem cmp_nul {a b : UInt64} {k : Int32} {o : ClassFile.CmpOp} (h : Op.cmpValue (FP.dcmp a b) o = k) (ha : Core.val64 a ≠ .nan) (hb : Core.val64 b ≠ .nan) : k = 0 ↔ zv a = zv b := by
  rw [← h, cmpV_of ha hb]; split
  · exact ⟨fun h => absurd h (by decide), fun h => by omega⟩
  · split
    · exact ⟨fun _ => by assumption, fun _ => rfl⟩
    · exact ⟨fun h => absurd h (by decide), fun h => by omega⟩
theorem lt_of {a b : UInt64} {n m : Int} {k : Nat} (h1 : Le a n k) (h2 : Ge b m k) (h : n < m) : zv a < zv b := by
  unfold Le at h1; unfold Ge at h2
  have : n * U < m * U := Int.mul_lt_mul_of_pos_right h U_pos
  exact Int.lt_of_mul_lt_mul_right (a := 2 ^ k) (by omega) (Int.le_of_lt (pow_pos k))
theorem le_of {a b : UInt64} {n m : Int} {k : Nat} (h1 : Le a n k) (h2 : Ge b m k) (h : n ≤ m) : zv a ≤ zv b := by
  unfold Le at h1; unfold Ge at h2
  have : n * U ≤ m * U := Int.mul_le_mul_of_nonneg_right h (Int.le_of_lt U_pos)
  exact Int.le_of_mul_le_mul_right (a := 2 ^ k) (by omega) (pow_pos k)
theorem DS.cmp {a b : UInt64} {n m : Int} {k : Nat} (ha : DS n k a) (hb : DS m k b) (o : ClassFile.CmpOp) : Op.cmpValue (FP.dcmp a b) o = if n < m then -1 else if n = m then 0 else 1 := by
  rw [cmpV_of (notNan ha.1) (notNan hb.1)]
  by_cases h1 : n < m
  · rw [if_pos h1, if_pos (lt_of ha.le hb.ge h1)]
  · by_cases h2 : n = m
    · have e : zv a = zv b := by
        subst h2; have := le_of ha.le hb.ge (Int.le_refl _); have := le_of hb.le ha.ge (Int.le_refl _); omega
      rw [if_neg h1, if_pos h2, if_neg (by omega), if_pos e]
    · have := lt_of hb.le ha.ge (show m < n by omega)
      rw [if_neg h1, if_neg h2, if_neg (by omega), if_neg (by omega)]
theorem DS.zero : DS 0 0 FP.dconst0 := ⟨⟨false, 0, _, Core.val64_dconst0⟩, by
  have : zv FP.dconst0 = 0 := Core.zval64_zero
  rw [this]; simp⟩
theorem DS.one : DS 1 0 FP.dconst1 := DS.int Core.dint_one
theorem zv_one : zv FP.dconst1 = U := by have := DS.one.2; rwa [Int.pow_zero, Int.mul_one, Int.one_mul] at this
theorem DS.noNaN {n : Int} {k : Nat} {a : UInt64} (h : DS n k a) : Jvm.Free.Fl.NoNaN64 a := (Jvm.Free.Fl.fin64_core.mpr h.1).noNaN
theorem noNaN_of {a : UInt64} (h : Core.val64 a ≠ .nan) : Jvm.Free.Fl.NoNaN64 a := Jvm.Free.Fl.noNaN64_no.mpr ((Core.notNaN_iff a).mpr h)
end Jvm.OwnFP
namespace Jvm.OwnFP
open Jvm.FP
theorem sgn_pos {a : UInt64} (h : 0 < zv a) : Core.sgn (Core.val64 a) = false := by
  unfold zv Core.zval at h
  cases e : Core.sgn (Core.val64 a) with
  | false => rfl
  | true => rw [e] at h; simp only [Core.signed, if_true] at h; omega
/-- one quotient by two roads -/
theorem DS.div_same {a a' b b' : UInt64} {n d : Int} {k j : Nat} (ha : DS n k a) (ha' : DS n k a') (hb : DS d j b) (hb' : DS d j b') (hn : 0 < n) (hd : 0 < d) : FP.ddiv a b = FP.ddiv a' b' := by
  have e1 : zv a = zv a' := mul_cancel (pow_pos k) (by rw [ha.2, ha'.2])
  have e2 : zv b = zv b' := mul_cancel (pow_pos j) (by rw [hb.2, hb'.2])
  refine ddiv_congr ha.1 hb.1 (hb.pos hd) ha'.1 hb'.1 (hb'.pos hd) ?_ (by rw [e1, e2])
  rw [sgn_pos (ha.pos hn), sgn_pos (ha'.pos hn)]
end Jvm.OwnFP
namespace Jvm.OwnFP
open Jvm.FP
theorem Le.neg {a : UInt64} {n : Int} {k : Nat} (h : Le a n k) : Ge (FP.dneg a) (-n) k := by unfold Le at h; unfold Ge; rw [zv_dneg, Int.neg_mul, Int.neg_mul]; omega
theorem Ge.neg {a : UInt64} {n : Int} {k : Nat} (h : Ge a n k) : Le (FP.dneg a) (-n) k := by unfold Ge at h; unfold Le; rw [zv_dneg, Int.neg_mul, Int.neg_mul]; omega
theorem sub_Le {a b : UInt64} {n m q : Int} {k : Nat} (fa : Core.DFin a) (fb : Core.DFin b) (ha : Le a n k) (hb : Ge b m k) (h : n - m ≤ q) (bq : q.natAbs ≤ 2 ^ 53) (hk : k ≤ 1000) : Le (FP.dsub a b) q k := by
  rw [dsub_dadd fb]; exact add_Le fa (fin_dneg fb) ha hb.neg (by omega) bq hk
theorem sub_Ge {a b : UInt64} {n m q : Int} {k : Nat} (fa : Core.DFin a) (fb : Core.DFin b) (ha : Ge a n k) (hb : Le b m k) (h : q ≤ n - m) (bq : q.natAbs ≤ 2 ^ 53) (hk : k ≤ 1000) : Ge (FP.dsub a b) q k := by
  rw [dsub_dadd fb]; exact add_Ge fa (fin_dneg fb) ha hb.neg (by omega) bq hk
/-- one quotient at two scales -/
theorem DS.div_scale {a a' b b' : UInt64} {n d : Int} {k k' : Nat} (ha : DS n k a) (ha' : DS n k' a') (hb : DS d k b) (hb' : DS d k' b') (hn : 0 < n) (hd : 0 < d) : FP.ddiv a b = FP.ddiv a' b' := by
  refine ddiv_congr ha.1 hb.1 (hb.pos hd) ha'.1 hb'.1 (hb'.pos hd) ?_ ?_
  · rw [sgn_pos (ha.pos hn), sgn_pos (ha'.pos hn)]
  · refine mul_cancel (pow_pos (k + k')) ?_
    calc zv a * zv b' * 2 ^ (k + k') = (zv a * 2 ^ k) * (zv b' * 2 ^ k') := by rw [Int.pow_add]; ac_rfl
      _ = (zv a' * 2 ^ k') * (zv b * 2 ^ k) := by rw [ha.2, hb'.2, ha'.2, hb.2]
      _ = zv a' * zv b * 2 ^ (k + k') := by rw [Int.pow_add]; ac_rfl
end Jvm.OwnFP
namespace Jvm.OwnArr
open Jvm Jvm.ClassFile Sem Op Lib Jvm.Free Jvm.Stand Jvm.LawKit Jvm.RoadKit
section
variable {p : Program} {l : Launch} {e : Env} {R : Room} {s : State} {m : MethodId} {args : Array Value} {below : List Frame} {meth : Method} {c : Code} {T : State} {locs : List Loc} {cells slots : Nat} {Z : State} {h h' : Heap} {a b : Addr} {ty : FieldType} {n : Nat} {f : Nat → Value}
/-- the array at a has n places of the kind ty; place j holds f j -/
def Ag (Z : State) (h : Heap) (a : Addr) (ty : FieldType) (n : Nat) (f : Nat → Value) : Prop := ∃ cl : Cell, Arr Z h a cl ty ∧ cl.slots.size = n ∧ ∀ j, j < n → cl.slots[j]? = some (f j)
theorem Ag.lt (F : Ag Z h a ty n f) : a < h.size := by obtain ⟨c, A, -⟩ := F; exact A.lt
theorem Ag.ext (F : Ag Z h a ty n f) (E : Ext h h') : Ag Z h' a ty n f := by obtain ⟨c, A, r⟩ := F; exact ⟨c, A.ext E, r⟩
theorem Ag.other {sl : Nat} {v : Value} (F : Ag Z h b ty n f) (W : Wr h h' a sl v) (q : b ≠ a) : Ag Z h' b ty n f := by obtain ⟨c, A, r⟩ := F; exact ⟨c, A.other W q, r⟩
theorem Ag.keep {ws : List Addr} (F : Ag Z h a ty n f) (K : Keep h h' ws) (q : a ∉ ws) : Ag Z h' a ty n f := by obtain ⟨c, A, r⟩ := F; exact ⟨c, ⟨K.2.1 a c A.1 q, A.2⟩, r⟩
theorem Ag.congr {g : Nat → Value} (F : Ag Z h a ty n f) (q : ∀ j, j < n → f j = g j) : Ag Z h a ty n g := by obtain ⟨c, A, S, H⟩ := F; exact ⟨c, A, S, fun j hj => by rw [H j hj, q j hj]⟩
theorem Ag.set {j : Nat} {v : Value} (F : Ag Z h a ty n f) (W : Wr h h' a j v) : Ag Z h' a ty n (fun i => if i = j then v else f i) := by
  obtain ⟨c, A, S, H⟩ := F
  refine ⟨c.setSlot j v, A.same W, by rw [sz_set]; exact S, fun i hi => ?_⟩
  show (c.slots.setIfInBounds j v)[i]? = some (if i = j then v else f i)
  by_cases q : i = j
  · subst q; rw [if_pos rfl, Array.getElem?_setIfInBounds_self_of_lt (by omega)]
  · rw [if_neg q, Array.getElem?_setIfInBounds_ne (Ne.symm q)]; exact H i hi
theorem Ag.new {k : ClassId} {z : Int32} (A : Arr Z h a (newA k ty z) ty) {N : Nat} (hz : z.toInt = (N : Int)) : Ag Z h a ty N (fun _ => defaultValue ty) := by
  have e : z.toNatClampNeg = N := by rw [Int32.toNatClampNeg]; omega
  refine ⟨_, A, by rw [sz_new, e], fun j hj => ?_⟩
  show (Array.replicate z.toNatClampNeg (defaultValue ty))[j]? = _
  rw [e]; simp [hj]
theorem nat32 {j : Int32} {J : Nat} (hj : j.toInt = (J : Int)) : j.toNatClampNeg = J := by rw [Int32.toNatClampNeg]; omega
theorem inb {cl : Cell} {j : Int32} {J : Nat} (hj : j.toInt = (J : Int)) (S : cl.slots.size = n) (hn : J < n) : ¬ (j < 0 ∨ cl.slots.size ≤ j.toNatClampNeg) := by
  rw [nat32 hj, S]
  rintro (q | q)
  · have := Int32.lt_iff_toInt_lt.mp q; rw [Int32.toInt_zero] at this; omega
  · omega
theorem ldD (X : Stand p l e R s m args below meth c T locs cells slots) (hx : p.tables.exec = Jvm.exec) (hZ : Z.Warmed39 s.vm) (eT : T.heap = h) (F : Ag Z h a .double n f) {j : Int32} {J : Nat} (hj : j.toInt = (J : Int)) (hn : J < n) {x : UInt64} (hv : f J = .double x) {g : JFrame} (hg : g.method = m) {rest : List Value} (hs : g.stack = .int j :: .ref a :: rest) (hd : decode c.code g.pc = .ok (.daload, 1)) {target : State}
    (hr : Steps p.tables e below (T.setTop { g with pc := g.pc + 1, stack := .double x :: rest }) target) : Steps p.tables e below (T.setTop g) target := by
  obtain ⟨cl, A, S, H⟩ := F
  exact X.daload hx (by rw [eT]; exact A.1) (State.isArrayOf_alike hZ.alike A.2.1) A.2.2 (inb hj S hn) (by rw [nat32 hj, H J hn, hv]) hg hs hd _ hr
theorem ldI (X : Stand p l e R s m args below meth c T locs cells slots) (hx : p.tables.exec = Jvm.exec) (hZ : Z.Warmed39 s.vm) (eT : T.heap = h) (F : Ag Z h a .int n f) {j : Int32} {J : Nat} (hj : j.toInt = (J : Int)) (hn : J < n) {x : Int32} (hv : f J = .int x) {g : JFrame} (hg : g.method = m) {rest : List Value} (hs : g.stack = .int j :: .ref a :: rest) (hd : decode c.code g.pc = .ok (.iaload, 1)) {target : State}
    (hr : Steps p.tables e below (T.setTop { g with pc := g.pc + 1, stack := .int x :: rest }) target) : Steps p.tables e below (T.setTop g) target := by
  obtain ⟨cl, A, S, H⟩ := F
  exact X.iaload hx (by rw [eT]; exact A.1) (State.isArrayOf_alike hZ.alike A.2.1) A.2.2 (inb hj S hn) (by rw [nat32 hj, H J hn, hv]) hg hs hd _ hr
theorem ldJ (X : Stand p l e R s m args below meth c T locs cells slots) (hx : p.tables.exec = Jvm.exec) (hZ : Z.Warmed39 s.vm) (eT : T.heap = h) (F : Ag Z h a .long n f) {j : Int32} {J : Nat} (hj : j.toInt = (J : Int)) (hn : J < n) {x : Int64} (hv : f J = .long x) {g : JFrame} (hg : g.method = m) {rest : List Value} (hs : g.stack = .int j :: .ref a :: rest) (hd : decode c.code g.pc = .ok (.laload, 1)) {target : State}
    (hr : Steps p.tables e below (T.setTop { g with pc := g.pc + 1, stack := .long x :: rest }) target) : Steps p.tables e below (T.setTop g) target := by
  obtain ⟨cl, A, S, H⟩ := F
  exact X.laload hx (by rw [eT]; exact A.1) (State.isArrayOf_alike hZ.alike A.2.1) A.2.2 (inb hj S hn) (by rw [nat32 hj, H J hn, hv]) hg hs hd _ hr
theorem lenA (X : Stand p l e R s m args below meth c T locs cells slots) (hx : p.tables.exec = Jvm.exec) (hZ : Z.Warmed39 s.vm) (eT : T.heap = h) (F : Ag Z h a ty n f) {z : Int32} (hz : z.toInt = (n : Int)) {g : JFrame} (hg : g.method = m) {rest : List Value} (hs : g.stack = .ref a :: rest) (hd : decode c.code g.pc = .ok (.arraylength, 1)) {target : State}
    (hr : Steps p.tables e below (T.setTop { g with pc := g.pc + 1, stack := .int z :: rest }) target) : Steps p.tables e below (T.setTop g) target := by
  obtain ⟨cl, A, S, H⟩ := F
  have q : cl.slots.size.toInt32 = z := by
    have h1 := Int32.toInt_lt z
    apply Int32.toInt_inj.mp
    rw [S, hz]; exact Int32.toInt_ofNat_small (by omega)
  exact X.arraylength hx (by rw [eT]; exact A.1) (State.isArrayOf_alike hZ.alike A.2.1) hg hs hd _ (by rw [q]; exact hr)
theorem stDA (X : Stand p l e R s m args below meth c T locs cells slots) (hx : p.tables.exec = Jvm.exec) (hZ : Z.Warmed39 s.vm) (eT : T.heap = h) (F : Ag Z h a .double n f) {j : Int32} {J : Nat} (hj : j.toInt = (J : Int)) (hn : J < n) {x : UInt64} {g : JFrame} (hg : g.method = m) {rest : List Value} (hs : g.stack = .double x :: .int j :: .ref a :: rest) (hd : decode c.code g.pc = .ok (.dastore, 1)) :
    ∃ T' h', Stand p l e R s m args below meth c T' (locs ++ [⟨a, J⟩]) cells slots ∧ T'.heap = h' ∧ Wr h h' a J (.double x) ∧ ∀ target, Steps p.tables e below (T'.setTop { g with pc := g.pc + 1, stack := rest }) target → Steps p.tables e below (T.setTop g) target := by
  obtain ⟨cl, A, S, H⟩ := F
  have q := stD X hx hZ eT A (inb hj S hn) hg hs hd
  rw [nat32 hj] at q; exact q
theorem stIA (X : Stand p l e R s m args below meth c T locs cells slots) (hx : p.tables.exec = Jvm.exec) (hZ : Z.Warmed39 s.vm) (eT : T.heap = h) (F : Ag Z h a .int n f) {j : Int32} {J : Nat} (hj : j.toInt = (J : Int)) (hn : J < n) {x : Int32} {g : JFrame} (hg : g.method = m) {rest : List Value} (hs : g.stack = .int x :: .int j :: .ref a :: rest) (hd : decode c.code g.pc = .ok (.iastore, 1)) :
    ∃ T' h', Stand p l e R s m args below meth c T' (locs ++ [⟨a, J⟩]) cells slots ∧ T'.heap = h' ∧ Wr h h' a J (.int x) ∧ ∀ target, Steps p.tables e below (T'.setTop { g with pc := g.pc + 1, stack := rest }) target → Steps p.tables e below (T.setTop g) target := by
  obtain ⟨cl, A, S, H⟩ := F
  have q := stI X hx hZ eT A (inb hj S hn) hg hs hd
  rw [nat32 hj] at q; exact q
theorem stJA (X : Stand p l e R s m args below meth c T locs cells slots) (hx : p.tables.exec = Jvm.exec) (hZ : Z.Warmed39 s.vm) (eT : T.heap = h) (F : Ag Z h a .long n f) {j : Int32} {J : Nat} (hj : j.toInt = (J : Int)) (hn : J < n) {x : Int64} {g : JFrame} (hg : g.method = m) {rest : List Value} (hs : g.stack = .long x :: .int j :: .ref a :: rest) (hd : decode c.code g.pc = .ok (.lastore, 1)) :
    ∃ T' h', Stand p l e R s m args below meth c T' (locs ++ [⟨a, J⟩]) cells slots ∧ T'.heap = h' ∧ Wr h h' a J (.long x) ∧ ∀ target, Steps p.tables e below (T'.setTop { g with pc := g.pc + 1, stack := rest }) target → Steps p.tables e below (T.setTop g) target := by
  obtain ⟨cl, A, S, H⟩ := F
  have q := stJ X hx hZ eT A (inb hj S hn) hg hs hd
  rw [nat32 hj] at q; exact q
end
end Jvm.OwnArr
namespace Jvm.Pilot.@@N@@
open Jvm Jvm.ClassFile Sem Op Lib Jvm.Free Jvm.Stand Jvm.LawKit Jvm.RoadKit Bundle Jvm.Pilot.@@N@@.Jvm.D
open Jvm.OwnFP Jvm.FP
theorem pn_com_example_rival_tongues_rivaltongues_engine_Bm25LengthNormPinLaw : plainName "com/example/rival_tongues/rivaltongues/engine/Bm25LengthNormPinLaw" = true := by first | (simp [plainName, overriddenIn]; done) | decide +kernel
theorem pn_com_example_rival_tongues_rivaltongues_engine_Field : plainName "com/example/rival_tongues/rivaltongues/engine/Field" = true := by first | (simp [plainName, overriddenIn]; done) | decide +kernel
theorem pn_com_example_rival_tongues_rivaltongues_engine_Bm25 : plainName "com/example/rival_tongues/rivaltongues/engine/Bm25" = true := by first | (simp [plainName, overriddenIn]; done) | decide +kernel
theorem pd___ILjava_util_Map__V : parseMethodDescriptor "([ILjava/util/Map;)V" = some ⟨[(.array .int), (.object "java/util/Map")], none⟩ := by decide +kernel
theorem pd__Lcom_example_rival_tongues_rivaltongues_engine_Field_I_D : parseMethodDescriptor "(Lcom/example/rival_tongues/rivaltongues/engine/Field;I)D" = some ⟨[(.object "com/example/rival_tongues/rivaltongues/engine/Field"), .int], some .double⟩ := by decide +kernel
theorem pd__I_I : parseMethodDescriptor "(I)I" = some ⟨[.int], some .int⟩ := by decide +kernel
theorem pd___D : parseMethodDescriptor "()D" = some ⟨[], some .double⟩ := by decide +kernel
theorem d1_0 : decode prog_17_method_1_code 0 = .ok (.aload_n 0, 1) := by decide +kernel
theorem d1_1 : decode prog_17_method_1_code 1 = .ok (.invokespecial 1, 3) := by decide +kernel
theorem d1_4 : decode prog_17_method_1_code 4 = .ok (.aload_n 0, 1) := by decide +kernel
theorem d1_5 : decode prog_17_method_1_code 5 = .ok (.aload_n 1, 1) := by decide +kernel
theorem d1_6 : decode prog_17_method_1_code 6 = .ok (.putfield 7, 3) := by decide +kernel
theorem d1_9 : decode prog_17_method_1_code 9 = .ok (.aload_n 0, 1) := by decide +kernel
theorem d1_10 : decode prog_17_method_1_code 10 = .ok (.aload_n 2, 1) := by decide +kernel
theorem d1_11 : decode prog_17_method_1_code 11 = .ok (.putfield 13, 3) := by decide +kernel
theorem d1_14 : decode prog_17_method_1_code 14 = .ok (.lconst 0, 1) := by decide +kernel
theorem d1_15 : decode prog_17_method_1_code 15 = .ok (.lstore_n 3, 1) := by decide +kernel
theorem d1_16 : decode prog_17_method_1_code 16 = .ok (.aload_n 1, 1) := by decide +kernel
theorem d1_17 : decode prog_17_method_1_code 17 = .ok (.astore 5, 2) := by decide +kernel
theorem d1_19 : decode prog_17_method_1_code 19 = .ok (.aload 5, 2) := by decide +kernel
theorem d1_21 : decode prog_17_method_1_code 21 = .ok (.arraylength, 1) := by decide +kernel
theorem d1_22 : decode prog_17_method_1_code 22 = .ok (.istore 6, 2) := by decide +kernel
theorem d1_24 : decode prog_17_method_1_code 24 = .ok (.iconst 0, 1) := by decide +kernel
theorem d1_25 : decode prog_17_method_1_code 25 = .ok (.istore 7, 2) := by decide +kernel
theorem d1_27 : decode prog_17_method_1_code 27 = .ok (.iload 7, 2) := by decide +kernel
theorem d1_29 : decode prog_17_method_1_code 29 = .ok (.iload 6, 2) := by decide +kernel
theorem d1_31 : decode prog_17_method_1_code 31 = .ok (.if_icmp .ge 22, 3) := by decide +kernel
theorem d1_34 : decode prog_17_method_1_code 34 = .ok (.aload 5, 2) := by decide +kernel
theorem d1_36 : decode prog_17_method_1_code 36 = .ok (.iload 7, 2) := by decide +kernel
theorem d1_38 : decode prog_17_method_1_code 38 = .ok (.iaload, 1) := by decide +kernel
theorem d1_39 : decode prog_17_method_1_code 39 = .ok (.istore 8, 2) := by decide +kernel
theorem d1_41 : decode prog_17_method_1_code 41 = .ok (.lload_n 3, 1) := by decide +kernel
theorem d1_42 : decode prog_17_method_1_code 42 = .ok (.iload 8, 2) := by decide +kernel
theorem d1_44 : decode prog_17_method_1_code 44 = .ok (.i2l, 1) := by decide +kernel
theorem d1_45 : decode prog_17_method_1_code 45 = .ok (.ladd, 1) := by decide +kernel
theorem d1_46 : decode prog_17_method_1_code 46 = .ok (.lstore_n 3, 1) := by decide +kernel
theorem d1_47 : decode prog_17_method_1_code 47 = .ok (.iinc 7 1, 3) := by decide +kernel
theorem d1_50 : decode prog_17_method_1_code 50 = .ok (.goto (-23), 3) := by decide +kernel
theorem d1_53 : decode prog_17_method_1_code 53 = .ok (.aload_n 0, 1) := by decide +kernel
theorem d1_54 : decode prog_17_method_1_code 54 = .ok (.lload_n 3, 1) := by decide +kernel
theorem d1_55 : decode prog_17_method_1_code 55 = .ok (.l2d, 1) := by decide +kernel
theorem d1_56 : decode prog_17_method_1_code 56 = .ok (.aload_n 1, 1) := by decide +kernel
theorem d1_57 : decode prog_17_method_1_code 57 = .ok (.arraylength, 1) := by decide +kernel
theorem d1_58 : decode prog_17_method_1_code 58 = .ok (.i2d, 1) := by decide +kernel
theorem d1_59 : decode prog_17_method_1_code 59 = .ok (.ddiv, 1) := by decide +kernel
theorem d1_60 : decode prog_17_method_1_code 60 = .ok (.putfield 17, 3) := by decide +kernel
theorem d1_63 : decode prog_17_method_1_code 63 = .ok (.return_, 1) := by decide +kernel
theorem ef_1 (m : MethodId) (a1 : Addr) (ar : Addr) (pav : UInt64) (ls : Nat → Int32) : entryFrame m #[(.ref a1), (.ref ar), .null] 9 = (mkF m 0 #[.val (.ref a1), .val (.ref ar), .val .null, .unset, .unset, .unset, .unset, .unset, .unset] []) := by first | (simp [entryFrame, mkF, argsToLocals, Value.category]; done) | rfl
def Q_1 (Z : State) (a1 : Addr) (ar : Addr) (pav : UInt64) (ls : Nat → Int32) (h0 : Heap) (n0 : Nat) (v : Option Value) (h : Heap) (L : List Loc) : Prop := v = none ∧ Fr n0 L ∧ Keep h0 h [a1] ∧ Exa Z h a1 "com/example/rival_tongues/rivaltongues/engine/Field" ∧ Fld Z h a1 "com/example/rival_tongues/rivaltongues/engine/Field" "lengths" "[I" (.ref ar) ∧ Fld Z h a1 "com/example/rival_tongues/rivaltongues/engine/Field" "postings" "Ljava/util/Map;" .null ∧ Fld Z h a1 "com/example/rival_tongues/rivaltongues/engine/Field" "averageLength" "D" (.double pav)
set_option maxRecDepth 65536 in
set_option maxHeartbeats 2000000 in
theorem rm_1 (l : Launch) (Z : State) (a0 : Array Value) (hw : ∀ d ∈ tables_1, d.before a0 Z = true) (ws : List Jvm.Cond) (a1 : Addr) (ar : Addr) (pav : UInt64) (ls : Nat → Int32) (h0 : Heap) (n0 : Nat) (Z0 : n0 ≤ h0.size) (E_a1 : Exa Z h0 a1 "com/example/rival_tongues/rivaltongues/engine/Field") (F_0 : Fld Z h0 a1 "com/example/rival_tongues/rivaltongues/engine/Field" "lengths" "[I" .null) (F_1 : Fld Z h0 a1 "com/example/rival_tongues/rivaltongues/engine/Field" "postings" "Ljava/util/Map;" .null) (F_2 : Fld Z h0 a1 "com/example/rival_tongues/rivaltongues/engine/Field" "averageLength" "D" (.double (0 : UInt64))) (g_a1 : n0 ≤ a1) (A_0 : OwnArr.Ag Z h0 ar .int 4 (fun i => .int (ls i))) (ne_ : ar ≠ a1) (hav : FP.ddiv (FP.l2d (((((0 : Int64) + (ls 0).toInt64) + (ls 1).toInt64) + (ls 2).toInt64) + (ls 3).toInt64)) (FP.i2d (4 : Int32)) = pav) (nav : Jvm.Free.Fl.NoNaN64 pav) :
    MetFree l (⟨"com/example/rival_tongues/rivaltongues/engine/Field", "<init>", "([ILjava/util/Map;)V"⟩ : MethodName) (head1 (Jvm.Cond.code (⟨"com/example/rival_tongues/rivaltongues/engine/Field", "<init>", "([ILjava/util/Map;)V"⟩ : MethodName) prog_17_method_1_code 9 none :: ws) ({ frames := 1, cells := 0, slots := 0, locals := 12 } : Room)) (fun aa UU => aa = #[(.ref a1), (.ref ar), .null] ∧ Z.Warmed39 UU.vm ∧ UU.heap = h0) (fun _ _ _ _ _ => True) (fun _ UU oo UU' => ∃ v L, oo = .returned v ∧ Q_1 Z a1 ar pav ls h0 n0 v UU'.heap L ∧ FrameEnd UU oo UU' L ({ frames := 1, cells := 0, slots := 0, locals := 12 } : Room).cells ({ frames := 1, cells := 0, slots := 0, locals := 12 } : Room).slots) := by
  refine MetFree.of_bodySF (plainFor_of_name pn_com_example_rival_tongues_rivaltongues_engine_Field) hisR ?_
  intro p e s m args below meth c s₁ Bd hml0 hP hK
  obtain ⟨rfl, hZ, hh⟩ := hP
  have hx := Bd.exec
  have hby := Bd.bytes
  have hml : c.maxLocals = 9 := hml0
  have hown : s.vm.findClass "com/example/rival_tongues/rivaltongues/engine/Field" = some m.cls := findClass_of_methodNamed Bd.named
  have hnaM := (name_of_methodNamed Bd.named Bd.method).1
  have X0 : Stand p l e ({ frames := 1, cells := 0, slots := 0, locals := 12 } : Room) s m #[(.ref a1), (.ref ar), .null] below meth c s₁ [] 0 0 := Stand.of_body Bd
  have e0 : s₁.heap = h0 := by rw [← hh, Bd.state]; rfl
  have N0 := Fr.nil n0
  have pre0 : ∀ t, Steps p.tables e below (s₁.setTop (entryFrame m #[(.ref a1), (.ref ar), .null] 9)) t → Steps p.tables e below (s₁.setTop (entryFrame m #[(.ref a1), (.ref ar), .null] 9)) t := fun t k => k
  have c0 : ∀ t, Steps p.tables e below (s₁.setTop (mkF m 0 #[.val (.ref a1), .val (.ref ar), .val .null, .unset, .unset, .unset, .unset, .unset, .unset] [])) t → Steps p.tables e below (s₁.setTop (entryFrame m #[(.ref a1), (.ref ar), .null] 9)) t := fun t k => castTop (ef_1 m a1 ar pav ls) k
  have K0 := Keep.refl h0 [a1]
  have c1 : ∀ t, Steps p.tables e below (s₁.setTop (mkF m 1 #[.val (.ref a1), .val (.ref ar), .val .null, .unset, .unset, .unset, .unset, .unset, .unset] [(.ref a1)])) t → Steps p.tables e below (s₁.setTop (entryFrame m #[(.ref a1), (.ref ar), .null] 9)) t := fun t k => c0 t (by
    show Steps p.tables e below (s₁.setTop (mkF m 0 #[.val (.ref a1), .val (.ref ar), .val .null, .unset, .unset, .unset, .unset, .unset, .unset] [])) _
    refine XS.aloadN X0.here hx rfl (hb hby d1_0) rfl rfl ?_
    show Steps p.tables e below (s₁.setTop (mkF m 1 #[.val (.ref a1), .val (.ref ar), .val .null, .unset, .unset, .unset, .unset, .unset, .unset] [(.ref a1)])) _
    exact k)
  obtain ⟨T2, X2, e2, st2⟩ := initO X0 hx hZ hown (hw _ (List.mem_of_getElem? (i := 8) rfl)) (hw _ (List.mem_of_getElem? (i := 9) rfl)) (hw _ (List.mem_of_getElem? (i := 10) rfl)) e0 (g := (mkF m 1 #[.val (.ref a1), .val (.ref ar), .val .null, .unset, .unset, .unset, .unset, .unset, .unset] [(.ref a1)])) rfl (by rw [hml]; rfl) rfl (hb hby d1_1) (by decide) (W := 0) (by show 2 * 0 + _ ≤ _; exact Nat.le_of_eq rfl) (by decide)
  have c3 : ∀ t, Steps p.tables e below (T2.setTop (mkF m 4 #[.val (.ref a1), .val (.ref ar), .val .null, .unset, .unset, .unset, .unset, .unset, .unset] [])) t → Steps p.tables e below (s₁.setTop (entryFrame m #[(.ref a1), (.ref ar), .null] 9)) t := fun t k => c1 t (st2 _ k)
  have c4 : ∀ t, Steps p.tables e below (T2.setTop (mkF m 6 #[.val (.ref a1), .val (.ref ar), .val .null, .unset, .unset, .unset, .unset, .unset, .unset] [(.ref ar), (.ref a1)])) t → Steps p.tables e below (s₁.setTop (entryFrame m #[(.ref a1), (.ref ar), .null] 9)) t := fun t k => c3 t (by
    show Steps p.tables e below (T2.setTop (mkF m 4 #[.val (.ref a1), .val (.ref ar), .val .null, .unset, .unset, .unset, .unset, .unset, .unset] [])) _
    refine XS.aloadN X2.here hx rfl (hb hby d1_4) rfl rfl ?_
    show Steps p.tables e below (T2.setTop (mkF m 5 #[.val (.ref a1), .val (.ref ar), .val .null, .unset, .unset, .unset, .unset, .unset, .unset] [(.ref a1)])) _
    refine XS.aloadN X2.here hx rfl (hb hby d1_5) rfl rfl ?_
    show Steps p.tables e below (T2.setTop (mkF m 6 #[.val (.ref a1), .val (.ref ar), .val .null, .unset, .unset, .unset, .unset, .unset, .unset] [(.ref ar), (.ref a1)])) _
    exact k)
  obtain ⟨T5, h5, X5, e5, W5, st5⟩ := putF X2 hx hZ hown (host := "") (Or.inl (hw _ (List.mem_of_getElem? (i := 11) rfl))) Via.refl e2 F_0 E_a1 (Or.inr ⟨(hw _ (List.mem_of_getElem? (i := 12) rfl)), rfl, hnaM⟩) (hw _ (List.mem_of_getElem? (i := 3) rfl)) (ty := (.array .int)) (by decide) rfl rfl (g := (mkF m 6 #[.val (.ref a1), .val (.ref ar), .val .null, .unset, .unset, .unset, .unset, .unset, .unset] [(.ref ar), (.ref a1)])) rfl rfl (hb hby d1_6)
  have F6 : Fld Z h5 a1 "com/example/rival_tongues/rivaltongues/engine/Field" "lengths" "[I" (.ref ar) := F_0.same W5
  have F7 : Exa Z h5 a1 "com/example/rival_tongues/rivaltongues/engine/Field" := (E_a1.wr W5)
  have F8 : Fld Z h5 a1 "com/example/rival_tongues/rivaltongues/engine/Field" "postings" "Ljava/util/Map;" .null := (F_1.other W5 (Or.inr (slot_ne (Or.inr (hw _ (List.mem_of_getElem? (i := 14) rfl))) (Or.inr (hw _ (List.mem_of_getElem? (i := 12) rfl))) (by decide) (t := (.object "java/util/Map")) (t' := (.array .int)) (by decide) (by decide))))
  have F9 : Fld Z h5 a1 "com/example/rival_tongues/rivaltongues/engine/Field" "averageLength" "D" (.double (0 : UInt64)) := (F_2.other W5 (Or.inr (slot_ne (Or.inr (hw _ (List.mem_of_getElem? (i := 16) rfl))) (Or.inr (hw _ (List.mem_of_getElem? (i := 12) rfl))) (by decide) (t := .double) (t' := (.array .int)) (by decide) (by decide))))
  have F10 : OwnArr.Ag Z h5 ar .int 4 (fun i => .int (ls i)) := (A_0.other W5 ne_)
  have N5 := Fr.snoc X5 N0 g_a1
  have K11 : Keep h0 h5 [a1] := K0.wr W5 (Or.inl (List.mem_of_getElem? (i := 0) rfl))
  have c12 : ∀ t, Steps p.tables e below (T5.setTop (mkF m 9 #[.val (.ref a1), .val (.ref ar), .val .null, .unset, .unset, .unset, .unset, .unset, .unset] [])) t → Steps p.tables e below (s₁.setTop (entryFrame m #[(.ref a1), (.ref ar), .null] 9)) t := fun t k => c4 t (st5 _ k)
  have c13 : ∀ t, Steps p.tables e below (T5.setTop (mkF m 11 #[.val (.ref a1), .val (.ref ar), .val .null, .unset, .unset, .unset, .unset, .unset, .unset] [.null, (.ref a1)])) t → Steps p.tables e below (s₁.setTop (entryFrame m #[(.ref a1), (.ref ar), .null] 9)) t := fun t k => c12 t (by
    show Steps p.tables e below (T5.setTop (mkF m 9 #[.val (.ref a1), .val (.ref ar), .val .null, .unset, .unset, .unset, .unset, .unset, .unset] [])) _
    refine XS.aloadN X5.here hx rfl (hb hby d1_9) rfl rfl ?_
    show Steps p.tables e below (T5.setTop (mkF m 10 #[.val (.ref a1), .val (.ref ar), .val .null, .unset, .unset, .unset, .unset, .unset, .unset] [(.ref a1)])) _
    refine XS.aloadN X5.here hx rfl (hb hby d1_10) rfl rfl ?_
    show Steps p.tables e below (T5.setTop (mkF m 11 #[.val (.ref a1), .val (.ref ar), .val .null, .unset, .unset, .unset, .unset, .unset, .unset] [.null, (.ref a1)])) _
    exact k)
  obtain ⟨T14, h14, X14, e14, W14, st14⟩ := putF X5 hx hZ hown (host := "") (Or.inl (hw _ (List.mem_of_getElem? (i := 13) rfl))) Via.refl e5 F8 F7 (Or.inr ⟨(hw _ (List.mem_of_getElem? (i := 14) rfl)), rfl, hnaM⟩) (hw _ (List.mem_of_getElem? (i := 3) rfl)) (ty := (.object "java/util/Map")) (by decide) rfl rfl (g := (mkF m 11 #[.val (.ref a1), .val (.ref ar), .val .null, .unset, .unset, .unset, .unset, .unset, .unset] [.null, (.ref a1)])) rfl rfl (hb hby d1_11)
  have F15 : Fld Z h14 a1 "com/example/rival_tongues/rivaltongues/engine/Field" "postings" "Ljava/util/Map;" .null := F8.same W14
  have F16 : Exa Z h14 a1 "com/example/rival_tongues/rivaltongues/engine/Field" := (F7.wr W14)
  have F17 : Fld Z h14 a1 "com/example/rival_tongues/rivaltongues/engine/Field" "lengths" "[I" (.ref ar) := (F6.other W14 (Or.inr (slot_ne (Or.inr (hw _ (List.mem_of_getElem? (i := 12) rfl))) (Or.inr (hw _ (List.mem_of_getElem? (i := 14) rfl))) (by decide) (t := (.array .int)) (t' := (.object "java/util/Map")) (by decide) (by decide))))
  have F18 : Fld Z h14 a1 "com/example/rival_tongues/rivaltongues/engine/Field" "averageLength" "D" (.double (0 : UInt64)) := (F9.other W14 (Or.inr (slot_ne (Or.inr (hw _ (List.mem_of_getElem? (i := 16) rfl))) (Or.inr (hw _ (List.mem_of_getElem? (i := 14) rfl))) (by decide) (t := .double) (t' := (.object "java/util/Map")) (by decide) (by decide))))
  have F19 : OwnArr.Ag Z h14 ar .int 4 (fun i => .int (ls i)) := (F10.other W14 ne_)
  have N14 := Fr.snoc X14 N5 g_a1
  have K20 : Keep h0 h14 [a1] := K11.wr W14 (Or.inl (List.mem_of_getElem? (i := 0) rfl))
  have c21 : ∀ t, Steps p.tables e below (T14.setTop (mkF m 14 #[.val (.ref a1), .val (.ref ar), .val .null, .unset, .unset, .unset, .unset, .unset, .unset] [])) t → Steps p.tables e below (s₁.setTop (entryFrame m #[(.ref a1), (.ref ar), .null] 9)) t := fun t k => c13 t (st14 _ k)
  have c22 : ∀ t, Steps p.tables e below (T14.setTop (mkF m 60 #[.val (.ref a1), .val (.ref ar), .val .null, .val (.long (((((0 : Int64) + ((ls 0).toInt64)) + ((ls 1).toInt64)) + ((ls 2).toInt64)) + ((ls 3).toInt64))), .second, .val (.ref ar), .val (.int (4 : Int32)), .val (.int (4 : Int32)), .val (.int (ls 3))] [(.double pav), (.ref a1)])) t → Steps p.tables e below (s₁.setTop (entryFrame m #[(.ref a1), (.ref ar), .null] 9)) t := fun t k => c21 t (by
    show Steps p.tables e below (T14.setTop (mkF m 14 #[.val (.ref a1), .val (.ref ar), .val .null, .unset, .unset, .unset, .unset, .unset, .unset] [])) _
    refine XT.lconst X14.here hx rfl (hb hby d1_14) ?_
    show Steps p.tables e below (T14.setTop (mkF m 15 #[.val (.ref a1), .val (.ref ar), .val .null, .unset, .unset, .unset, .unset, .unset, .unset] [(.long (0 : Int64))])) _
    refine XT.lstoreN X14.here hx rfl (hb hby d1_15) rfl (l' := #[.val (.ref a1), .val (.ref ar), .val .null, .val (.long (0 : Int64)), .second, .unset, .unset, .unset, .unset]) rfl ?_
    show Steps p.tables e below (T14.setTop (mkF m 16 #[.val (.ref a1), .val (.ref ar), .val .null, .val (.long (0 : Int64)), .second, .unset, .unset, .unset, .unset] [])) _
    refine XS.aloadN X14.here hx rfl (hb hby d1_16) rfl rfl ?_
    show Steps p.tables e below (T14.setTop (mkF m 17 #[.val (.ref a1), .val (.ref ar), .val .null, .val (.long (0 : Int64)), .second, .unset, .unset, .unset, .unset] [(.ref ar)])) _
    refine XS.astore X14.here hx rfl (hb hby d1_17) rfl rfl (l' := #[.val (.ref a1), .val (.ref ar), .val .null, .val (.long (0 : Int64)), .second, .val (.ref ar), .unset, .unset, .unset]) rfl ?_
    show Steps p.tables e below (T14.setTop (mkF m 19 #[.val (.ref a1), .val (.ref ar), .val .null, .val (.long (0 : Int64)), .second, .val (.ref ar), .unset, .unset, .unset] [])) _
    refine XS.aload X14.here hx rfl (hb hby d1_19) rfl rfl ?_
    show Steps p.tables e below (T14.setTop (mkF m 21 #[.val (.ref a1), .val (.ref ar), .val .null, .val (.long (0 : Int64)), .second, .val (.ref ar), .unset, .unset, .unset] [(.ref ar)])) _
    refine OwnArr.lenA X14 hx hZ e14 F19 (z := (4 : Int32)) (by decide) (g := (mkF m 21 #[.val (.ref a1), .val (.ref ar), .val .null, .val (.long (0 : Int64)), .second, .val (.ref ar), .unset, .unset, .unset] [(.ref ar)])) rfl rfl (hb hby d1_21) ?_
    show Steps p.tables e below (T14.setTop (mkF m 22 #[.val (.ref a1), .val (.ref ar), .val .null, .val (.long (0 : Int64)), .second, .val (.ref ar), .unset, .unset, .unset] [(.int (4 : Int32))])) _
    refine XS.istore X14.here hx rfl (hb hby d1_22) rfl (l' := #[.val (.ref a1), .val (.ref ar), .val .null, .val (.long (0 : Int64)), .second, .val (.ref ar), .val (.int (4 : Int32)), .unset, .unset]) rfl ?_
    show Steps p.tables e below (T14.setTop (mkF m 24 #[.val (.ref a1), .val (.ref ar), .val .null, .val (.long (0 : Int64)), .second, .val (.ref ar), .val (.int (4 : Int32)), .unset, .unset] [])) _
    refine XS.iconst X14.here hx rfl (hb hby d1_24) ?_
    show Steps p.tables e below (T14.setTop (mkF m 25 #[.val (.ref a1), .val (.ref ar), .val .null, .val (.long (0 : Int64)), .second, .val (.ref ar), .val (.int (4 : Int32)), .unset, .unset] [(.int (0 : Int32))])) _
    refine XS.istore X14.here hx rfl (hb hby d1_25) rfl (l' := #[.val (.ref a1), .val (.ref ar), .val .null, .val (.long (0 : Int64)), .second, .val (.ref ar), .val (.int (4 : Int32)), .val (.int (0 : Int32)), .unset]) rfl ?_
    show Steps p.tables e below (T14.setTop (mkF m 27 #[.val (.ref a1), .val (.ref ar), .val .null, .val (.long (0 : Int64)), .second, .val (.ref ar), .val (.int (4 : Int32)), .val (.int (0 : Int32)), .unset] [])) _
    refine XS.iload X14.here hx rfl (hb hby d1_27) rfl ?_
    show Steps p.tables e below (T14.setTop (mkF m 29 #[.val (.ref a1), .val (.ref ar), .val .null, .val (.long (0 : Int64)), .second, .val (.ref ar), .val (.int (4 : Int32)), .val (.int (0 : Int32)), .unset] [(.int (0 : Int32))])) _
    refine XS.iload X14.here hx rfl (hb hby d1_29) rfl ?_
    show Steps p.tables e below (T14.setTop (mkF m 31 #[.val (.ref a1), .val (.ref ar), .val .null, .val (.long (0 : Int64)), .second, .val (.ref ar), .val (.int (4 : Int32)), .val (.int (0 : Int32)), .unset] [(.int (4 : Int32)), (.int (0 : Int32))])) _
    refine XS.icmpNo X14.here hx rfl (hb hby d1_31) rfl (XT.ii_ge_f (by decide)) ?_
    show Steps p.tables e below (T14.setTop (mkF m 34 #[.val (.ref a1), .val (.ref ar), .val .null, .val (.long (0 : Int64)), .second, .val (.ref ar), .val (.int (4 : Int32)), .val (.int (0 : Int32)), .unset] [])) _
    refine XS.aload X14.here hx rfl (hb hby d1_34) rfl rfl ?_
    show Steps p.tables e below (T14.setTop (mkF m 36 #[.val (.ref a1), .val (.ref ar), .val .null, .val (.long (0 : Int64)), .second, .val (.ref ar), .val (.int (4 : Int32)), .val (.int (0 : Int32)), .unset] [(.ref ar)])) _
    refine XS.iload X14.here hx rfl (hb hby d1_36) rfl ?_
    show Steps p.tables e below (T14.setTop (mkF m 38 #[.val (.ref a1), .val (.ref ar), .val .null, .val (.long (0 : Int64)), .second, .val (.ref ar), .val (.int (4 : Int32)), .val (.int (0 : Int32)), .unset] [(.int (0 : Int32)), (.ref ar)])) _
    refine OwnArr.ldI X14 hx hZ e14 F19 (j := (0 : Int32)) (J := 0) (by decide) (by decide) (x := (ls 0)) rfl (g := (mkF m 38 #[.val (.ref a1), .val (.ref ar), .val .null, .val (.long (0 : Int64)), .second, .val (.ref ar), .val (.int (4 : Int32)), .val (.int (0 : Int32)), .unset] [(.int (0 : Int32)), (.ref ar)])) rfl rfl (hb hby d1_38) ?_
    show Steps p.tables e below (T14.setTop (mkF m 39 #[.val (.ref a1), .val (.ref ar), .val .null, .val (.long (0 : Int64)), .second, .val (.ref ar), .val (.int (4 : Int32)), .val (.int (0 : Int32)), .unset] [(.int (ls 0))])) _
    refine XS.istore X14.here hx rfl (hb hby d1_39) rfl (l' := #[.val (.ref a1), .val (.ref ar), .val .null, .val (.long (0 : Int64)), .second, .val (.ref ar), .val (.int (4 : Int32)), .val (.int (0 : Int32)), .val (.int (ls 0))]) rfl ?_
    show Steps p.tables e below (T14.setTop (mkF m 41 #[.val (.ref a1), .val (.ref ar), .val .null, .val (.long (0 : Int64)), .second, .val (.ref ar), .val (.int (4 : Int32)), .val (.int (0 : Int32)), .val (.int (ls 0))] [])) _
    refine XT.lloadN X14.here hx rfl (hb hby d1_41) rfl ?_
    show Steps p.tables e below (T14.setTop (mkF m 42 #[.val (.ref a1), .val (.ref ar), .val .null, .val (.long (0 : Int64)), .second, .val (.ref ar), .val (.int (4 : Int32)), .val (.int (0 : Int32)), .val (.int (ls 0))] [(.long (0 : Int64))])) _
    refine XS.iload X14.here hx rfl (hb hby d1_42) rfl ?_
    show Steps p.tables e below (T14.setTop (mkF m 44 #[.val (.ref a1), .val (.ref ar), .val .null, .val (.long (0 : Int64)), .second, .val (.ref ar), .val (.int (4 : Int32)), .val (.int (0 : Int32)), .val (.int (ls 0))] [(.int (ls 0)), (.long (0 : Int64))])) _
    refine XT.i2l X14.here hx rfl (hb hby d1_44) rfl ?_
    show Steps p.tables e below (T14.setTop (mkF m 45 #[.val (.ref a1), .val (.ref ar), .val .null, .val (.long (0 : Int64)), .second, .val (.ref ar), .val (.int (4 : Int32)), .val (.int (0 : Int32)), .val (.int (ls 0))] [(.long ((ls 0).toInt64)), (.long (0 : Int64))])) _
    refine XT.ladd X14.here hx rfl (hb hby d1_45) rfl ?_
    show Steps p.tables e below (T14.setTop (mkF m 46 #[.val (.ref a1), .val (.ref ar), .val .null, .val (.long (0 : Int64)), .second, .val (.ref ar), .val (.int (4 : Int32)), .val (.int (0 : Int32)), .val (.int (ls 0))] [(.long ((0 : Int64) + ((ls 0).toInt64)))])) _
    refine XT.lstoreN X14.here hx rfl (hb hby d1_46) rfl (l' := #[.val (.ref a1), .val (.ref ar), .val .null, .val (.long ((0 : Int64) + ((ls 0).toInt64))), .second, .val (.ref ar), .val (.int (4 : Int32)), .val (.int (0 : Int32)), .val (.int (ls 0))]) rfl ?_
    show Steps p.tables e below (T14.setTop (mkF m 47 #[.val (.ref a1), .val (.ref ar), .val .null, .val (.long ((0 : Int64) + ((ls 0).toInt64))), .second, .val (.ref ar), .val (.int (4 : Int32)), .val (.int (0 : Int32)), .val (.int (ls 0))] [])) _
    refine XS.iinc X14.here hx rfl (hb hby d1_47) rfl (l' := #[.val (.ref a1), .val (.ref ar), .val .null, .val (.long ((0 : Int64) + ((ls 0).toInt64))), .second, .val (.ref ar), .val (.int (4 : Int32)), .val (.int (1 : Int32)), .val (.int (ls 0))]) rfl ?_
    show Steps p.tables e below (T14.setTop (mkF m 50 #[.val (.ref a1), .val (.ref ar), .val .null, .val (.long ((0 : Int64) + ((ls 0).toInt64))), .second, .val (.ref ar), .val (.int (4 : Int32)), .val (.int (1 : Int32)), .val (.int (ls 0))] [])) _
    refine XS.goto X14.here hx rfl (pc0 := 50) (pc' := 27) rfl (hb hby d1_50) (by decide) (by decide) ?_
    show Steps p.tables e below (T14.setTop (mkF m 27 #[.val (.ref a1), .val (.ref ar), .val .null, .val (.long ((0 : Int64) + ((ls 0).toInt64))), .second, .val (.ref ar), .val (.int (4 : Int32)), .val (.int (1 : Int32)), .val (.int (ls 0))] [])) _
    refine XS.iload X14.here hx rfl (hb hby d1_27) rfl ?_
    show Steps p.tables e below (T14.setTop (mkF m 29 #[.val (.ref a1), .val (.ref ar), .val .null, .val (.long ((0 : Int64) + ((ls 0).toInt64))), .second, .val (.ref ar), .val (.int (4 : Int32)), .val (.int (1 : Int32)), .val (.int (ls 0))] [(.int (1 : Int32))])) _
    refine XS.iload X14.here hx rfl (hb hby d1_29) rfl ?_
    show Steps p.tables e below (T14.setTop (mkF m 31 #[.val (.ref a1), .val (.ref ar), .val .null, .val (.long ((0 : Int64) + ((ls 0).toInt64))), .second, .val (.ref ar), .val (.int (4 : Int32)), .val (.int (1 : Int32)), .val (.int (ls 0))] [(.int (4 : Int32)), (.int (1 : Int32))])) _
    refine XS.icmpNo X14.here hx rfl (hb hby d1_31) rfl (XT.ii_ge_f (by decide)) ?_
    show Steps p.tables e below (T14.setTop (mkF m 34 #[.val (.ref a1), .val (.ref ar), .val .null, .val (.long ((0 : Int64) + ((ls 0).toInt64))), .second, .val (.ref ar), .val (.int (4 : Int32)), .val (.int (1 : Int32)), .val (.int (ls 0))] [])) _
    refine XS.aload X14.here hx rfl (hb hby d1_34) rfl rfl ?_
    show Steps p.tables e below (T14.setTop (mkF m 36 #[.val (.ref a1), .val (.ref ar), .val .null, .val (.long ((0 : Int64) + ((ls 0).toInt64))), .second, .val (.ref ar), .val (.int (4 : Int32)), .val (.int (1 : Int32)), .val (.int (ls 0))] [(.ref ar)])) _
    refine XS.iload X14.here hx rfl (hb hby d1_36) rfl ?_
    show Steps p.tables e below (T14.setTop (mkF m 38 #[.val (.ref a1), .val (.ref ar), .val .null, .val (.long ((0 : Int64) + ((ls 0).toInt64))), .second, .val (.ref ar), .val (.int (4 : Int32)), .val (.int (1 : Int32)), .val (.int (ls 0))] [(.int (1 : Int32)), (.ref ar)])) _
    refine OwnArr.ldI X14 hx hZ e14 F19 (j := (1 : Int32)) (J := 1) (by decide) (by decide) (x := (ls 1)) rfl (g := (mkF m 38 #[.val (.ref a1), .val (.ref ar), .val .null, .val (.long ((0 : Int64) + ((ls 0).toInt64))), .second, .val (.ref ar), .val (.int (4 : Int32)), .val (.int (1 : Int32)), .val (.int (ls 0))] [(.int (1 : Int32)), (.ref ar)])) rfl rfl (hb hby d1_38) ?_
    show Steps p.tables e below (T14.setTop (mkF m 39 #[.val (.ref a1), .val (.ref ar), .val .null, .val (.long ((0 : Int64) + ((ls 0).toInt64))), .second, .val (.ref ar), .val (.int (4 : Int32)), .val (.int (1 : Int32)), .val (.int (ls 0))] [(.int (ls 1))])) _
    refine XS.istore X14.here hx rfl (hb hby d1_39) rfl (l' := #[.val (.ref a1), .val (.ref ar), .val .null, .val (.long ((0 : Int64) + ((ls 0).toInt64))), .second, .val (.ref ar), .val (.int (4 : Int32)), .val (.int (1 : Int32)), .val (.int (ls 1))]) rfl ?_
    show Steps p.tables e below (T14.setTop (mkF m 41 #[.val (.ref a1), .val (.ref ar), .val .null, .val (.long ((0 : Int64) + ((ls 0).toInt64))), .second, .val (.ref ar), .val (.int (4 : Int32)), .val (.int (1 : Int32)), .val (.int (ls 1))] [])) _
    refine XT.lloadN X14.here hx rfl (hb hby d1_41) rfl ?_
    show Steps p.tables e below (T14.setTop (mkF m 42 #[.val (.ref a1), .val (.ref ar), .val .null, .val (.long ((0 : Int64) + ((ls 0).toInt64))), .second, .val (.ref ar), .val (.int (4 : Int32)), .val (.int (1 : Int32)), .val (.int (ls 1))] [(.long ((0 : Int64) + ((ls 0).toInt64)))])) _
    refine XS.iload X14.here hx rfl (hb hby d1_42) rfl ?_
    show Steps p.tables e below (T14.setTop (mkF m 44 #[.val (.ref a1), .val (.ref ar), .val .null, .val (.long ((0 : Int64) + ((ls 0).toInt64))), .second, .val (.ref ar), .val (.int (4 : Int32)), .val (.int (1 : Int32)), .val (.int (ls 1))] [(.int (ls 1)), (.long ((0 : Int64) + ((ls 0).toInt64)))])) _
    refine XT.i2l X14.here hx rfl (hb hby d1_44) rfl ?_
    show Steps p.tables e below (T14.setTop (mkF m 45 #[.val (.ref a1), .val (.ref ar), .val .null, .val (.long ((0 : Int64) + ((ls 0).toInt64))), .second, .val (.ref ar), .val (.int (4 : Int32)), .val (.int (1 : Int32)), .val (.int (ls 1))] [(.long ((ls 1).toInt64)), (.long ((0 : Int64) + ((ls 0).toInt64)))])) _
    refine XT.ladd X14.here hx rfl (hb hby d1_45) rfl ?_
    show Steps p.tables e below (T14.setTop (mkF m 46 #[.val (.ref a1), .val (.ref ar), .val .null, .val (.long ((0 : Int64) + ((ls 0).toInt64))), .second, .val (.ref ar), .val (.int (4 : Int32)), .val (.int (1 : Int32)), .val (.int (ls 1))] [(.long (((0 : Int64) + ((ls 0).toInt64)) + ((ls 1).toInt64)))])) _
    refine XT.lstoreN X14.here hx rfl (hb hby d1_46) rfl (l' := #[.val (.ref a1), .val (.ref ar), .val .null, .val (.long (((0 : Int64) + ((ls 0).toInt64)) + ((ls 1).toInt64))), .second, .val (.ref ar), .val (.int (4 : Int32)), .val (.int (1 : Int32)), .val (.int (ls 1))]) rfl ?_
    show Steps p.tables e below (T14.setTop (mkF m 47 #[.val (.ref a1), .val (.ref ar), .val .null, .val (.long (((0 : Int64) + ((ls 0).toInt64)) + ((ls 1).toInt64))), .second, .val (.ref ar), .val (.int (4 : Int32)), .val (.int (1 : Int32)), .val (.int (ls 1))] [])) _
    refine XS.iinc X14.here hx rfl (hb hby d1_47) rfl (l' := #[.val (.ref a1), .val (.ref ar), .val .null, .val (.long (((0 : Int64) + ((ls 0).toInt64)) + ((ls 1).toInt64))), .second, .val (.ref ar), .val (.int (4 : Int32)), .val (.int (2 : Int32)), .val (.int (ls 1))]) rfl ?_
    show Steps p.tables e below (T14.setTop (mkF m 50 #[.val (.ref a1), .val (.ref ar), .val .null, .val (.long (((0 : Int64) + ((ls 0).toInt64)) + ((ls 1).toInt64))), .second, .val (.ref ar), .val (.int (4 : Int32)), .val (.int (2 : Int32)), .val (.int (ls 1))] [])) _
    refine XS.goto X14.here hx rfl (pc0 := 50) (pc' := 27) rfl (hb hby d1_50) (by decide) (by decide) ?_
    show Steps p.tables e below (T14.setTop (mkF m 27 #[.val (.ref a1), .val (.ref ar), .val .null, .val (.long (((0 : Int64) + ((ls 0).toInt64)) + ((ls 1).toInt64))), .second, .val (.ref ar), .val (.int (4 : Int32)), .val (.int (2 : Int32)), .val (.int (ls 1))] [])) _
    refine XS.iload X14.here hx rfl (hb hby d1_27) rfl ?_
    show Steps p.tables e below (T14.setTop (mkF m 29 #[.val (.ref a1), .val (.ref ar), .val .null, .val (.long (((0 : Int64) + ((ls 0).toInt64)) + ((ls 1).toInt64))), .second, .val (.ref ar), .val (.int (4 : Int32)), .val (.int (2 : Int32)), .val (.int (ls 1))] [(.int (2 : Int32))])) _
    refine XS.iload X14.here hx rfl (hb hby d1_29) rfl ?_
    show Steps p.tables e below (T14.setTop (mkF m 31 #[.val (.ref a1), .val (.ref ar), .val .null, .val (.long (((0 : Int64) + ((ls 0).toInt64)) + ((ls 1).toInt64))), .second, .val (.ref ar), .val (.int (4 : Int32)), .val (.int (2 : Int32)), .val (.int (ls 1))] [(.int (4 : Int32)), (.int (2 : Int32))])) _
    refine XS.icmpNo X14.here hx rfl (hb hby d1_31) rfl (XT.ii_ge_f (by decide)) ?_
    show Steps p.tables e below (T14.setTop (mkF m 34 #[.val (.ref a1), .val (.ref ar), .val .null, .val (.long (((0 : Int64) + ((ls 0).toInt64)) + ((ls 1).toInt64))), .second, .val (.ref ar), .val (.int (4 : Int32)), .val (.int (2 : Int32)), .val (.int (ls 1))] [])) _
    refine XS.aload X14.here hx rfl (hb hby d1_34) rfl rfl ?_
    show Steps p.tables e below (T14.setTop (mkF m 36 #[.val (.ref a1), .val (.ref ar), .val .null, .val (.long (((0 : Int64) + ((ls 0).toInt64)) + ((ls 1).toInt64))), .second, .val (.ref ar), .val (.int (4 : Int32)), .val (.int (2 : Int32)), .val (.int (ls 1))] [(.ref ar)])) _
    refine XS.iload X14.here hx rfl (hb hby d1_36) rfl ?_
    show Steps p.tables e below (T14.setTop (mkF m 38 #[.val (.ref a1), .val (.ref ar), .val .null, .val (.long (((0 : Int64) + ((ls 0).toInt64)) + ((ls 1).toInt64))), .second, .val (.ref ar), .val (.int (4 : Int32)), .val (.int (2 : Int32)), .val (.int (ls 1))] [(.int (2 : Int32)), (.ref ar)])) _
    refine OwnArr.ldI X14 hx hZ e14 F19 (j := (2 : Int32)) (J := 2) (by decide) (by decide) (x := (ls 2)) rfl (g := (mkF m 38 #[.val (.ref a1), .val (.ref ar), .val .null, .val (.long (((0 : Int64) + ((ls 0).toInt64)) + ((ls 1).toInt64))), .second, .val (.ref ar), .val (.int (4 : Int32)), .val (.int (2 : Int32)), .val (.int (ls 1))] [(.int (2 : Int32)), (.ref ar)])) rfl rfl (hb hby d1_38) ?_
    show Steps p.tables e below (T14.setTop (mkF m 39 #[.val (.ref a1), .val (.ref ar), .val .null, .val (.long (((0 : Int64) + ((ls 0).toInt64)) + ((ls 1).toInt64))), .second, .val (.ref ar), .val (.int (4 : Int32)), .val (.int (2 : Int32)), .val (.int (ls 1))] [(.int (ls 2))])) _
    refine XS.istore X14.here hx rfl (hb hby d1_39) rfl (l' := #[.val (.ref a1), .val (.ref ar), .val .null, .val (.long (((0 : Int64) + ((ls 0).toInt64)) + ((ls 1).toInt64))), .second, .val (.ref ar), .val (.int (4 : Int32)), .val (.int (2 : Int32)), .val (.int (ls 2))]) rfl ?_
    show Steps p.tables e below (T14.setTop (mkF m 41 #[.val (.ref a1), .val (.ref ar), .val .null, .val (.long (((0 : Int64) + ((ls 0).toInt64)) + ((ls 1).toInt64))), .second, .val (.ref ar), .val (.int (4 : Int32)), .val (.int (2 : Int32)), .val (.int (ls 2))] [])) _
    refine XT.lloadN X14.here hx rfl (hb hby d1_41) rfl ?_
    show Steps p.tables e below (T14.setTop (mkF m 42 #[.val (.ref a1), .val (.ref ar), .val .null, .val (.long (((0 : Int64) + ((ls 0).toInt64)) + ((ls 1).toInt64))), .second, .val (.ref ar), .val (.int (4 : Int32)), .val (.int (2 : Int32)), .val (.int (ls 2))] [(.long (((0 : Int64) + ((ls 0).toInt64)) + ((ls 1).toInt64)))])) _
    refine XS.iload X14.here hx rfl (hb hby d1_42) rfl ?_
    show Steps p.tables e below (T14.setTop (mkF m 44 #[.val (.ref a1), .val (.ref ar), .val .null, .val (.long (((0 : Int64) + ((ls 0).toInt64)) + ((ls 1).toInt64))), .second, .val (.ref ar), .val (.int (4 : Int32)), .val (.int (2 : Int32)), .val (.int (ls 2))] [(.int (ls 2)), (.long (((0 : Int64) + ((ls 0).toInt64)) + ((ls 1).toInt64)))])) _
    refine XT.i2l X14.here hx rfl (hb hby d1_44) rfl ?_
    show Steps p.tables e below (T14.setTop (mkF m 45 #[.val (.ref a1), .val (.ref ar), .val .null, .val (.long (((0 : Int64) + ((ls 0).toInt64)) + ((ls 1).toInt64))), .second, .val (.ref ar), .val (.int (4 : Int32)), .val (.int (2 : Int32)), .val (.int (ls 2))] [(.long ((ls 2).toInt64)), (.long (((0 : Int64) + ((ls 0).toInt64)) + ((ls 1).toInt64)))])) _
    refine XT.ladd X14.here hx rfl (hb hby d1_45) rfl ?_
    show Steps p.tables e below (T14.setTop (mkF m 46 #[.val (.ref a1), .val (.ref ar), .val .null, .val (.long (((0 : Int64) + ((ls 0).toInt64)) + ((ls 1).toInt64))), .second, .val (.ref ar), .val (.int (4 : Int32)), .val (.int (2 : Int32)), .val (.int (ls 2))] [(.long ((((0 : Int64) + ((ls 0).toInt64)) + ((ls 1).toInt64)) + ((ls 2).toInt64)))])) _
    refine XT.lstoreN X14.here hx rfl (hb hby d1_46) rfl (l' := #[.val (.ref a1), .val (.ref ar), .val .null, .val (.long ((((0 : Int64) + ((ls 0).toInt64)) + ((ls 1).toInt64)) + ((ls 2).toInt64))), .second, .val (.ref ar), .val (.int (4 : Int32)), .val (.int (2 : Int32)), .val (.int (ls 2))]) rfl ?_
    show Steps p.tables e below (T14.setTop (mkF m 47 #[.val (.ref a1), .val (.ref ar), .val .null, .val (.long ((((0 : Int64) + ((ls 0).toInt64)) + ((ls 1).toInt64)) + ((ls 2).toInt64))), .second, .val (.ref ar), .val (.int (4 : Int32)), .val (.int (2 : Int32)), .val (.int (ls 2))] [])) _
    refine XS.iinc X14.here hx rfl (hb hby d1_47) rfl (l' := #[.val (.ref a1), .val (.ref ar), .val .null, .val (.long ((((0 : Int64) + ((ls 0).toInt64)) + ((ls 1).toInt64)) + ((ls 2).toInt64))), .second, .val (.ref ar), .val (.int (4 : Int32)), .val (.int (3 : Int32)), .val (.int (ls 2))]) rfl ?_
    show Steps p.tables e below (T14.setTop (mkF m 50 #[.val (.ref a1), .val (.ref ar), .val .null, .val (.long ((((0 : Int64) + ((ls 0).toInt64)) + ((ls 1).toInt64)) + ((ls 2).toInt64))), .second, .val (.ref ar), .val (.int (4 : Int32)), .val (.int (3 : Int32)), .val (.int (ls 2))] [])) _
    refine XS.goto X14.here hx rfl (pc0 := 50) (pc' := 27) rfl (hb hby d1_50) (by decide) (by decide) ?_
    show Steps p.tables e below (T14.setTop (mkF m 27 #[.val (.ref a1), .val (.ref ar), .val .null, .val (.long ((((0 : Int64) + ((ls 0).toInt64)) + ((ls 1).toInt64)) + ((ls 2).toInt64))), .second, .val (.ref ar), .val (.int (4 : Int32)), .val (.int (3 : Int32)), .val (.int (ls 2))] [])) _
    refine XS.iload X14.here hx rfl (hb hby d1_27) rfl ?_
    show Steps p.tables e below (T14.setTop (mkF m 29 #[.val (.ref a1), .val (.ref ar), .val .null, .val (.long ((((0 : Int64) + ((ls 0).toInt64)) + ((ls 1).toInt64)) + ((ls 2).toInt64))), .second, .val (.ref ar), .val (.int (4 : Int32)), .val (.int (3 : Int32)), .val (.int (ls 2))] [(.int (3 : Int32))])) _
    refine XS.iload X14.here hx rfl (hb hby d1_29) rfl ?_
    show Steps p.tables e below (T14.setTop (mkF m 31 #[.val (.ref a1), .val (.ref ar), .val .null, .val (.long ((((0 : Int64) + ((ls 0).toInt64)) + ((ls 1).toInt64)) + ((ls 2).toInt64))), .second, .val (.ref ar), .val (.int (4 : Int32)), .val (.int (3 : Int32)), .val (.int (ls 2))] [(.int (4 : Int32)), (.int (3 : Int32))])) _
    refine XS.icmpNo X14.here hx rfl (hb hby d1_31) rfl (XT.ii_ge_f (by decide)) ?_
    show Steps p.tables e below (T14.setTop (mkF m 34 #[.val (.ref a1), .val (.ref ar), .val .null, .val (.long ((((0 : Int64) + ((ls 0).toInt64)) + ((ls 1).toInt64)) + ((ls 2).toInt64))), .second, .val (.ref ar), .val (.int (4 : Int32)), .val (.int (3 : Int32)), .val (.int (ls 2))] [])) _
    refine XS.aload X14.here hx rfl (hb hby d1_34) rfl rfl ?_
    show Steps p.tables e below (T14.setTop (mkF m 36 #[.val (.ref a1), .val (.ref ar), .val .null, .val (.long ((((0 : Int64) + ((ls 0).toInt64)) + ((ls 1).toInt64)) + ((ls 2).toInt64))), .second, .val (.ref ar), .val (.int (4 : Int32)), .val (.int (3 : Int32)), .val (.int (ls 2))] [(.ref ar)])) _
    refine XS.iload X14.here hx rfl (hb hby d1_36) rfl ?_
    show Steps p.tables e below (T14.setTop (mkF m 38 #[.val (.ref a1), .val (.ref ar), .val .null, .val (.long ((((0 : Int64) + ((ls 0).toInt64)) + ((ls 1).toInt64)) + ((ls 2).toInt64))), .second, .val (.ref ar), .val (.int (4 : Int32)), .val (.int (3 : Int32)), .val (.int (ls 2))] [(.int (3 : Int32)), (.ref ar)])) _
    refine OwnArr.ldI X14 hx hZ e14 F19 (j := (3 : Int32)) (J := 3) (by decide) (by decide) (x := (ls 3)) rfl (g := (mkF m 38 #[.val (.ref a1), .val (.ref ar), .val .null, .val (.long ((((0 : Int64) + ((ls 0).toInt64)) + ((ls 1).toInt64)) + ((ls 2).toInt64))), .second, .val (.ref ar), .val (.int (4 : Int32)), .val (.int (3 : Int32)), .val (.int (ls 2))] [(.int (3 : Int32)), (.ref ar)])) rfl rfl (hb hby d1_38) ?_
    show Steps p.tables e below (T14.setTop (mkF m 39 #[.val (.ref a1), .val (.ref ar), .val .null, .val (.long ((((0 : Int64) + ((ls 0).toInt64)) + ((ls 1).toInt64)) + ((ls 2).toInt64))), .second, .val (.ref ar), .val (.int (4 : Int32)), .val (.int (3 : Int32)), .val (.int (ls 2))] [(.int (ls 3))])) _
    refine XS.istore X14.here hx rfl (hb hby d1_39) rfl (l' := #[.val (.ref a1), .val (.ref ar), .val .null, .val (.long ((((0 : Int64) + ((ls 0).toInt64)) + ((ls 1).toInt64)) + ((ls 2).toInt64))), .second, .val (.ref ar), .val (.int (4 : Int32)), .val (.int (3 : Int32)), .val (.int (ls 3))]) rfl ?_
    show Steps p.tables e below (T14.setTop (mkF m 41 #[.val (.ref a1), .val (.ref ar), .val .null, .val (.long ((((0 : Int64) + ((ls 0).toInt64)) + ((ls 1).toInt64)) + ((ls 2).toInt64))), .second, .val (.ref ar), .val (.int (4 : Int32)), .val (.int (3 : Int32)), .val (.int (ls 3))] [])) _
    refine XT.lloadN X14.here hx rfl (hb hby d1_41) rfl ?_
    show Steps p.tables e below (T14.setTop (mkF m 42 #[.val (.ref a1), .val (.ref ar), .val .null, .val (.long ((((0 : Int64) + ((ls 0).toInt64)) + ((ls 1).toInt64)) + ((ls 2).toInt64))), .second, .val (.ref ar), .val (.int (4 : Int32)), .val (.int (3 : Int32)), .val (.int (ls 3))] [(.long ((((0 : Int64) + ((ls 0).toInt64)) + ((ls 1).toInt64)) + ((ls 2).toInt64)))])) _
    refine XS.iload X14.here hx rfl (hb hby d1_42) rfl ?_
    show Steps p.tables e below (T14.setTop (mkF m 44 #[.val (.ref a1), .val (.ref ar), .val .null, .val (.long ((((0 : Int64) + ((ls 0).toInt64)) + ((ls 1).toInt64)) + ((ls 2).toInt64))), .second, .val (.ref ar), .val (.int (4 : Int32)), .val (.int (3 : Int32)), .val (.int (ls 3))] [(.int (ls 3)), (.long ((((0 : Int64) + ((ls 0).toInt64)) + ((ls 1).toInt64)) + ((ls 2).toInt64)))])) _
    refine XT.i2l X14.here hx rfl (hb hby d1_44) rfl ?_
    show Steps p.tables e below (T14.setTop (mkF m 45 #[.val (.ref a1), .val (.ref ar), .val .null, .val (.long ((((0 : Int64) + ((ls 0).toInt64)) + ((ls 1).toInt64)) + ((ls 2).toInt64))), .second, .val (.ref ar), .val (.int (4 : Int32)), .val (.int (3 : Int32)), .val (.int (ls 3))] [(.long ((ls 3).toInt64)), (.long ((((0 : Int64) + ((ls 0).toInt64)) + ((ls 1).toInt64)) + ((ls 2).toInt64)))])) _
    refine XT.ladd X14.here hx rfl (hb hby d1_45) rfl ?_
    show Steps p.tables e below (T14.setTop (mkF m 46 #[.val (.ref a1), .val (.ref ar), .val .null, .val (.long ((((0 : Int64) + ((ls 0).toInt64)) + ((ls 1).toInt64)) + ((ls 2).toInt64))), .second, .val (.ref ar), .val (.int (4 : Int32)), .val (.int (3 : Int32)), .val (.int (ls 3))] [(.long (((((0 : Int64) + ((ls 0).toInt64)) + ((ls 1).toInt64)) + ((ls 2).toInt64)) + ((ls 3).toInt64)))])) _
    refine XT.lstoreN X14.here hx rfl (hb hby d1_46) rfl (l' := #[.val (.ref a1), .val (.ref ar), .val .null, .val (.long (((((0 : Int64) + ((ls 0).toInt64)) + ((ls 1).toInt64)) + ((ls 2).toInt64)) + ((ls 3).toInt64))), .second, .val (.ref ar), .val (.int (4 : Int32)), .val (.int (3 : Int32)), .val (.int (ls 3))]) rfl ?_
    show Steps p.tables e below (T14.setTop (mkF m 47 #[.val (.ref a1), .val (.ref ar), .val .null, .val (.long (((((0 : Int64) + ((ls 0).toInt64)) + ((ls 1).toInt64)) + ((ls 2).toInt64)) + ((ls 3).toInt64))), .second, .val (.ref ar), .val (.int (4 : Int32)), .val (.int (3 : Int32)), .val (.int (ls 3))] [])) _
    refine XS.iinc X14.here hx rfl (hb hby d1_47) rfl (l' := #[.val (.ref a1), .val (.ref ar), .val .null, .val (.long (((((0 : Int64) + ((ls 0).toInt64)) + ((ls 1).toInt64)) + ((ls 2).toInt64)) + ((ls 3).toInt64))), .second, .val (.ref ar), .val (.int (4 : Int32)), .val (.int (4 : Int32)), .val (.int (ls 3))]) rfl ?_
    show Steps p.tables e below (T14.setTop (mkF m 50 #[.val (.ref a1), .val (.ref ar), .val .null, .val (.long (((((0 : Int64) + ((ls 0).toInt64)) + ((ls 1).toInt64)) + ((ls 2).toInt64)) + ((ls 3).toInt64))), .second, .val (.ref ar), .val (.int (4 : Int32)), .val (.int (4 : Int32)), .val (.int (ls 3))] [])) _
    refine XS.goto X14.here hx rfl (pc0 := 50) (pc' := 27) rfl (hb hby d1_50) (by decide) (by decide) ?_
    show Steps p.tables e below (T14.setTop (mkF m 27 #[.val (.ref a1), .val (.ref ar), .val .null, .val (.long (((((0 : Int64) + ((ls 0).toInt64)) + ((ls 1).toInt64)) + ((ls 2).toInt64)) + ((ls 3).toInt64))), .second, .val (.ref ar), .val (.int (4 : Int32)), .val (.int (4 : Int32)), .val (.int (ls 3))] [])) _
    refine XS.iload X14.here hx rfl (hb hby d1_27) rfl ?_
    show Steps p.tables e below (T14.setTop (mkF m 29 #[.val (.ref a1), .val (.ref ar), .val .null, .val (.long (((((0 : Int64) + ((ls 0).toInt64)) + ((ls 1).toInt64)) + ((ls 2).toInt64)) + ((ls 3).toInt64))), .second, .val (.ref ar), .val (.int (4 : Int32)), .val (.int (4 : Int32)), .val (.int (ls 3))] [(.int (4 : Int32))])) _
    refine XS.iload X14.here hx rfl (hb hby d1_29) rfl ?_
    show Steps p.tables e below (T14.setTop (mkF m 31 #[.val (.ref a1), .val (.ref ar), .val .null, .val (.long (((((0 : Int64) + ((ls 0).toInt64)) + ((ls 1).toInt64)) + ((ls 2).toInt64)) + ((ls 3).toInt64))), .second, .val (.ref ar), .val (.int (4 : Int32)), .val (.int (4 : Int32)), .val (.int (ls 3))] [(.int (4 : Int32)), (.int (4 : Int32))])) _
    refine XS.icmpYes X14.here hx rfl (pc0 := 31) (pc' := 53) rfl (hb hby d1_31) rfl (XT.ii_ge_t (by decide)) (by decide) (by decide) ?_
    show Steps p.tables e below (T14.setTop (mkF m 53 #[.val (.ref a1), .val (.ref ar), .val .null, .val (.long (((((0 : Int64) + ((ls 0).toInt64)) + ((ls 1).toInt64)) + ((ls 2).toInt64)) + ((ls 3).toInt64))), .second, .val (.ref ar), .val (.int (4 : Int32)), .val (.int (4 : Int32)), .val (.int (ls 3))] [])) _
    refine XS.aloadN X14.here hx rfl (hb hby d1_53) rfl rfl ?_
    show Steps p.tables e below (T14.setTop (mkF m 54 #[.val (.ref a1), .val (.ref ar), .val .null, .val (.long (((((0 : Int64) + ((ls 0).toInt64)) + ((ls 1).toInt64)) + ((ls 2).toInt64)) + ((ls 3).toInt64))), .second, .val (.ref ar), .val (.int (4 : Int32)), .val (.int (4 : Int32)), .val (.int (ls 3))] [(.ref a1)])) _
    refine XT.lloadN X14.here hx rfl (hb hby d1_54) rfl ?_
    show Steps p.tables e below (T14.setTop (mkF m 55 #[.val (.ref a1), .val (.ref ar), .val .null, .val (.long (((((0 : Int64) + ((ls 0).toInt64)) + ((ls 1).toInt64)) + ((ls 2).toInt64)) + ((ls 3).toInt64))), .second, .val (.ref ar), .val (.int (4 : Int32)), .val (.int (4 : Int32)), .val (.int (ls 3))] [(.long (((((0 : Int64) + ((ls 0).toInt64)) + ((ls 1).toInt64)) + ((ls 2).toInt64)) + ((ls 3).toInt64))), (.ref a1)])) _
    refine XS.l2dS X14.here hx rfl (hb hby d1_55) rfl rfl ?_
    show Steps p.tables e below (T14.setTop (mkF m 56 #[.val (.ref a1), .val (.ref ar), .val .null, .val (.long (((((0 : Int64) + ((ls 0).toInt64)) + ((ls 1).toInt64)) + ((ls 2).toInt64)) + ((ls 3).toInt64))), .second, .val (.ref ar), .val (.int (4 : Int32)), .val (.int (4 : Int32)), .val (.int (ls 3))] [(.double (FP.l2d (((((0 : Int64) + (ls 0).toInt64) + (ls 1).toInt64) + (ls 2).toInt64) + (ls 3).toInt64))), (.ref a1)])) _
    refine XS.aloadN X14.here hx rfl (hb hby d1_56) rfl rfl ?_
    show Steps p.tables e below (T14.setTop (mkF m 57 #[.val (.ref a1), .val (.ref ar), .val .null, .val (.long (((((0 : Int64) + ((ls 0).toInt64)) + ((ls 1).toInt64)) + ((ls 2).toInt64)) + ((ls 3).toInt64))), .second, .val (.ref ar), .val (.int (4 : Int32)), .val (.int (4 : Int32)), .val (.int (ls 3))] [(.ref ar), (.double (FP.l2d (((((0 : Int64) + (ls 0).toInt64) + (ls 1).toInt64) + (ls 2).toInt64) + (ls 3).toInt64))), (.ref a1)])) _
    refine OwnArr.lenA X14 hx hZ e14 F19 (z := (4 : Int32)) (by decide) (g := (mkF m 57 #[.val (.ref a1), .val (.ref ar), .val .null, .val (.long (((((0 : Int64) + ((ls 0).toInt64)) + ((ls 1).toInt64)) + ((ls 2).toInt64)) + ((ls 3).toInt64))), .second, .val (.ref ar), .val (.int (4 : Int32)), .val (.int (4 : Int32)), .val (.int (ls 3))] [(.ref ar), (.double (FP.l2d (((((0 : Int64) + (ls 0).toInt64) + (ls 1).toInt64) + (ls 2).toInt64) + (ls 3).toInt64))), (.ref a1)])) rfl rfl (hb hby d1_57) ?_
    show Steps p.tables e below (T14.setTop (mkF m 58 #[.val (.ref a1), .val (.ref ar), .val .null, .val (.long (((((0 : Int64) + ((ls 0).toInt64)) + ((ls 1).toInt64)) + ((ls 2).toInt64)) + ((ls 3).toInt64))), .second, .val (.ref ar), .val (.int (4 : Int32)), .val (.int (4 : Int32)), .val (.int (ls 3))] [(.int (4 : Int32)), (.double (FP.l2d (((((0 : Int64) + (ls 0).toInt64) + (ls 1).toInt64) + (ls 2).toInt64) + (ls 3).toInt64))), (.ref a1)])) _
    refine XS.i2dS X14.here hx rfl (hb hby d1_58) rfl rfl ?_
    show Steps p.tables e below (T14.setTop (mkF m 59 #[.val (.ref a1), .val (.ref ar), .val .null, .val (.long (((((0 : Int64) + ((ls 0).toInt64)) + ((ls 1).toInt64)) + ((ls 2).toInt64)) + ((ls 3).toInt64))), .second, .val (.ref ar), .val (.int (4 : Int32)), .val (.int (4 : Int32)), .val (.int (ls 3))] [(.double (FP.i2d (4 : Int32))), (.double (FP.l2d (((((0 : Int64) + (ls 0).toInt64) + (ls 1).toInt64) + (ls 2).toInt64) + (ls 3).toInt64))), (.ref a1)])) _
    refine XS.ddivS X14.here hx rfl (hb hby d1_59) rfl (hav ▸ nav) hav ?_
    show Steps p.tables e below (T14.setTop (mkF m 60 #[.val (.ref a1), .val (.ref ar), .val .null, .val (.long (((((0 : Int64) + ((ls 0).toInt64)) + ((ls 1).toInt64)) + ((ls 2).toInt64)) + ((ls 3).toInt64))), .second, .val (.ref ar), .val (.int (4 : Int32)), .val (.int (4 : Int32)), .val (.int (ls 3))] [(.double pav), (.ref a1)])) _
    exact k)
  obtain ⟨T23, h23, X23, e23, W23, st23⟩ := putF X14 hx hZ hown (host := "") (Or.inl (hw _ (List.mem_of_getElem? (i := 15) rfl))) Via.refl e14 F18 F16 (Or.inr ⟨(hw _ (List.mem_of_getElem? (i := 16) rfl)), rfl, hnaM⟩) (hw _ (List.mem_of_getElem? (i := 3) rfl)) (ty := .double) (by decide) rfl rfl (g := (mkF m 60 #[.val (.ref a1), .val (.ref ar), .val .null, .val (.long (((((0 : Int64) + ((ls 0).toInt64)) + ((ls 1).toInt64)) + ((ls 2).toInt64)) + ((ls 3).toInt64))), .second, .val (.ref ar), .val (.int (4 : Int32)), .val (.int (4 : Int32)), .val (.int (ls 3))] [(.double pav), (.ref a1)])) rfl rfl (hb hby d1_60)
  have F24 : Fld Z h23 a1 "com/example/rival_tongues/rivaltongues/engine/Field" "averageLength" "D" (.double pav) := F18.same W23
  have F25 : Exa Z h23 a1 "com/example/rival_tongues/rivaltongues/engine/Field" := (F16.wr W23)
  have F26 : Fld Z h23 a1 "com/example/rival_tongues/rivaltongues/engine/Field" "lengths" "[I" (.ref ar) := (F17.other W23 (Or.inr (slot_ne (Or.inr (hw _ (List.mem_of_getElem? (i := 12) rfl))) (Or.inr (hw _ (List.mem_of_getElem? (i := 16) rfl))) (by decide) (t := (.array .int)) (t' := .double) (by decide) (by decide))))
  have F27 : Fld Z h23 a1 "com/example/rival_tongues/rivaltongues/engine/Field" "postings" "Ljava/util/Map;" .null := (F15.other W23 (Or.inr (slot_ne (Or.inr (hw _ (List.mem_of_getElem? (i := 14) rfl))) (Or.inr (hw _ (List.mem_of_getElem? (i := 16) rfl))) (by decide) (t := (.object "java/util/Map")) (t' := .double) (by decide) (by decide))))
  have F28 : OwnArr.Ag Z h23 ar .int 4 (fun i => .int (ls i)) := (F19.other W23 ne_)
  have N23 := Fr.snoc X23 N14 g_a1
  have K29 : Keep h0 h23 [a1] := K20.wr W23 (Or.inl (List.mem_of_getElem? (i := 0) rfl))
  have c30 : ∀ t, Steps p.tables e below (T23.setTop (mkF m 63 #[.val (.ref a1), .val (.ref ar), .val .null, .val (.long (((((0 : Int64) + ((ls 0).toInt64)) + ((ls 1).toInt64)) + ((ls 2).toInt64)) + ((ls 3).toInt64))), .second, .val (.ref ar), .val (.int (4 : Int32)), .val (.int (4 : Int32)), .val (.int (ls 3))] [])) t → Steps p.tables e below (s₁.setTop (entryFrame m #[(.ref a1), (.ref ar), .null] 9)) t := fun t k => c22 t (st23 _ k)
  obtain ⟨fs, hr, hrun, hended, hW, hsame⟩ := X23.leave (v := none) (fun _ => rfl)
  refine ⟨_, _, pre0 _ (c30 _ (X23.returnOut hx Bd.returns (hb hby d1_63) hr)), hrun, hended, _, _, rfl, ?_, ⟨_, rfl⟩, hW, hsame.mono (by decide) (by decide)⟩
  show Q_1 Z a1 ar pav ls h0 n0 _ T23.heap _
  rw [e23]
  exact ⟨rfl, N23, K29, F25, F26, F27, F24⟩
theorem d4_0 : decode prog_17_method_2_code 0 = .ok (.aload_n 0, 1) := by decide +kernel
theorem d4_1 : decode prog_17_method_2_code 1 = .ok (.getfield 7, 3) := by decide +kernel
theorem d4_4 : decode prog_17_method_2_code 4 = .ok (.iload_n 1, 1) := by decide +kernel
theorem d4_5 : decode prog_17_method_2_code 5 = .ok (.iaload, 1) := by decide +kernel
theorem d4_6 : decode prog_17_method_2_code 6 = .ok (.ireturn, 1) := by decide +kernel
theorem ef_4 (m : MethodId) (a1 : Addr) (pg : Int32) (ar : Addr) (ls : Nat → Int32) (G : Nat) : entryFrame m #[(.ref a1), (.int pg)] 2 = (mkF m 0 #[.val (.ref a1), .val (.int pg)] []) := by first | (simp [entryFrame, mkF, argsToLocals, Value.category]; done) | rfl
def Q_4 (Z : State) (a1 : Addr) (pg : Int32) (ar : Addr) (ls : Nat → Int32) (G : Nat) (h0 : Heap) (n0 : Nat) (v : Option Value) (h : Heap) (L : List Loc) : Prop := v = some (.int (ls G)) ∧ Fr n0 L ∧ h = h0
set_option maxRecDepth 65536 in
set_option maxHeartbeats 2000000 in
theorem rm_4 (l : Launch) (Z : State) (a0 : Array Value) (hw : ∀ d ∈ tables_1, d.before a0 Z = true) (ws : List Jvm.Cond) (a1 : Addr) (pg : Int32) (ar : Addr) (ls : Nat → Int32) (G : Nat) (h0 : Heap) (n0 : Nat) (Z0 : n0 ≤ h0.size) (F_0 : Fld Z h0 a1 "com/example/rival_tongues/rivaltongues/engine/Field" "lengths" "[I" (.ref ar)) (A_0 : OwnArr.Ag Z h0 ar .int 4 (fun i => .int (ls i))) (hg_ : pg.toInt = (G : Int)) (hG : G < 4) :
    MetFree l (⟨"com/example/rival_tongues/rivaltongues/engine/Field", "length", "(I)I"⟩ : MethodName) (head1 (Jvm.Cond.code (⟨"com/example/rival_tongues/rivaltongues/engine/Field", "length", "(I)I"⟩ : MethodName) prog_17_method_2_code 2 (some .int) :: ws) ({ frames := 0, cells := 0, slots := 0, locals := 0 } : Room)) (fun aa UU => aa = #[(.ref a1), (.int pg)] ∧ Z.Warmed39 UU.vm ∧ UU.heap = h0) (fun _ _ _ _ _ => True) (fun _ UU oo UU' => ∃ v L, oo = .returned v ∧ Q_4 Z a1 pg ar ls G h0 n0 v UU'.heap L ∧ FrameEnd UU oo UU' L ({ frames := 0, cells := 0, slots := 0, locals := 0 } : Room).cells ({ frames := 0, cells := 0, slots := 0, locals := 0 } : Room).slots) := by
  refine MetFree.of_bodySF (plainFor_of_name pn_com_example_rival_tongues_rivaltongues_engine_Field) hisR ?_
  intro p e s m args below meth c s₁ Bd hml0 hP hK
  obtain ⟨rfl, hZ, hh⟩ := hP
  have hx := Bd.exec
  have hby := Bd.bytes
  have hml : c.maxLocals = 2 := hml0
  have hown : s.vm.findClass "com/example/rival_tongues/rivaltongues/engine/Field" = some m.cls := findClass_of_methodNamed Bd.named
  have hnaM := (name_of_methodNamed Bd.named Bd.method).1
  have X0 : Stand p l e ({ frames := 0, cells := 0, slots := 0, locals := 0 } : Room) s m #[(.ref a1), (.int pg)] below meth c s₁ [] 0 0 := Stand.of_body Bd
  have e0 : s₁.heap = h0 := by rw [← hh, Bd.state]; rfl
  have N0 := Fr.nil n0
  have pre0 : ∀ t, Steps p.tables e below (s₁.setTop (entryFrame m #[(.ref a1), (.int pg)] 2)) t → Steps p.tables e below (s₁.setTop (entryFrame m #[(.ref a1), (.int pg)] 2)) t := fun t k => k
  have c0 : ∀ t, Steps p.tables e below (s₁.setTop (mkF m 0 #[.val (.ref a1), .val (.int pg)] [])) t → Steps p.tables e below (s₁.setTop (entryFrame m #[(.ref a1), (.int pg)] 2)) t := fun t k => castTop (ef_4 m a1 pg ar ls G) k
  have c1 : ∀ t, Steps p.tables e below (s₁.setTop (mkF m 1 #[.val (.ref a1), .val (.int pg)] [(.ref a1)])) t → Steps p.tables e below (s₁.setTop (entryFrame m #[(.ref a1), (.int pg)] 2)) t := fun t k => c0 t (by
    show Steps p.tables e below (s₁.setTop (mkF m 0 #[.val (.ref a1), .val (.int pg)] [])) _
    refine XS.aloadN X0.here hx rfl (hb hby d4_0) rfl rfl ?_
    show Steps p.tables e below (s₁.setTop (mkF m 1 #[.val (.ref a1), .val (.int pg)] [(.ref a1)])) _
    exact k)
  obtain ⟨T2, X2, e2, st2⟩ := getF X0 hx hZ hown (host := "") (Or.inl (hw _ (List.mem_of_getElem? (i := 11) rfl))) Via.refl e0 F_0 (g := (mkF m 1 #[.val (.ref a1), .val (.int pg)] [(.ref a1)])) rfl rfl (hb hby d4_1)
  have c3 : ∀ t, Steps p.tables e below (T2.setTop (mkF m 4 #[.val (.ref a1), .val (.int pg)] [(.ref ar)])) t → Steps p.tables e below (s₁.setTop (entryFrame m #[(.ref a1), (.int pg)] 2)) t := fun t k => c1 t (st2 _ k)
  have c4 : ∀ t, Steps p.tables e below (T2.setTop (mkF m 6 #[.val (.ref a1), .val (.int pg)] [(.int (ls G))])) t → Steps p.tables e below (s₁.setTop (entryFrame m #[(.ref a1), (.int pg)] 2)) t := fun t k => c3 t (by
    show Steps p.tables e below (T2.setTop (mkF m 4 #[.val (.ref a1), .val (.int pg)] [(.ref ar)])) _
    refine XS.iloadN X2.here hx rfl (hb hby d4_4) rfl ?_
    show Steps p.tables e below (T2.setTop (mkF m 5 #[.val (.ref a1), .val (.int pg)] [(.int pg), (.ref ar)])) _
    refine OwnArr.ldI X2 hx hZ e2 A_0 (j := pg) (J := G) hg_ hG (x := (ls G)) rfl (g := (mkF m 5 #[.val (.ref a1), .val (.int pg)] [(.int pg), (.ref ar)])) rfl rfl (hb hby d4_5) ?_
    show Steps p.tables e below (T2.setTop (mkF m 6 #[.val (.ref a1), .val (.int pg)] [(.int (ls G))])) _
    exact k)
  obtain ⟨fs, hr, hrun, hended, hW, hsame⟩ := X2.leave (v := (some (.int (ls G)))) (fun h => by rw [Bd.returns] at h; cases h)
  refine ⟨_, _, pre0 _ (c4 _ (retI X2 hx Bd.returns (hb hby d4_6) hr)), hrun, hended, _, _, rfl, ?_, ⟨_, rfl⟩, hW, hsame.mono (by decide) (by decide)⟩
  show Q_4 Z a1 pg ar ls G h0 n0 _ T2.heap _
  rw [e2]
  exact ⟨rfl, N0, rfl⟩
theorem d5_0 : decode prog_17_method_3_code 0 = .ok (.aload_n 0, 1) := by decide +kernel
theorem d5_1 : decode prog_17_method_3_code 1 = .ok (.getfield 17, 3) := by decide +kernel
theorem d5_4 : decode prog_17_method_3_code 4 = .ok (.dreturn, 1) := by decide +kernel
theorem ef_5 (m : MethodId) (a1 : Addr) (pav : UInt64) : entryFrame m #[(.ref a1)] 1 = (mkF m 0 #[.val (.ref a1)] []) := by first | (simp [entryFrame, mkF, argsToLocals, Value.category]; done) | rfl
def Q_5 (Z : State) (a1 : Addr) (pav : UInt64) (h0 : Heap) (n0 : Nat) (v : Option Value) (h : Heap) (L : List Loc) : Prop := v = some (.double pav) ∧ Fr n0 L ∧ h = h0
set_option maxRecDepth 65536 in
set_option maxHeartbeats 2000000 in
theorem rm_5 (l : Launch) (Z : State) (a0 : Array Value) (hw : ∀ d ∈ tables_1, d.before a0 Z = true) (ws : List Jvm.Cond) (a1 : Addr) (pav : UInt64) (h0 : Heap) (n0 : Nat) (Z0 : n0 ≤ h0.size) (F_2 : Fld Z h0 a1 "com/example/rival_tongues/rivaltongues/engine/Field" "averageLength" "D" (.double pav)) :
    MetFree l (⟨"com/example/rival_tongues/rivaltongues/engine/Field", "averageLength", "()D"⟩ : MethodName) (head1 (Jvm.Cond.code (⟨"com/example/rival_tongues/rivaltongues/engine/Field", "averageLength", "()D"⟩ : MethodName) prog_17_method_3_code 1 (some .double) :: ws) ({ frames := 0, cells := 0, slots := 0, locals := 0 } : Room)) (fun aa UU => aa = #[(.ref a1)] ∧ Z.Warmed39 UU.vm ∧ UU.heap = h0) (fun _ _ _ _ _ => True) (fun _ UU oo UU' => ∃ v L, oo = .returned v ∧ Q_5 Z a1 pav h0 n0 v UU'.heap L ∧ FrameEnd UU oo UU' L ({ frames := 0, cells := 0, slots := 0, locals := 0 } : Room).cells ({ frames := 0, cells := 0, slots := 0, locals := 0 } : Room).slots) := by
  refine MetFree.of_bodySF (plainFor_of_name pn_com_example_rival_tongues_rivaltongues_engine_Field) hisR ?_
  intro p e s m args below meth c s₁ Bd hml0 hP hK
  obtain ⟨rfl, hZ, hh⟩ := hP
  have hx := Bd.exec
  have hby := Bd.bytes
  have hml : c.maxLocals = 1 := hml0
  have hown : s.vm.findClass "com/example/rival_tongues/rivaltongues/engine/Field" = some m.cls := findClass_of_methodNamed Bd.named
  have hnaM := (name_of_methodNamed Bd.named Bd.method).1
  have X0 : Stand p l e ({ frames := 0, cells := 0, slots := 0, locals := 0 } : Room) s m #[(.ref a1)] below meth c s₁ [] 0 0 := Stand.of_body Bd
  have e0 : s₁.heap = h0 := by rw [← hh, Bd.state]; rfl
  have N0 := Fr.nil n0
  have pre0 : ∀ t, Steps p.tables e below (s₁.setTop (entryFrame m #[(.ref a1)] 1)) t → Steps p.tables e below (s₁.setTop (entryFrame m #[(.ref a1)] 1)) t := fun t k => k
  have c0 : ∀ t, Steps p.tables e below (s₁.setTop (mkF m 0 #[.val (.ref a1)] [])) t → Steps p.tables e below (s₁.setTop (entryFrame m #[(.ref a1)] 1)) t := fun t k => castTop (ef_5 m a1 pav) k
  have c1 : ∀ t, Steps p.tables e below (s₁.setTop (mkF m 1 #[.val (.ref a1)] [(.ref a1)])) t → Steps p.tables e below (s₁.setTop (entryFrame m #[(.ref a1)] 1)) t := fun t k => c0 t (by
    show Steps p.tables e below (s₁.setTop (mkF m 0 #[.val (.ref a1)] [])) _
    refine XS.aloadN X0.here hx rfl (hb hby d5_0) rfl rfl ?_
    show Steps p.tables e below (s₁.setTop (mkF m 1 #[.val (.ref a1)] [(.ref a1)])) _
    exact k)
  obtain ⟨T2, X2, e2, st2⟩ := getF X0 hx hZ hown (host := "") (Or.inl (hw _ (List.mem_of_getElem? (i := 15) rfl))) Via.refl e0 F_2 (g := (mkF m 1 #[.val (.ref a1)] [(.ref a1)])) rfl rfl (hb hby d5_1)
  have c3 : ∀ t, Steps p.tables e below (T2.setTop (mkF m 4 #[.val (.ref a1)] [(.double pav)])) t → Steps p.tables e below (s₁.setTop (entryFrame m #[(.ref a1)] 1)) t := fun t k => c1 t (st2 _ k)
  obtain ⟨fs, hr, hrun, hended, hW, hsame⟩ := X2.leave (v := (some (.double pav))) (fun h => by rw [Bd.returns] at h; cases h)
  refine ⟨_, _, pre0 _ (c3 _ (retOut X2 hx (t := .double) (i := .dreturn) Bd.returns rfl (Or.inr (Or.inr (Or.inl ⟨rfl, rfl, _, rfl⟩))) (hb hby d5_4) hr)), hrun, hended, _, _, rfl, ?_, ⟨_, rfl⟩, hW, hsame.mono (by decide) (by decide)⟩
  show Q_5 Z a1 pav h0 n0 _ T2.heap _
  rw [e2]
  exact ⟨rfl, N0, rfl⟩
theorem d3_0 : decode prog_8_method_4_code 0 = .ok (.ldc2_w 32, 3) := by decide +kernel
theorem d3_3 : decode prog_8_method_4_code 3 = .ok (.ldc2_w 34, 3) := by decide +kernel
theorem d3_6 : decode prog_8_method_4_code 6 = .ok (.aload_n 0, 1) := by decide +kernel
theorem d3_7 : decode prog_8_method_4_code 7 = .ok (.iload_n 1, 1) := by decide +kernel
theorem d3_8 : decode prog_8_method_4_code 8 = .ok (.invokevirtual 36, 3) := by decide +kernel
theorem d3_11 : decode prog_8_method_4_code 11 = .ok (.i2d, 1) := by decide +kernel
theorem d3_12 : decode prog_8_method_4_code 12 = .ok (.dmul, 1) := by decide +kernel
theorem d3_13 : decode prog_8_method_4_code 13 = .ok (.aload_n 0, 1) := by decide +kernel
theorem d3_14 : decode prog_8_method_4_code 14 = .ok (.invokevirtual 42, 3) := by decide +kernel
theorem d3_17 : decode prog_8_method_4_code 17 = .ok (.ddiv, 1) := by decide +kernel
theorem d3_18 : decode prog_8_method_4_code 18 = .ok (.dadd, 1) := by decide +kernel
theorem d3_19 : decode prog_8_method_4_code 19 = .ok (.dreturn, 1) := by decide +kernel
theorem ef_3 (m : MethodId) (a1 : Addr) (pg : Int32) (ar : Addr) (pav : UInt64) (m1 : UInt64) (q1 : UInt64) (pr : UInt64) (ls : Nat → Int32) (G : Nat) : entryFrame m #[(.ref a1), (.int pg)] 2 = (mkF m 0 #[.val (.ref a1), .val (.int pg)] []) := by first | (simp [entryFrame, mkF, argsToLocals, Value.category]; done) | rfl
def Q_3 (Z : State) (a1 : Addr) (pg : Int32) (ar : Addr) (pav : UInt64) (m1 : UInt64) (q1 : UInt64) (pr : UInt64) (ls : Nat → Int32) (G : Nat) (h0 : Heap) (n0 : Nat) (v : Option Value) (h : Heap) (L : List Loc) : Prop := v = some (.double pr) ∧ Fr n0 L ∧ h = h0
set_option maxRecDepth 65536 in
set_option maxHeartbeats 2000000 in
theorem rm_3 (l : Launch) (Z : State) (a0 : Array Value) (hw : ∀ d ∈ tables_1, d.before a0 Z = true) (ws : List Jvm.Cond) (a1 : Addr) (pg : Int32) (ar : Addr) (pav : UInt64) (m1 : UInt64) (q1 : UInt64) (pr : UInt64) (ls : Nat → Int32) (G : Nat) (h0 : Heap) (n0 : Nat) (Z0 : n0 ≤ h0.size) (E_a1 : Exa Z h0 a1 "com/example/rival_tongues/rivaltongues/engine/Field") (F_0 : Fld Z h0 a1 "com/example/rival_tongues/rivaltongues/engine/Field" "lengths" "[I" (.ref ar)) (F_2 : Fld Z h0 a1 "com/example/rival_tongues/rivaltongues/engine/Field" "averageLength" "D" (.double pav)) (A_0 : OwnArr.Ag Z h0 ar .int 4 (fun i => .int (ls i))) (hg_ : pg.toInt = (G : Int)) (hG : G < 4) (hm1 : FP.dmul (4604930618986332160 : UInt64) (FP.i2d (ls G)) = m1) (hq1 : FP.ddiv m1 pav = q1) (hpr : FP.dadd (4598175219545276416 : UInt64) q1 = pr) (nm1 : Jvm.Free.Fl.NoNaN64 m1) (nq1 : Jvm.Free.Fl.NoNaN64 q1) (npr : Jvm.Free.Fl.NoNaN64 pr) :
    MetFree l (⟨"com/example/rival_tongues/rivaltongues/engine/Bm25", "lengthNorm", "(Lcom/example/rival_tongues/rivaltongues/engine/Field;I)D"⟩ : MethodName) (head1 (Jvm.Cond.code (⟨"com/example/rival_tongues/rivaltongues/engine/Bm25", "lengthNorm", "(Lcom/example/rival_tongues/rivaltongues/engine/Field;I)D"⟩ : MethodName) prog_8_method_4_code 2 (some .double) :: ws) ({ frames := 1, cells := 0, slots := 0, locals := 17 } : Room)) (fun aa UU => aa = #[(.ref a1), (.int pg)] ∧ Z.Warmed39 UU.vm ∧ UU.heap = h0) (fun _ _ _ _ _ => True) (fun _ UU oo UU' => ∃ v L, oo = .returned v ∧ Q_3 Z a1 pg ar pav m1 q1 pr ls G h0 n0 v UU'.heap L ∧ FrameEnd UU oo UU' L ({ frames := 1, cells := 0, slots := 0, locals := 17 } : Room).cells ({ frames := 1, cells := 0, slots := 0, locals := 17 } : Room).slots) := by
  refine MetFree.of_bodySF (plainFor_of_name pn_com_example_rival_tongues_rivaltongues_engine_Bm25) hisR ?_
  intro p e s m args below meth c s₁ Bd hml0 hP hK
  obtain ⟨rfl, hZ, hh⟩ := hP
  have hx := Bd.exec
  have hby := Bd.bytes
  have hml : c.maxLocals = 2 := hml0
  have hown : s.vm.findClass "com/example/rival_tongues/rivaltongues/engine/Bm25" = some m.cls := findClass_of_methodNamed Bd.named
  have hnaM := (name_of_methodNamed Bd.named Bd.method).1
  have X0 : Stand p l e ({ frames := 1, cells := 0, slots := 0, locals := 17 } : Room) s m #[(.ref a1), (.int pg)] below meth c s₁ [] 0 0 := Stand.of_body Bd
  have e0 : s₁.heap = h0 := by rw [← hh, Bd.state]; rfl
  have N0 := Fr.nil n0
  have pre0 : ∀ t, Steps p.tables e below (s₁.setTop (entryFrame m #[(.ref a1), (.int pg)] 2)) t → Steps p.tables e below (s₁.setTop (entryFrame m #[(.ref a1), (.int pg)] 2)) t := fun t k => k
  have c0 : ∀ t, Steps p.tables e below (s₁.setTop (mkF m 0 #[.val (.ref a1), .val (.int pg)] [])) t → Steps p.tables e below (s₁.setTop (entryFrame m #[(.ref a1), (.int pg)] 2)) t := fun t k => castTop (ef_3 m a1 pg ar pav m1 q1 pr ls G) k
  have c1 : ∀ t, Steps p.tables e below (s₁.setTop (mkF m 8 #[.val (.ref a1), .val (.int pg)] [(.int pg), (.ref a1), (.double (4604930618986332160 : UInt64)), (.double (4598175219545276416 : UInt64))])) t → Steps p.tables e below (s₁.setTop (entryFrame m #[(.ref a1), (.int pg)] 2)) t := fun t k => c0 t (by
    show Steps p.tables e below (s₁.setTop (mkF m 0 #[.val (.ref a1), .val (.int pg)] [])) _
    refine Jvm.Stand.ldc2DoubleC X0 hx hown (mvT hZ (hw _ (List.mem_of_getElem? (i := 21) rfl))) (g := (mkF m 0 #[.val (.ref a1), .val (.int pg)] [])) rfl (hb hby d3_0) _ ?_
    show Steps p.tables e below (s₁.setTop (mkF m 3 #[.val (.ref a1), .val (.int pg)] [(.double (4598175219545276416 : UInt64))])) _
    refine Jvm.Stand.ldc2DoubleC X0 hx hown (mvT hZ (hw _ (List.mem_of_getElem? (i := 22) rfl))) (g := (mkF m 3 #[.val (.ref a1), .val (.int pg)] [(.double (4598175219545276416 : UInt64))])) rfl (hb hby d3_3) _ ?_
    show Steps p.tables e below (s₁.setTop (mkF m 6 #[.val (.ref a1), .val (.int pg)] [(.double (4604930618986332160 : UInt64)), (.double (4598175219545276416 : UInt64))])) _
    refine XS.aloadN X0.here hx rfl (hb hby d3_6) rfl rfl ?_
    show Steps p.tables e below (s₁.setTop (mkF m 7 #[.val (.ref a1), .val (.int pg)] [(.ref a1), (.double (4604930618986332160 : UInt64)), (.double (4598175219545276416 : UInt64))])) _
    refine XS.iloadN X0.here hx rfl (hb hby d3_7) rfl ?_
    show Steps p.tables e below (s₁.setTop (mkF m 8 #[.val (.ref a1), .val (.int pg)] [(.int pg), (.ref a1), (.double (4604930618986332160 : UInt64)), (.double (4598175219545276416 : UInt64))])) _
    exact k)
  obtain ⟨cq2, kq2, q2a, q2b, q2c⟩ := isOf hZ e0 E_a1
  obtain ⟨_, _, ⟨T2, L2, k2', n2⟩, -, X2, ⟨Lc2, hQ2, l2, y2, z2⟩, st2⟩ := X0.virtualBack hx (y := (⟨"com/example/rival_tongues/rivaltongues/engine/Field", "length", "(I)I"⟩ : MethodName)) (z := (⟨"com/example/rival_tongues/rivaltongues/engine/Field", "length", "(I)I"⟩ : MethodName)) hown (mvT hZ (hw _ (List.mem_of_getElem? (i := 23) rfl))) (mvT hZ (hw _ (List.mem_of_getElem? (i := 24) rfl))) (notFace_of_selects (args := #[]) (mvT hZ (hw _ (List.mem_of_getElem? (i := 26) rfl)))) (mvT hZ (hw _ (List.mem_of_getElem? (i := 26) rfl))) (mvT hZ (hw _ (List.mem_of_getElem? (i := 25) rfl))) (by decide) (backOf (W := 4) (rm_4 l Z a0 hw [] a1 pg ar ls G h0 n0 Z0 F_0 A_0 hg_ hG) hZ (hw _ (List.mem_of_getElem? (i := 27) rfl)) (hw _ (List.mem_of_getElem? (i := 4) rfl)) (by decide) (by decide)) q2a q2c (g := (mkF m 8 #[.val (.ref a1), .val (.int pg)] [(.int pg), (.ref a1), (.double (4604930618986332160 : UInt64)), (.double (4598175219545276416 : UInt64))])) rfl (by rw [hml]; rfl) (Steps.refl _) (argsL := [(.int pg)]) (rest := [(.double (4604930618986332160 : UInt64)), (.double (4598175219545276416 : UInt64))]) (lenOf pd__I_I rfl) rfl (by show 2 * 0 + _ ≤ _; exact Nat.le_of_eq rfl) (hb hby d3_8) (fun _ _ => ⟨rfl, e0, (by decide : 0 + 0 ≤ _), (by decide : 0 + 0 ≤ _)⟩)
  dsimp only [Pt.U, Pt.locs, Pt.cells, Pt.slots] at X2 l2 y2 z2 st2 hQ2
  subst l2 y2 z2
  obtain ⟨rfl, N2, e2⟩ := hQ2
  have M2 := Fr.app N0 N2
  have c3 : ∀ t, Steps p.tables e below (T2.setTop (mkF m 11 #[.val (.ref a1), .val (.int pg)] [(.int (ls G)), (.double (4604930618986332160 : UInt64)), (.double (4598175219545276416 : UInt64))])) t → Steps p.tables e below (s₁.setTop (entryFrame m #[(.ref a1), (.int pg)] 2)) t := fun t k => c1 t (st2.trans k)
  have c4 : ∀ t, Steps p.tables e below (T2.setTop (mkF m 14 #[.val (.ref a1), .val (.int pg)] [(.ref a1), (.double m1), (.double (4598175219545276416 : UInt64))])) t → Steps p.tables e below (s₁.setTop (entryFrame m #[(.ref a1), (.int pg)] 2)) t := fun t k => c3 t (by
    show Steps p.tables e below (T2.setTop (mkF m 11 #[.val (.ref a1), .val (.int pg)] [(.int (ls G)), (.double (4604930618986332160 : UInt64)), (.double (4598175219545276416 : UInt64))])) _
    refine XS.i2dS X2.here hx rfl (hb hby d3_11) rfl rfl ?_
    show Steps p.tables e below (T2.setTop (mkF m 12 #[.val (.ref a1), .val (.int pg)] [(.double (FP.i2d (ls G))), (.double (4604930618986332160 : UInt64)), (.double (4598175219545276416 : UInt64))])) _
    refine XS.dmulS X2.here hx rfl (hb hby d3_12) rfl (hm1 ▸ nm1) hm1 ?_
    show Steps p.tables e below (T2.setTop (mkF m 13 #[.val (.ref a1), .val (.int pg)] [(.double m1), (.double (4598175219545276416 : UInt64))])) _
    refine XS.aloadN X2.here hx rfl (hb hby d3_13) rfl rfl ?_
    show Steps p.tables e below (T2.setTop (mkF m 14 #[.val (.ref a1), .val (.int pg)] [(.ref a1), (.double m1), (.double (4598175219545276416 : UInt64))])) _
    exact k)
  obtain ⟨cq5, kq5, q5a, q5b, q5c⟩ := isOf hZ e2 E_a1
  obtain ⟨_, _, ⟨T5, L5, k5', n5⟩, -, X5, ⟨Lc5, hQ5, l5, y5, z5⟩, st5⟩ := X2.virtualBack hx (y := (⟨"com/example/rival_tongues/rivaltongues/engine/Field", "averageLength", "()D"⟩ : MethodName)) (z := (⟨"com/example/rival_tongues/rivaltongues/engine/Field", "averageLength", "()D"⟩ : MethodName)) hown (mvT hZ (hw _ (List.mem_of_getElem? (i := 28) rfl))) (mvT hZ (hw _ (List.mem_of_getElem? (i := 29) rfl))) (notFace_of_selects (args := #[]) (mvT hZ (hw _ (List.mem_of_getElem? (i := 31) rfl)))) (mvT hZ (hw _ (List.mem_of_getElem? (i := 31) rfl))) (mvT hZ (hw _ (List.mem_of_getElem? (i := 30) rfl))) (by decide) (backOf (W := 4) (rm_5 l Z a0 hw [] a1 pav h0 n0 Z0 F_2) hZ (hw _ (List.mem_of_getElem? (i := 32) rfl)) (hw _ (List.mem_of_getElem? (i := 4) rfl)) (by decide) (by decide)) q5a q5c (g := (mkF m 14 #[.val (.ref a1), .val (.int pg)] [(.ref a1), (.double m1), (.double (4598175219545276416 : UInt64))])) rfl (by rw [hml]; rfl) (Steps.refl _) (argsL := []) (rest := [(.double m1), (.double (4598175219545276416 : UInt64))]) (lenOf pd___D rfl) rfl (by show 2 * 0 + _ ≤ _; exact Nat.le_of_eq rfl) (hb hby d3_14) (fun _ _ => ⟨rfl, e2, (by decide : 0 + 0 ≤ _), (by decide : 0 + 0 ≤ _)⟩)
  dsimp only [Pt.U, Pt.locs, Pt.cells, Pt.slots] at X5 l5 y5 z5 st5 hQ5
  subst l5 y5 z5
  obtain ⟨rfl, N5, e5⟩ := hQ5
  have M5 := Fr.app M2 N5
  have c6 : ∀ t, Steps p.tables e below (T5.setTop (mkF m 17 #[.val (.ref a1), .val (.int pg)] [(.double pav), (.double m1), (.double (4598175219545276416 : UInt64))])) t → Steps p.tables e below (s₁.setTop (entryFrame m #[(.ref a1), (.int pg)] 2)) t := fun t k => c4 t (st5.trans k)
  have c7 : ∀ t, Steps p.tables e below (T5.setTop (mkF m 19 #[.val (.ref a1), .val (.int pg)] [(.double pr)])) t → Steps p.tables e below (s₁.setTop (entryFrame m #[(.ref a1), (.int pg)] 2)) t := fun t k => c6 t (by
    show Steps p.tables e below (T5.setTop (mkF m 17 #[.val (.ref a1), .val (.int pg)] [(.double pav), (.double m1), (.double (4598175219545276416 : UInt64))])) _
    refine XS.ddivS X5.here hx rfl (hb hby d3_17) rfl (hq1 ▸ nq1) hq1 ?_
    show Steps p.tables e below (T5.setTop (mkF m 18 #[.val (.ref a1), .val (.int pg)] [(.double q1), (.double (4598175219545276416 : UInt64))])) _
    refine XS.daddS X5.here hx rfl (hb hby d3_18) rfl (hpr ▸ npr) hpr ?_
    show Steps p.tables e below (T5.setTop (mkF m 19 #[.val (.ref a1), .val (.int pg)] [(.double pr)])) _
    exact k)
  obtain ⟨fs, hr, hrun, hended, hW, hsame⟩ := X5.leave (v := (some (.double pr))) (fun h => by rw [Bd.returns] at h; cases h)
  refine ⟨_, _, pre0 _ (c7 _ (retOut X5 hx (t := .double) (i := .dreturn) Bd.returns rfl (Or.inr (Or.inr (Or.inl ⟨rfl, rfl, _, rfl⟩))) (hb hby d3_19) hr)), hrun, hended, _, _, rfl, ?_, ⟨_, rfl⟩, hW, hsame.mono (by decide) (by decide)⟩
  show Q_3 Z a1 pg ar pav m1 q1 pr ls G h0 n0 _ T5.heap _
  rw [e5]
  exact ⟨rfl, M5, rfl⟩
theorem k_k (x : Int32) {v : Int32} (h : v = (x &&& (31 : Int32)) % (29 : Int32)) : ∃ K : Fin 29, v = Int32.ofNat K.val := by
  have h1 := Kit.i32_mask x 31 (k := 5) (by decide) (by decide)
  have h2 := Kit.i32_rem_nonneg (x := x &&& (31 : Int32)) (y := 29) (by omega)
  rw [show (29 : Int32).toInt = 29 by decide] at h2
  have h3 : v.toInt = (x &&& (31 : Int32)).toInt % 29 := by rw [h]; exact h2
  refine ⟨⟨v.toInt.toNat, by omega⟩, ?_⟩
  apply Int32.toInt_inj.mp
  show v.toInt = (Int32.ofNat v.toInt.toNat).toInt
  rw [Int32.toInt_ofNat_small (by omega)]; omega
theorem shl_k : ∀ K : Fin 29, ((1 : Int32) <<< ((Int32.ofNat K.val + (2 : Int32)) &&& 31)).toInt = ((2 ^ (K.val + 2) : Nat) : Int) := by decide +kernel
theorem lshl_k : ∀ K : Fin 29, ((1 : Int64) <<< ((Int32.ofNat K.val).toInt64 &&& 63)).toInt = ((2 ^ K.val : Nat) : Int) := by decide +kernel
theorem pow_b : ∀ K : Fin 29, 1 ≤ 2 ^ K.val ∧ 2 ^ K.val ≤ 2 ^ 28 ∧ 2 ^ (K.val + 2) = 4 * 2 ^ K.val := by decide
theorem rem_k {x t l : Int32} (ht : 0 < t.toInt) (h : l = (x &&& (2147483647 : Int32)) % t) : 0 ≤ l.toInt ∧ l.toInt < t.toInt := by
  have h1 := Kit.i32_mask x 2147483647 (k := 31) (by decide) (by decide)
  have h2 := Kit.i32_rem_nonneg (x := x &&& (2147483647 : Int32)) (y := t) (by omega)
  rw [h, h2]; exact ⟨Int.emod_nonneg _ (by omega), Int.emod_lt_of_pos _ ht⟩
theorem add1 {x : Int32} (h0 : 0 ≤ x.toInt) (h : x.toInt ≤ 2 ^ 30) : (x + (1 : Int32)).toInt = x.toInt + 1 := by
  have q : (1 : Int32).toInt = 1 := by decide
  rw [Kit.i32_add (by omega) (by omega)]; omega
theorem sub_k {x y : Int32} (h1 : 0 ≤ x.toInt) (h2 : 0 ≤ y.toInt) : (x - y).toInt = x.toInt - y.toInt := by
  have a1 := Int32.toInt_lt x; have a2 := Int32.toInt_lt y
  exact Kit.i32_sub (by omega) (by omega)
theorem nz {x : Int32} (h : 0 < x.toInt) : x ≠ 0 := fun q => by rw [q] at h; exact absurd h (by decide)
theorem sum_k {a b c d : Int32} : (((((0 : Int64) + a.toInt64) + b.toInt64) + c.toInt64) + d.toInt64).toInt = a.toInt + b.toInt + c.toInt + d.toInt := by
  have a1 := Int32.le_toInt a; have a2 := Int32.toInt_lt a; have b1 := Int32.le_toInt b; have b2 := Int32.toInt_lt b
  have c1 := Int32.le_toInt c; have c2 := Int32.toInt_lt c; have d1 := Int32.le_toInt d; have d2 := Int32.toInt_lt d
  have ea := Kit.i64_of_i32 a; have eb := Kit.i64_of_i32 b; have ec := Kit.i64_of_i32 c; have ed := Kit.i64_of_i32 d
  have z : (0 : Int64).toInt = 0 := by decide
  have s1 := Kit.i64_add (x := 0) (y := a.toInt64) (by omega) (by omega)
  have s2 := Kit.i64_add (x := 0 + a.toInt64) (y := b.toInt64) (by omega) (by omega)
  have s3 := Kit.i64_add (x := 0 + a.toInt64 + b.toInt64) (y := c.toInt64) (by omega) (by omega)
  have s4 := Kit.i64_add (x := 0 + a.toInt64 + b.toInt64 + c.toInt64) (y := d.toInt64) (by omega) (by omega)
  omega
theorem c25 : DS 1 2 (4598175219545276416 : UInt64) := ⟨by rw [Core.fin_bits]; decide, by decide +kernel⟩
theorem c75 : DS 3 2 (4604930618986332160 : UInt64) := ⟨by rw [Core.fin_bits]; decide, by decide +kernel⟩
/-- the norm and what the law expects of it -/
theorem norm_k {K : Nat} (hK : K ≤ 28) {len : Int32} {s : Int64} (l1 : 0 ≤ len.toInt) (l2 : len.toInt ≤ 2 ^ 30) (hs : s.toInt = 4 * 2 ^ K) :
    ∃ pav m1 q1 pr, FP.ddiv (FP.l2d s) (FP.i2d (4 : Int32)) = pav ∧ FP.dmul (4604930618986332160 : UInt64) (FP.i2d len) = m1 ∧ FP.ddiv m1 pav = q1 ∧ FP.dadd (4598175219545276416 : UInt64) q1 = pr ∧ Jvm.Free.Fl.NoNaN64 pav ∧ Jvm.Free.Fl.NoNaN64 m1 ∧ Jvm.Free.Fl.NoNaN64 q1 ∧ Jvm.Free.Fl.NoNaN64 pr ∧ DS (2 ^ K + 3 * len.toInt) (K + 2) pr := by
  have hp := pow_pos K
  have hb : (2 : Int) ^ K ≤ 2 ^ 28 := by
    have : (2 : Nat) ^ K ≤ 2 ^ 28 := Nat.pow_le_pow_right (by decide) hK
    have e : ((2 ^ K : Nat) : Int) = 2 ^ K := by rw [Int.natCast_pow]; rfl
    omega
  have d1 : DS (4 * 2 ^ K) 0 (FP.l2d s) := hs ▸ DS.l2d (by omega)
  have d2 : DS (2 ^ K) 0 (FP.ddiv (FP.l2d s) (FP.i2d (4 : Int32))) := d1.div (show DS 4 0 (FP.i2d (4 : Int32)) from DS.i2d 4) (by decide) (by simp [Int.mul_comm]) (by omega) (by decide)
  have d3 : DS (3 * len.toInt) 2 (FP.dmul (4604930618986332160 : UInt64) (FP.i2d len)) := c75.mul (DS.i2d len) (by omega) (by decide)
  have d4 : DS (3 * len.toInt) (K + 2) (FP.ddiv (FP.dmul (4604930618986332160 : UInt64) (FP.i2d len)) (FP.ddiv (FP.l2d s) (FP.i2d (4 : Int32)))) := d3.div d2 hp (by rw [Int.pow_zero, Int.mul_one, Int.pow_add]; ac_rfl) (by omega) (by omega)
  have d5 : DS (2 ^ K) (K + 2) (4598175219545276416 : UInt64) := by
    have := c25.up K; rwa [Int.one_mul, Nat.add_comm] at this
  have d6 := d5.add d4 (by omega) (by omega)
  exact ⟨_, _, _, _, rfl, rfl, rfl, rfl, d2.noNaN, d3.noNaN, d4.noNaN, d6.noNaN, d6⟩
theorem ef_0 (m : MethodId) (p1 : Int32) (p2 : Int32) (p3 : Int32) (p4 : Int32) (p5 : Int32) : entryFrame m #[(.int p1), (.int p2), (.int p3), (.int p4), (.int p5)] maxLocals = (mkF m 0 #[.val (.int p1), .val (.int p2), .val (.int p3), .val (.int p4), .val (.int p5), .unset, .unset, .unset, .unset, .unset, .unset, .unset, .unset, .unset, .unset, .unset, .unset, .unset, .unset, .unset, .unset, .unset, .unset] []) := by first | (simp [entryFrame, mkF, argsToLocals, Value.category, maxLocals]; done) | rfl
def Q_0 (Z : State) (p1 : Int32) (p2 : Int32) (p3 : Int32) (p4 : Int32) (p5 : Int32) (h0 : Heap) (n0 : Nat) (v : Option Value) (h : Heap) (L : List Loc) : Prop := v = some (.int 1) ∧ Fr n0 L
set_option maxRecDepth 65536 in
set_option maxHeartbeats 2000000 in
theorem rm_0 (l : Launch) (Z : State) (a0 : Array Value) (hw : ∀ d ∈ tables_1, d.before a0 Z = true) (ws : List Jvm.Cond) (p1 : Int32) (p2 : Int32) (p3 : Int32) (p4 : Int32) (p5 : Int32) (h0 : Heap) (n0 : Nat) (Z0 : n0 ≤ h0.size)  :
    MetFree l x (head1 (Jvm.Cond.code x code maxLocals ret :: ws) room_1) (fun aa UU => aa = #[(.int p1), (.int p2), (.int p3), (.int p4), (.int p5)] ∧ Z.Warmed39 UU.vm ∧ UU.heap = h0) (fun _ _ _ _ _ => True) (fun _ UU oo UU' => ∃ v L, oo = .returned v ∧ Q_0 Z p1 p2 p3 p4 p5 h0 n0 v UU'.heap L ∧ FrameEnd UU oo UU' L 16 128) := by
  refine MetFree.of_bodySF (plainFor_of_name pn_com_example_rival_tongues_rivaltongues_engine_Bm25LengthNormPinLaw) hisR ?_
  intro p e s m args below meth c s₁ Bd hml0 hP hK
  obtain ⟨rfl, hZ, hh⟩ := hP
  have hx := Bd.exec
  have hby := Bd.bytes
  have hml : c.maxLocals = 23 := hml0
  have hown : s.vm.findClass "com/example/rival_tongues/rivaltongues/engine/Bm25LengthNormPinLaw" = some m.cls := findClass_of_methodNamed Bd.named
  have hnaM := (name_of_methodNamed Bd.named Bd.method).1
  have X0 : Stand p l e room_1 s m #[(.int p1), (.int p2), (.int p3), (.int p4), (.int p5)] below meth c s₁ [] 0 0 := Stand.of_body Bd
  have e0 : s₁.heap = h0 := by rw [← hh, Bd.state]; rfl
  have N0 := Fr.nil n0
  have pre0 : ∀ t, Steps p.tables e below (s₁.setTop (entryFrame m #[(.int p1), (.int p2), (.int p3), (.int p4), (.int p5)] maxLocals)) t → Steps p.tables e below (s₁.setTop (entryFrame m #[(.int p1), (.int p2), (.int p3), (.int p4), (.int p5)] maxLocals)) t := fun t k => k
  have c0 : ∀ t, Steps p.tables e below (s₁.setTop (mkF m 0 #[.val (.int p1), .val (.int p2), .val (.int p3), .val (.int p4), .val (.int p5), .unset, .unset, .unset, .unset, .unset, .unset, .unset, .unset, .unset, .unset, .unset, .unset, .unset, .unset, .unset, .unset, .unset, .unset] [])) t → Steps p.tables e below (s₁.setTop (entryFrame m #[(.int p1), (.int p2), (.int p3), (.int p4), (.int p5)] maxLocals)) t := fun t k => castTop (ef_0 m p1 p2 p3 p4 p5) k
  obtain ⟨kk, hkk⟩ : ∃ v : Int32, v = ((p4 &&& (31 : Int32)) % (29 : Int32)) := ⟨_, rfl⟩
  have c1 : ∀ t, Steps p.tables e below (s₁.setTop (mkF m 9 #[.val (.int p1), .val (.int p2), .val (.int p3), .val (.int p4), .val (.int p5), .val (.int kk), .unset, .unset, .unset, .unset, .unset, .unset, .unset, .unset, .unset, .unset, .unset, .unset, .unset, .unset, .unset, .unset, .unset] [])) t → Steps p.tables e below (s₁.setTop (entryFrame m #[(.int p1), (.int p2), (.int p3), (.int p4), (.int p5)] maxLocals)) t := fun t k => c0 t (by
    rw [hkk] at k
    show Steps p.tables e below (s₁.setTop (mkF m 0 #[.val (.int p1), .val (.int p2), .val (.int p3), .val (.int p4), .val (.int p5), .unset, .unset, .unset, .unset, .unset, .unset, .unset, .unset, .unset, .unset, .unset, .unset, .unset, .unset, .unset, .unset, .unset, .unset] [])) _
    refine XS.iloadN X0.here hx rfl (hb hby at_0) rfl ?_
    show Steps p.tables e below (s₁.setTop (mkF m 1 #[.val (.int p1), .val (.int p2), .val (.int p3), .val (.int p4), .val (.int p5), .unset, .unset, .unset, .unset, .unset, .unset, .unset, .unset, .unset, .unset, .unset, .unset, .unset, .unset, .unset, .unset, .unset, .unset] [(.int p4)])) _
    refine XS.bipush X0.here hx rfl (hb hby at_1) ?_
    show Steps p.tables e below (s₁.setTop (mkF m 3 #[.val (.int p1), .val (.int p2), .val (.int p3), .val (.int p4), .val (.int p5), .unset, .unset, .unset, .unset, .unset, .unset, .unset, .unset, .unset, .unset, .unset, .unset, .unset, .unset, .unset, .unset, .unset, .unset] [(.int (31 : Int32)), (.int p4)])) _
    refine XS.iand X0.here hx rfl (hb hby at_3) rfl ?_
    show Steps p.tables e below (s₁.setTop (mkF m 4 #[.val (.int p1), .val (.int p2), .val (.int p3), .val (.int p4), .val (.int p5), .unset, .unset, .unset, .unset, .unset, .unset, .unset, .unset, .unset, .unset, .unset, .unset, .unset, .unset, .unset, .unset, .unset, .unset] [(.int (p4 &&& (31 : Int32)))])) _
    refine XS.bipush X0.here hx rfl (hb hby at_4) ?_
    show Steps p.tables e below (s₁.setTop (mkF m 6 #[.val (.int p1), .val (.int p2), .val (.int p3), .val (.int p4), .val (.int p5), .unset, .unset, .unset, .unset, .unset, .unset, .unset, .unset, .unset, .unset, .unset, .unset, .unset, .unset, .unset, .unset, .unset, .unset] [(.int (29 : Int32)), (.int (p4 &&& (31 : Int32)))])) _
    refine iremM X0 hx rfl (hb hby at_6) rfl (by decide) ?_
    show Steps p.tables e below (s₁.setTop (mkF m 7 #[.val (.int p1), .val (.int p2), .val (.int p3), .val (.int p4), .val (.int p5), .unset, .unset, .unset, .unset, .unset, .unset, .unset, .unset, .unset, .unset, .unset, .unset, .unset, .unset, .unset, .unset, .unset, .unset] [(.int ((p4 &&& (31 : Int32)) % (29 : Int32)))])) _
    refine XS.istore X0.here hx rfl (hb hby at_7) rfl (l' := #[.val (.int p1), .val (.int p2), .val (.int p3), .val (.int p4), .val (.int p5), .val (.int ((p4 &&& (31 : Int32)) % (29 : Int32))), .unset, .unset, .unset, .unset, .unset, .unset, .unset, .unset, .unset, .unset, .unset, .unset, .unset, .unset, .unset, .unset, .unset]) rfl ?_
    show Steps p.tables e below (s₁.setTop (mkF m 9 #[.val (.int p1), .val (.int p2), .val (.int p3), .val (.int p4), .val (.int p5), .val (.int ((p4 &&& (31 : Int32)) % (29 : Int32))), .unset, .unset, .unset, .unset, .unset, .unset, .unset, .unset, .unset, .unset, .unset, .unset, .unset, .unset, .unset, .unset, .unset] [])) _
    exact k)
  obtain ⟨K, hK⟩ := k_k p4 hkk
  have pK := pow_b K
  obtain ⟨to, hto⟩ : ∃ v : Int32, v = ((1 : Int32) <<< ((kk + (2 : Int32)) &&& 31)) := ⟨_, rfl⟩
  have c2 : ∀ t, Steps p.tables e below (s₁.setTop (mkF m 17 #[.val (.int p1), .val (.int p2), .val (.int p3), .val (.int p4), .val (.int p5), .val (.int kk), .val (.int to), .unset, .unset, .unset, .unset, .unset, .unset, .unset, .unset, .unset, .unset, .unset, .unset, .unset, .unset, .unset, .unset] [])) t → Steps p.tables e below (s₁.setTop (entryFrame m #[(.int p1), (.int p2), (.int p3), (.int p4), (.int p5)] maxLocals)) t := fun t k => c1 t (by
    rw [hto] at k
    show Steps p.tables e below (s₁.setTop (mkF m 9 #[.val (.int p1), .val (.int p2), .val (.int p3), .val (.int p4), .val (.int p5), .val (.int kk), .unset, .unset, .unset, .unset, .unset, .unset, .unset, .unset, .unset, .unset, .unset, .unset, .unset, .unset, .unset, .unset, .unset] [])) _
    refine XS.iconst X0.here hx rfl (hb hby at_9) ?_
    show Steps p.tables e below (s₁.setTop (mkF m 10 #[.val (.int p1), .val (.int p2), .val (.int p3), .val (.int p4), .val (.int p5), .val (.int kk), .unset, .unset, .unset, .unset, .unset, .unset, .unset, .unset, .unset, .unset, .unset, .unset, .unset, .unset, .unset, .unset, .unset] [(.int (1 : Int32))])) _
    refine XS.iload X0.here hx rfl (hb hby at_10) rfl ?_
    show Steps p.tables e below (s₁.setTop (mkF m 12 #[.val (.int p1), .val (.int p2), .val (.int p3), .val (.int p4), .val (.int p5), .val (.int kk), .unset, .unset, .unset, .unset, .unset, .unset, .unset, .unset, .unset, .unset, .unset, .unset, .unset, .unset, .unset, .unset, .unset] [(.int kk), (.int (1 : Int32))])) _
    refine XS.iconst X0.here hx rfl (hb hby at_12) ?_
    show Steps p.tables e below (s₁.setTop (mkF m 13 #[.val (.int p1), .val (.int p2), .val (.int p3), .val (.int p4), .val (.int p5), .val (.int kk), .unset, .unset, .unset, .unset, .unset, .unset, .unset, .unset, .unset, .unset, .unset, .unset, .unset, .unset, .unset, .unset, .unset] [(.int (2 : Int32)), (.int kk), (.int (1 : Int32))])) _
    refine XS.iadd X0.here hx rfl (hb hby at_13) rfl ?_
    show Steps p.tables e below (s₁.setTop (mkF m 14 #[.val (.int p1), .val (.int p2), .val (.int p3), .val (.int p4), .val (.int p5), .val (.int kk), .unset, .unset, .unset, .unset, .unset, .unset, .unset, .unset, .unset, .unset, .unset, .unset, .unset, .unset, .unset, .unset, .unset] [(.int (kk + (2 : Int32))), (.int (1 : Int32))])) _
    refine XT.ishl X0.here hx rfl (hb hby at_14) rfl ?_
    show Steps p.tables e below (s₁.setTop (mkF m 15 #[.val (.int p1), .val (.int p2), .val (.int p3), .val (.int p4), .val (.int p5), .val (.int kk), .unset, .unset, .unset, .unset, .unset, .unset, .unset, .unset, .unset, .unset, .unset, .unset, .unset, .unset, .unset, .unset, .unset] [(.int ((1 : Int32) <<< ((kk + (2 : Int32)) &&& 31)))])) _
    refine XS.istore X0.here hx rfl (hb hby at_15) rfl (l' := #[.val (.int p1), .val (.int p2), .val (.int p3), .val (.int p4), .val (.int p5), .val (.int kk), .val (.int ((1 : Int32) <<< ((kk + (2 : Int32)) &&& 31))), .unset, .unset, .unset, .unset, .unset, .unset, .unset, .unset, .unset, .unset, .unset, .unset, .unset, .unset, .unset, .unset]) rfl ?_
    show Steps p.tables e below (s₁.setTop (mkF m 17 #[.val (.int p1), .val (.int p2), .val (.int p3), .val (.int p4), .val (.int p5), .val (.int kk), .val (.int ((1 : Int32) <<< ((kk + (2 : Int32)) &&& 31))), .unset, .unset, .unset, .unset, .unset, .unset, .unset, .unset, .unset, .unset, .unset, .unset, .unset, .unset, .unset, .unset] [])) _
    exact k)
  have t1 : to.toInt = ((2 ^ (K.val + 2) : Nat) : Int) := by rw [hto, hK]; exact shl_k K
  have t2 : 4 ≤ to.toInt ∧ to.toInt ≤ 2 ^ 30 := by omega
  have t3 := add1 (x := to) (by omega) (by omega)
  obtain ⟨l0, hl0⟩ : ∃ v : Int32, v = ((p1 &&& (2147483647 : Int32)) % (to + (1 : Int32))) := ⟨_, rfl⟩
  have c3 : ∀ t, Steps p.tables e below (s₁.setTop (mkF m 28 #[.val (.int p1), .val (.int p2), .val (.int p3), .val (.int p4), .val (.int p5), .val (.int kk), .val (.int to), .val (.int l0), .unset, .unset, .unset, .unset, .unset, .unset, .unset, .unset, .unset, .unset, .unset, .unset, .unset, .unset, .unset] [])) t → Steps p.tables e below (s₁.setTop (entryFrame m #[(.int p1), (.int p2), (.int p3), (.int p4), (.int p5)] maxLocals)) t := fun t k => c2 t (by
    rw [hl0] at k
    show Steps p.tables e below (s₁.setTop (mkF m 17 #[.val (.int p1), .val (.int p2), .val (.int p3), .val (.int p4), .val (.int p5), .val (.int kk), .val (.int to), .unset, .unset, .unset, .unset, .unset, .unset, .unset, .unset, .unset, .unset, .unset, .unset, .unset, .unset, .unset, .unset] [])) _
    refine XS.iloadN X0.here hx rfl (hb hby at_17) rfl ?_
    show Steps p.tables e below (s₁.setTop (mkF m 18 #[.val (.int p1), .val (.int p2), .val (.int p3), .val (.int p4), .val (.int p5), .val (.int kk), .val (.int to), .unset, .unset, .unset, .unset, .unset, .unset, .unset, .unset, .unset, .unset, .unset, .unset, .unset, .unset, .unset, .unset] [(.int p1)])) _
    refine Jvm.Stand.ldcI X0 hx hown (mvT hZ (hw _ (List.mem_of_getElem? (i := 0) rfl))) rfl (hb hby at_18) ?_
    show Steps p.tables e below (s₁.setTop (mkF m 20 #[.val (.int p1), .val (.int p2), .val (.int p3), .val (.int p4), .val (.int p5), .val (.int kk), .val (.int to), .unset, .unset, .unset, .unset, .unset, .unset, .unset, .unset, .unset, .unset, .unset, .unset, .unset, .unset, .unset, .unset] [(.int (2147483647 : Int32)), (.int p1)])) _
    refine XS.iand X0.here hx rfl (hb hby at_20) rfl ?_
    show Steps p.tables e below (s₁.setTop (mkF m 21 #[.val (.int p1), .val (.int p2), .val (.int p3), .val (.int p4), .val (.int p5), .val (.int kk), .val (.int to), .unset, .unset, .unset, .unset, .unset, .unset, .unset, .unset, .unset, .unset, .unset, .unset, .unset, .unset, .unset, .unset] [(.int (p1 &&& (2147483647 : Int32)))])) _
    refine XS.iload X0.here hx rfl (hb hby at_21) rfl ?_
    show Steps p.tables e below (s₁.setTop (mkF m 23 #[.val (.int p1), .val (.int p2), .val (.int p3), .val (.int p4), .val (.int p5), .val (.int kk), .val (.int to), .unset, .unset, .unset, .unset, .unset, .unset, .unset, .unset, .unset, .unset, .unset, .unset, .unset, .unset, .unset, .unset] [(.int to), (.int (p1 &&& (2147483647 : Int32)))])) _
    refine XS.iconst X0.here hx rfl (hb hby at_23) ?_
    show Steps p.tables e below (s₁.setTop (mkF m 24 #[.val (.int p1), .val (.int p2), .val (.int p3), .val (.int p4), .val (.int p5), .val (.int kk), .val (.int to), .unset, .unset, .unset, .unset, .unset, .unset, .unset, .unset, .unset, .unset, .unset, .unset, .unset, .unset, .unset, .unset] [(.int (1 : Int32)), (.int to), (.int (p1 &&& (2147483647 : Int32)))])) _
    refine XS.iadd X0.here hx rfl (hb hby at_24) rfl ?_
    show Steps p.tables e below (s₁.setTop (mkF m 25 #[.val (.int p1), .val (.int p2), .val (.int p3), .val (.int p4), .val (.int p5), .val (.int kk), .val (.int to), .unset, .unset, .unset, .unset, .unset, .unset, .unset, .unset, .unset, .unset, .unset, .unset, .unset, .unset, .unset, .unset] [(.int (to + (1 : Int32))), (.int (p1 &&& (2147483647 : Int32)))])) _
    refine iremM X0 hx rfl (hb hby at_25) rfl (nz (by omega)) ?_
    show Steps p.tables e below (s₁.setTop (mkF m 26 #[.val (.int p1), .val (.int p2), .val (.int p3), .val (.int p4), .val (.int p5), .val (.int kk), .val (.int to), .unset, .unset, .unset, .unset, .unset, .unset, .unset, .unset, .unset, .unset, .unset, .unset, .unset, .unset, .unset, .unset] [(.int ((p1 &&& (2147483647 : Int32)) % (to + (1 : Int32))))])) _
    refine XS.istore X0.here hx rfl (hb hby at_26) rfl (l' := #[.val (.int p1), .val (.int p2), .val (.int p3), .val (.int p4), .val (.int p5), .val (.int kk), .val (.int to), .val (.int ((p1 &&& (2147483647 : Int32)) % (to + (1 : Int32)))), .unset, .unset, .unset, .unset, .unset, .unset, .unset, .unset, .unset, .unset, .unset, .unset, .unset, .unset, .unset]) rfl ?_
    show Steps p.tables e below (s₁.setTop (mkF m 28 #[.val (.int p1), .val (.int p2), .val (.int p3), .val (.int p4), .val (.int p5), .val (.int kk), .val (.int to), .val (.int ((p1 &&& (2147483647 : Int32)) % (to + (1 : Int32)))), .unset, .unset, .unset, .unset, .unset, .unset, .unset, .unset, .unset, .unset, .unset, .unset, .unset, .unset, .unset] [])) _
    exact k)
  have r0 := rem_k (by omega) hl0
  have s0 := sub_k (x := to) (y := l0) (by omega) (by omega)
  have s0' := add1 (x := to - l0) (by omega) (by omega)
  obtain ⟨l1, hl1⟩ : ∃ v : Int32, v = ((p2 &&& (2147483647 : Int32)) % ((to - l0) + (1 : Int32))) := ⟨_, rfl⟩
  have c4 : ∀ t, Steps p.tables e below (s₁.setTop (mkF m 42 #[.val (.int p1), .val (.int p2), .val (.int p3), .val (.int p4), .val (.int p5), .val (.int kk), .val (.int to), .val (.int l0), .val (.int l1), .unset, .unset, .unset, .unset, .unset, .unset, .unset, .unset, .unset, .unset, .unset, .unset, .unset, .unset] [])) t → Steps p.tables e below (s₁.setTop (entryFrame m #[(.int p1), (.int p2), (.int p3), (.int p4), (.int p5)] maxLocals)) t := fun t k => c3 t (by
    rw [hl1] at k
    show Steps p.tables e below (s₁.setTop (mkF m 28 #[.val (.int p1), .val (.int p2), .val (.int p3), .val (.int p4), .val (.int p5), .val (.int kk), .val (.int to), .val (.int l0), .unset, .unset, .unset, .unset, .unset, .unset, .unset, .unset, .unset, .unset, .unset, .unset, .unset, .unset, .unset] [])) _
    refine XS.iloadN X0.here hx rfl (hb hby at_28) rfl ?_
    show Steps p.tables e below (s₁.setTop (mkF m 29 #[.val (.int p1), .val (.int p2), .val (.int p3), .val (.int p4), .val (.int p5), .val (.int kk), .val (.int to), .val (.int l0), .unset, .unset, .unset, .unset, .unset, .unset, .unset, .unset, .unset, .unset, .unset, .unset, .unset, .unset, .unset] [(.int p2)])) _
    refine Jvm.Stand.ldcI X0 hx hown (mvT hZ (hw _ (List.mem_of_getElem? (i := 0) rfl))) rfl (hb hby at_29) ?_
    show Steps p.tables e below (s₁.setTop (mkF m 31 #[.val (.int p1), .val (.int p2), .val (.int p3), .val (.int p4), .val (.int p5), .val (.int kk), .val (.int to), .val (.int l0), .unset, .unset, .unset, .unset, .unset, .unset, .unset, .unset, .unset, .unset, .unset, .unset, .unset, .unset, .unset] [(.int (2147483647 : Int32)), (.int p2)])) _
    refine XS.iand X0.here hx rfl (hb hby at_31) rfl ?_
    show Steps p.tables e below (s₁.setTop (mkF m 32 #[.val (.int p1), .val (.int p2), .val (.int p3), .val (.int p4), .val (.int p5), .val (.int kk), .val (.int to), .val (.int l0), .unset, .unset, .unset, .unset, .unset, .unset, .unset, .unset, .unset, .unset, .unset, .unset, .unset, .unset, .unset] [(.int (p2 &&& (2147483647 : Int32)))])) _
    refine XS.iload X0.here hx rfl (hb hby at_32) rfl ?_
    show Steps p.tables e below (s₁.setTop (mkF m 34 #[.val (.int p1), .val (.int p2), .val (.int p3), .val (.int p4), .val (.int p5), .val (.int kk), .val (.int to), .val (.int l0), .unset, .unset, .unset, .unset, .unset, .unset, .unset, .unset, .unset, .unset, .unset, .unset, .unset, .unset, .unset] [(.int to), (.int (p2 &&& (2147483647 : Int32)))])) _
    refine XS.iload X0.here hx rfl (hb hby at_34) rfl ?_
    show Steps p.tables e below (s₁.setTop (mkF m 36 #[.val (.int p1), .val (.int p2), .val (.int p3), .val (.int p4), .val (.int p5), .val (.int kk), .val (.int to), .val (.int l0), .unset, .unset, .unset, .unset, .unset, .unset, .unset, .unset, .unset, .unset, .unset, .unset, .unset, .unset, .unset] [(.int l0), (.int to), (.int (p2 &&& (2147483647 : Int32)))])) _
    refine XS.isub X0.here hx rfl (hb hby at_36) rfl ?_
    show Steps p.tables e below (s₁.setTop (mkF m 37 #[.val (.int p1), .val (.int p2), .val (.int p3), .val (.int p4), .val (.int p5), .val (.int kk), .val (.int to), .val (.int l0), .unset, .unset, .unset, .unset, .unset, .unset, .unset, .unset, .unset, .unset, .unset, .unset, .unset, .unset, .unset] [(.int (to - l0)), (.int (p2 &&& (2147483647 : Int32)))])) _
    refine XS.iconst X0.here hx rfl (hb hby at_37) ?_
    show Steps p.tables e below (s₁.setTop (mkF m 38 #[.val (.int p1), .val (.int p2), .val (.int p3), .val (.int p4), .val (.int p5), .val (.int kk), .val (.int to), .val (.int l0), .unset, .unset, .unset, .unset, .unset, .unset, .unset, .unset, .unset, .unset, .unset, .unset, .unset, .unset, .unset] [(.int (1 : Int32)), (.int (to - l0)), (.int (p2 &&& (2147483647 : Int32)))])) _
    refine XS.iadd X0.here hx rfl (hb hby at_38) rfl ?_
    show Steps p.tables e below (s₁.setTop (mkF m 39 #[.val (.int p1), .val (.int p2), .val (.int p3), .val (.int p4), .val (.int p5), .val (.int kk), .val (.int to), .val (.int l0), .unset, .unset, .unset, .unset, .unset, .unset, .unset, .unset, .unset, .unset, .unset, .unset, .unset, .unset, .unset] [(.int ((to - l0) + (1 : Int32))), (.int (p2 &&& (2147483647 : Int32)))])) _
    refine iremM X0 hx rfl (hb hby at_39) rfl (nz (by omega)) ?_
    show Steps p.tables e below (s₁.setTop (mkF m 40 #[.val (.int p1), .val (.int p2), .val (.int p3), .val (.int p4), .val (.int p5), .val (.int kk), .val (.int to), .val (.int l0), .unset, .unset, .unset, .unset, .unset, .unset, .unset, .unset, .unset, .unset, .unset, .unset, .unset, .unset, .unset] [(.int ((p2 &&& (2147483647 : Int32)) % ((to - l0) + (1 : Int32))))])) _
    refine XS.istore X0.here hx rfl (hb hby at_40) rfl (l' := #[.val (.int p1), .val (.int p2), .val (.int p3), .val (.int p4), .val (.int p5), .val (.int kk), .val (.int to), .val (.int l0), .val (.int ((p2 &&& (2147483647 : Int32)) % ((to - l0) + (1 : Int32)))), .unset, .unset, .unset, .unset, .unset, .unset, .unset, .unset, .unset, .unset, .unset, .unset, .unset, .unset]) rfl ?_
    show Steps p.tables e below (s₁.setTop (mkF m 42 #[.val (.int p1), .val (.int p2), .val (.int p3), .val (.int p4), .val (.int p5), .val (.int kk), .val (.int to), .val (.int l0), .val (.int ((p2 &&& (2147483647 : Int32)) % ((to - l0) + (1 : Int32)))), .unset, .unset, .unset, .unset, .unset, .unset, .unset, .unset, .unset, .unset, .unset, .unset, .unset, .unset] [])) _
    exact k)
  have r1 := rem_k (by omega) hl1
  have s1 := sub_k (x := to - l0) (y := l1) (by omega) (by omega)
  have s1' := add1 (x := to - l0 - l1) (by omega) (by omega)
  obtain ⟨l2, hl2⟩ : ∃ v : Int32, v = ((p3 &&& (2147483647 : Int32)) % (((to - l0) - l1) + (1 : Int32))) := ⟨_, rfl⟩
  have c5 : ∀ t, Steps p.tables e below (s₁.setTop (mkF m 59 #[.val (.int p1), .val (.int p2), .val (.int p3), .val (.int p4), .val (.int p5), .val (.int kk), .val (.int to), .val (.int l0), .val (.int l1), .val (.int l2), .unset, .unset, .unset, .unset, .unset, .unset, .unset, .unset, .unset, .unset, .unset, .unset, .unset] [])) t → Steps p.tables e below (s₁.setTop (entryFrame m #[(.int p1), (.int p2), (.int p3), (.int p4), (.int p5)] maxLocals)) t := fun t k => c4 t (by
    rw [hl2] at k
    show Steps p.tables e below (s₁.setTop (mkF m 42 #[.val (.int p1), .val (.int p2), .val (.int p3), .val (.int p4), .val (.int p5), .val (.int kk), .val (.int to), .val (.int l0), .val (.int l1), .unset, .unset, .unset, .unset, .unset, .unset, .unset, .unset, .unset, .unset, .unset, .unset, .unset, .unset] [])) _
    refine XS.iloadN X0.here hx rfl (hb hby at_42) rfl ?_
    show Steps p.tables e below (s₁.setTop (mkF m 43 #[.val (.int p1), .val (.int p2), .val (.int p3), .val (.int p4), .val (.int p5), .val (.int kk), .val (.int to), .val (.int l0), .val (.int l1), .unset, .unset, .unset, .unset, .unset, .unset, .unset, .unset, .unset, .unset, .unset, .unset, .unset, .unset] [(.int p3)])) _
    refine Jvm.Stand.ldcI X0 hx hown (mvT hZ (hw _ (List.mem_of_getElem? (i := 0) rfl))) rfl (hb hby at_43) ?_
    show Steps p.tables e below (s₁.setTop (mkF m 45 #[.val (.int p1), .val (.int p2), .val (.int p3), .val (.int p4), .val (.int p5), .val (.int kk), .val (.int to), .val (.int l0), .val (.int l1), .unset, .unset, .unset, .unset, .unset, .unset, .unset, .unset, .unset, .unset, .unset, .unset, .unset, .unset] [(.int (2147483647 : Int32)), (.int p3)])) _
    refine XS.iand X0.here hx rfl (hb hby at_45) rfl ?_
    show Steps p.tables e below (s₁.setTop (mkF m 46 #[.val (.int p1), .val (.int p2), .val (.int p3), .val (.int p4), .val (.int p5), .val (.int kk), .val (.int to), .val (.int l0), .val (.int l1), .unset, .unset, .unset, .unset, .unset, .unset, .unset, .unset, .unset, .unset, .unset, .unset, .unset, .unset] [(.int (p3 &&& (2147483647 : Int32)))])) _
    refine XS.iload X0.here hx rfl (hb hby at_46) rfl ?_
    show Steps p.tables e below (s₁.setTop (mkF m 48 #[.val (.int p1), .val (.int p2), .val (.int p3), .val (.int p4), .val (.int p5), .val (.int kk), .val (.int to), .val (.int l0), .val (.int l1), .unset, .unset, .unset, .unset, .unset, .unset, .unset, .unset, .unset, .unset, .unset, .unset, .unset, .unset] [(.int to), (.int (p3 &&& (2147483647 : Int32)))])) _
    refine XS.iload X0.here hx rfl (hb hby at_48) rfl ?_
    show Steps p.tables e below (s₁.setTop (mkF m 50 #[.val (.int p1), .val (.int p2), .val (.int p3), .val (.int p4), .val (.int p5), .val (.int kk), .val (.int to), .val (.int l0), .val (.int l1), .unset, .unset, .unset, .unset, .unset, .unset, .unset, .unset, .unset, .unset, .unset, .unset, .unset, .unset] [(.int l0), (.int to), (.int (p3 &&& (2147483647 : Int32)))])) _
    refine XS.isub X0.here hx rfl (hb hby at_50) rfl ?_
    show Steps p.tables e below (s₁.setTop (mkF m 51 #[.val (.int p1), .val (.int p2), .val (.int p3), .val (.int p4), .val (.int p5), .val (.int kk), .val (.int to), .val (.int l0), .val (.int l1), .unset, .unset, .unset, .unset, .unset, .unset, .unset, .unset, .unset, .unset, .unset, .unset, .unset, .unset] [(.int (to - l0)), (.int (p3 &&& (2147483647 : Int32)))])) _
    refine XS.iload X0.here hx rfl (hb hby at_51) rfl ?_
    show Steps p.tables e below (s₁.setTop (mkF m 53 #[.val (.int p1), .val (.int p2), .val (.int p3), .val (.int p4), .val (.int p5), .val (.int kk), .val (.int to), .val (.int l0), .val (.int l1), .unset, .unset, .unset, .unset, .unset, .unset, .unset, .unset, .unset, .unset, .unset, .unset, .unset, .unset] [(.int l1), (.int (to - l0)), (.int (p3 &&& (2147483647 : Int32)))])) _
    refine XS.isub X0.here hx rfl (hb hby at_53) rfl ?_
    show Steps p.tables e below (s₁.setTop (mkF m 54 #[.val (.int p1), .val (.int p2), .val (.int p3), .val (.int p4), .val (.int p5), .val (.int kk), .val (.int to), .val (.int l0), .val (.int l1), .unset, .unset, .unset, .unset, .unset, .unset, .unset, .unset, .unset, .unset, .unset, .unset, .unset, .unset] [(.int ((to - l0) - l1)), (.int (p3 &&& (2147483647 : Int32)))])) _
    refine XS.iconst X0.here hx rfl (hb hby at_54) ?_
    show Steps p.tables e below (s₁.setTop (mkF m 55 #[.val (.int p1), .val (.int p2), .val (.int p3), .val (.int p4), .val (.int p5), .val (.int kk), .val (.int to), .val (.int l0), .val (.int l1), .unset, .unset, .unset, .unset, .unset, .unset, .unset, .unset, .unset, .unset, .unset, .unset, .unset, .unset] [(.int (1 : Int32)), (.int ((to - l0) - l1)), (.int (p3 &&& (2147483647 : Int32)))])) _
    refine XS.iadd X0.here hx rfl (hb hby at_55) rfl ?_
    show Steps p.tables e below (s₁.setTop (mkF m 56 #[.val (.int p1), .val (.int p2), .val (.int p3), .val (.int p4), .val (.int p5), .val (.int kk), .val (.int to), .val (.int l0), .val (.int l1), .unset, .unset, .unset, .unset, .unset, .unset, .unset, .unset, .unset, .unset, .unset, .unset, .unset, .unset] [(.int (((to - l0) - l1) + (1 : Int32))), (.int (p3 &&& (2147483647 : Int32)))])) _
    refine iremM X0 hx rfl (hb hby at_56) rfl (nz (by omega)) ?_
    show Steps p.tables e below (s₁.setTop (mkF m 57 #[.val (.int p1), .val (.int p2), .val (.int p3), .val (.int p4), .val (.int p5), .val (.int kk), .val (.int to), .val (.int l0), .val (.int l1), .unset, .unset, .unset, .unset, .unset, .unset, .unset, .unset, .unset, .unset, .unset, .unset, .unset, .unset] [(.int ((p3 &&& (2147483647 : Int32)) % (((to - l0) - l1) + (1 : Int32))))])) _
    refine XS.istore X0.here hx rfl (hb hby at_57) rfl (l' := #[.val (.int p1), .val (.int p2), .val (.int p3), .val (.int p4), .val (.int p5), .val (.int kk), .val (.int to), .val (.int l0), .val (.int l1), .val (.int ((p3 &&& (2147483647 : Int32)) % (((to - l0) - l1) + (1 : Int32)))), .unset, .unset, .unset, .unset, .unset, .unset, .unset, .unset, .unset, .unset, .unset, .unset, .unset]) rfl ?_
    show Steps p.tables e below (s₁.setTop (mkF m 59 #[.val (.int p1), .val (.int p2), .val (.int p3), .val (.int p4), .val (.int p5), .val (.int kk), .val (.int to), .val (.int l0), .val (.int l1), .val (.int ((p3 &&& (2147483647 : Int32)) % (((to - l0) - l1) + (1 : Int32)))), .unset, .unset, .unset, .unset, .unset, .unset, .unset, .unset, .unset, .unset, .unset, .unset, .unset] [])) _
    exact k)
  have r2 := rem_k (by omega) hl2
  have s2 := sub_k (x := to - l0 - l1) (y := l2) (by omega) (by omega)
  obtain ⟨l3, hl3⟩ : ∃ v : Int32, v = (((to - l0) - l1) - l2) := ⟨_, rfl⟩
  have c6 : ∀ t, Steps p.tables e below (s₁.setTop (mkF m 72 #[.val (.int p1), .val (.int p2), .val (.int p3), .val (.int p4), .val (.int p5), .val (.int kk), .val (.int to), .val (.int l0), .val (.int l1), .val (.int l2), .val (.int l3), .unset, .unset, .unset, .unset, .unset, .unset, .unset, .unset, .unset, .unset, .unset, .unset] [])) t → Steps p.tables e below (s₁.setTop (entryFrame m #[(.int p1), (.int p2), (.int p3), (.int p4), (.int p5)] maxLocals)) t := fun t k => c5 t (by
    rw [hl3] at k
    show Steps p.tables e below (s₁.setTop (mkF m 59 #[.val (.int p1), .val (.int p2), .val (.int p3), .val (.int p4), .val (.int p5), .val (.int kk), .val (.int to), .val (.int l0), .val (.int l1), .val (.int l2), .unset, .unset, .unset, .unset, .unset, .unset, .unset, .unset, .unset, .unset, .unset, .unset, .unset] [])) _
    refine XS.iload X0.here hx rfl (hb hby at_59) rfl ?_
    show Steps p.tables e below (s₁.setTop (mkF m 61 #[.val (.int p1), .val (.int p2), .val (.int p3), .val (.int p4), .val (.int p5), .val (.int kk), .val (.int to), .val (.int l0), .val (.int l1), .val (.int l2), .unset, .unset, .unset, .unset, .unset, .unset, .unset, .unset, .unset, .unset, .unset, .unset, .unset] [(.int to)])) _
    refine XS.iload X0.here hx rfl (hb hby at_61) rfl ?_
    show Steps p.tables e below (s₁.setTop (mkF m 63 #[.val (.int p1), .val (.int p2), .val (.int p3), .val (.int p4), .val (.int p5), .val (.int kk), .val (.int to), .val (.int l0), .val (.int l1), .val (.int l2), .unset, .unset, .unset, .unset, .unset, .unset, .unset, .unset, .unset, .unset, .unset, .unset, .unset] [(.int l0), (.int to)])) _
    refine XS.isub X0.here hx rfl (hb hby at_63) rfl ?_
    show Steps p.tables e below (s₁.setTop (mkF m 64 #[.val (.int p1), .val (.int p2), .val (.int p3), .val (.int p4), .val (.int p5), .val (.int kk), .val (.int to), .val (.int l0), .val (.int l1), .val (.int l2), .unset, .unset, .unset, .unset, .unset, .unset, .unset, .unset, .unset, .unset, .unset, .unset, .unset] [(.int (to - l0))])) _
    refine XS.iload X0.here hx rfl (hb hby at_64) rfl ?_
    show Steps p.tables e below (s₁.setTop (mkF m 66 #[.val (.int p1), .val (.int p2), .val (.int p3), .val (.int p4), .val (.int p5), .val (.int kk), .val (.int to), .val (.int l0), .val (.int l1), .val (.int l2), .unset, .unset, .unset, .unset, .unset, .unset, .unset, .unset, .unset, .unset, .unset, .unset, .unset] [(.int l1), (.int (to - l0))])) _
    refine XS.isub X0.here hx rfl (hb hby at_66) rfl ?_
    show Steps p.tables e below (s₁.setTop (mkF m 67 #[.val (.int p1), .val (.int p2), .val (.int p3), .val (.int p4), .val (.int p5), .val (.int kk), .val (.int to), .val (.int l0), .val (.int l1), .val (.int l2), .unset, .unset, .unset, .unset, .unset, .unset, .unset, .unset, .unset, .unset, .unset, .unset, .unset] [(.int ((to - l0) - l1))])) _
    refine XS.iload X0.here hx rfl (hb hby at_67) rfl ?_
    show Steps p.tables e below (s₁.setTop (mkF m 69 #[.val (.int p1), .val (.int p2), .val (.int p3), .val (.int p4), .val (.int p5), .val (.int kk), .val (.int to), .val (.int l0), .val (.int l1), .val (.int l2), .unset, .unset, .unset, .unset, .unset, .unset, .unset, .unset, .unset, .unset, .unset, .unset, .unset] [(.int l2), (.int ((to - l0) - l1))])) _
    refine XS.isub X0.here hx rfl (hb hby at_69) rfl ?_
    show Steps p.tables e below (s₁.setTop (mkF m 70 #[.val (.int p1), .val (.int p2), .val (.int p3), .val (.int p4), .val (.int p5), .val (.int kk), .val (.int to), .val (.int l0), .val (.int l1), .val (.int l2), .unset, .unset, .unset, .unset, .unset, .unset, .unset, .unset, .unset, .unset, .unset, .unset, .unset] [(.int (((to - l0) - l1) - l2))])) _
    refine XS.istore X0.here hx rfl (hb hby at_70) rfl (l' := #[.val (.int p1), .val (.int p2), .val (.int p3), .val (.int p4), .val (.int p5), .val (.int kk), .val (.int to), .val (.int l0), .val (.int l1), .val (.int l2), .val (.int (((to - l0) - l1) - l2)), .unset, .unset, .unset, .unset, .unset, .unset, .unset, .unset, .unset, .unset, .unset, .unset]) rfl ?_
    show Steps p.tables e below (s₁.setTop (mkF m 72 #[.val (.int p1), .val (.int p2), .val (.int p3), .val (.int p4), .val (.int p5), .val (.int kk), .val (.int to), .val (.int l0), .val (.int l1), .val (.int l2), .val (.int (((to - l0) - l1) - l2)), .unset, .unset, .unset, .unset, .unset, .unset, .unset, .unset, .unset, .unset, .unset, .unset] [])) _
    exact k)
  have e3 : l3.toInt = to.toInt - l0.toInt - l1.toInt - l2.toInt := by rw [hl3]; omega
  have c7 : ∀ t, Steps p.tables e below (s₁.setTop (mkF m 73 #[.val (.int p1), .val (.int p2), .val (.int p3), .val (.int p4), .val (.int p5), .val (.int kk), .val (.int to), .val (.int l0), .val (.int l1), .val (.int l2), .val (.int l3), .unset, .unset, .unset, .unset, .unset, .unset, .unset, .unset, .unset, .unset, .unset, .unset] [(.int (4 : Int32))])) t → Steps p.tables e below (s₁.setTop (entryFrame m #[(.int p1), (.int p2), (.int p3), (.int p4), (.int p5)] maxLocals)) t := fun t k => c6 t (by
    show Steps p.tables e below (s₁.setTop (mkF m 72 #[.val (.int p1), .val (.int p2), .val (.int p3), .val (.int p4), .val (.int p5), .val (.int kk), .val (.int to), .val (.int l0), .val (.int l1), .val (.int l2), .val (.int l3), .unset, .unset, .unset, .unset, .unset, .unset, .unset, .unset, .unset, .unset, .unset, .unset] [])) _
    refine XS.iconst X0.here hx rfl (hb hby at_72) ?_
    show Steps p.tables e below (s₁.setTop (mkF m 73 #[.val (.int p1), .val (.int p2), .val (.int p3), .val (.int p4), .val (.int p5), .val (.int kk), .val (.int to), .val (.int l0), .val (.int l1), .val (.int l2), .val (.int l3), .unset, .unset, .unset, .unset, .unset, .unset, .unset, .unset, .unset, .unset, .unset, .unset] [(.int (4 : Int32))])) _
    exact k)
  obtain ⟨T8, h8, kA8, X8, e8, E8, A8, st8⟩ := newP X0 hx hZ (hw _ (List.mem_of_getElem? (i := 1) rfl)) e0 (g := (mkF m 73 #[.val (.int p1), .val (.int p2), .val (.int p3), .val (.int p4), .val (.int p5), .val (.int kk), .val (.int to), .val (.int l0), .val (.int l1), .val (.int l2), .val (.int l3), .unset, .unset, .unset, .unset, .unset, .unset, .unset, .unset, .unset, .unset, .unset, .unset] [(.int (4 : Int32))])) rfl (hb hby at_73) rfl (by decide) (cap := 4) (by decide) (by decide) (by decide) (by decide)
  obtain ⟨ar, g8⟩ : ∃ z, z = h0.size := ⟨_, rfl⟩
  rw [← g8] at A8 st8
  have F9 : OwnArr.Ag Z h8 ar .int 4 (fun _ => (.int (0 : Int32))) := (OwnArr.Ag.new A8 (by decide))
  have c10 : ∀ t, Steps p.tables e below (T8.setTop (mkF m 75 #[.val (.int p1), .val (.int p2), .val (.int p3), .val (.int p4), .val (.int p5), .val (.int kk), .val (.int to), .val (.int l0), .val (.int l1), .val (.int l2), .val (.int l3), .unset, .unset, .unset, .unset, .unset, .unset, .unset, .unset, .unset, .unset, .unset, .unset] [(.ref ar)])) t → Steps p.tables e below (s₁.setTop (entryFrame m #[(.int p1), (.int p2), (.int p3), (.int p4), (.int p5)] maxLocals)) t := fun t k => c7 t (st8 _ k)
  have c11 : ∀ t, Steps p.tables e below (T8.setTop (mkF m 79 #[.val (.int p1), .val (.int p2), .val (.int p3), .val (.int p4), .val (.int p5), .val (.int kk), .val (.int to), .val (.int l0), .val (.int l1), .val (.int l2), .val (.int l3), .unset, .unset, .unset, .unset, .unset, .unset, .unset, .unset, .unset, .unset, .unset, .unset] [(.int l0), (.int (0 : Int32)), (.ref ar), (.ref ar)])) t → Steps p.tables e below (s₁.setTop (entryFrame m #[(.int p1), (.int p2), (.int p3), (.int p4), (.int p5)] maxLocals)) t := fun t k => c10 t (by
    show Steps p.tables e below (T8.setTop (mkF m 75 #[.val (.int p1), .val (.int p2), .val (.int p3), .val (.int p4), .val (.int p5), .val (.int kk), .val (.int to), .val (.int l0), .val (.int l1), .val (.int l2), .val (.int l3), .unset, .unset, .unset, .unset, .unset, .unset, .unset, .unset, .unset, .unset, .unset, .unset] [(.ref ar)])) _
    refine XS.dup X8.here hx rfl (hb hby at_75) rfl rfl ?_
    show Steps p.tables e below (T8.setTop (mkF m 76 #[.val (.int p1), .val (.int p2), .val (.int p3), .val (.int p4), .val (.int p5), .val (.int kk), .val (.int to), .val (.int l0), .val (.int l1), .val (.int l2), .val (.int l3), .unset, .unset, .unset, .unset, .unset, .unset, .unset, .unset, .unset, .unset, .unset, .unset] [(.ref ar), (.ref ar)])) _
    refine XS.iconst X8.here hx rfl (hb hby at_76) ?_
    show Steps p.tables e below (T8.setTop (mkF m 77 #[.val (.int p1), .val (.int p2), .val (.int p3), .val (.int p4), .val (.int p5), .val (.int kk), .val (.int to), .val (.int l0), .val (.int l1), .val (.int l2), .val (.int l3), .unset, .unset, .unset, .unset, .unset, .unset, .unset, .unset, .unset, .unset, .unset, .unset] [(.int (0 : Int32)), (.ref ar), (.ref ar)])) _
    refine XS.iload X8.here hx rfl (hb hby at_77) rfl ?_
    show Steps p.tables e below (T8.setTop (mkF m 79 #[.val (.int p1), .val (.int p2), .val (.int p3), .val (.int p4), .val (.int p5), .val (.int kk), .val (.int to), .val (.int l0), .val (.int l1), .val (.int l2), .val (.int l3), .unset, .unset, .unset, .unset, .unset, .unset, .unset, .unset, .unset, .unset, .unset, .unset] [(.int l0), (.int (0 : Int32)), (.ref ar), (.ref ar)])) _
    exact k)
  obtain ⟨T12, h12, X12, e12, W12, st12⟩ := OwnArr.stIA X8 hx hZ e8 F9 (j := (0 : Int32)) (J := 0) (by decide) (by decide) (g := (mkF m 79 #[.val (.int p1), .val (.int p2), .val (.int p3), .val (.int p4), .val (.int p5), .val (.int kk), .val (.int to), .val (.int l0), .val (.int l1), .val (.int l2), .val (.int l3), .unset, .unset, .unset, .unset, .unset, .unset, .unset, .unset, .unset, .unset, .unset, .unset] [(.int l0), (.int (0 : Int32)), (.ref ar), (.ref ar)])) rfl rfl (hb hby at_79)
  have F13 : OwnArr.Ag Z h12 ar .int 4 (fun i => if i = 0 then (.int l0) else (fun _ => (.int (0 : Int32))) i) := (F9.set W12)
  have N12 := Fr.snoc X12 N0 (Nat.le_trans Z0 (Nat.le_of_eq g8.symm))
  have c14 : ∀ t, Steps p.tables e below (T12.setTop (mkF m 80 #[.val (.int p1), .val (.int p2), .val (.int p3), .val (.int p4), .val (.int p5), .val (.int kk), .val (.int to), .val (.int l0), .val (.int l1), .val (.int l2), .val (.int l3), .unset, .unset, .unset, .unset, .unset, .unset, .unset, .unset, .unset, .unset, .unset, .unset] [(.ref ar)])) t → Steps p.tables e below (s₁.setTop (entryFrame m #[(.int p1), (.int p2), (.int p3), (.int p4), (.int p5)] maxLocals)) t := fun t k => c11 t (st12 _ k)
  have c15 : ∀ t, Steps p.tables e below (T12.setTop (mkF m 84 #[.val (.int p1), .val (.int p2), .val (.int p3), .val (.int p4), .val (.int p5), .val (.int kk), .val (.int to), .val (.int l0), .val (.int l1), .val (.int l2), .val (.int l3), .unset, .unset, .unset, .unset, .unset, .unset, .unset, .unset, .unset, .unset, .unset, .unset] [(.int l1), (.int (1 : Int32)), (.ref ar), (.ref ar)])) t → Steps p.tables e below (s₁.setTop (entryFrame m #[(.int p1), (.int p2), (.int p3), (.int p4), (.int p5)] maxLocals)) t := fun t k => c14 t (by
    show Steps p.tables e below (T12.setTop (mkF m 80 #[.val (.int p1), .val (.int p2), .val (.int p3), .val (.int p4), .val (.int p5), .val (.int kk), .val (.int to), .val (.int l0), .val (.int l1), .val (.int l2), .val (.int l3), .unset, .unset, .unset, .unset, .unset, .unset, .unset, .unset, .unset, .unset, .unset, .unset] [(.ref ar)])) _
    refine XS.dup X12.here hx rfl (hb hby at_80) rfl rfl ?_
    show Steps p.tables e below (T12.setTop (mkF m 81 #[.val (.int p1), .val (.int p2), .val (.int p3), .val (.int p4), .val (.int p5), .val (.int kk), .val (.int to), .val (.int l0), .val (.int l1), .val (.int l2), .val (.int l3), .unset, .unset, .unset, .unset, .unset, .unset, .unset, .unset, .unset, .unset, .unset, .unset] [(.ref ar), (.ref ar)])) _
    refine XS.iconst X12.here hx rfl (hb hby at_81) ?_
    show Steps p.tables e below (T12.setTop (mkF m 82 #[.val (.int p1), .val (.int p2), .val (.int p3), .val (.int p4), .val (.int p5), .val (.int kk), .val (.int to), .val (.int l0), .val (.int l1), .val (.int l2), .val (.int l3), .unset, .unset, .unset, .unset, .unset, .unset, .unset, .unset, .unset, .unset, .unset, .unset] [(.int (1 : Int32)), (.ref ar), (.ref ar)])) _
    refine XS.iload X12.here hx rfl (hb hby at_82) rfl ?_
    show Steps p.tables e below (T12.setTop (mkF m 84 #[.val (.int p1), .val (.int p2), .val (.int p3), .val (.int p4), .val (.int p5), .val (.int kk), .val (.int to), .val (.int l0), .val (.int l1), .val (.int l2), .val (.int l3), .unset, .unset, .unset, .unset, .unset, .unset, .unset, .unset, .unset, .unset, .unset, .unset] [(.int l1), (.int (1 : Int32)), (.ref ar), (.ref ar)])) _
    exact k)
  obtain ⟨T16, h16, X16, e16, W16, st16⟩ := OwnArr.stIA X12 hx hZ e12 F13 (j := (1 : Int32)) (J := 1) (by decide) (by decide) (g := (mkF m 84 #[.val (.int p1), .val (.int p2), .val (.int p3), .val (.int p4), .val (.int p5), .val (.int kk), .val (.int to), .val (.int l0), .val (.int l1), .val (.int l2), .val (.int l3), .unset, .unset, .unset, .unset, .unset, .unset, .unset, .unset, .unset, .unset, .unset, .unset] [(.int l1), (.int (1 : Int32)), (.ref ar), (.ref ar)])) rfl rfl (hb hby at_84)
  have F17 : OwnArr.Ag Z h16 ar .int 4 (fun i => if i = 1 then (.int l1) else (fun i => if i = 0 then (.int l0) else (fun _ => (.int (0 : Int32))) i) i) := (F13.set W16)
  have N16 := Fr.snoc X16 N12 (Nat.le_trans Z0 (Nat.le_of_eq g8.symm))
  have c18 : ∀ t, Steps p.tables e below (T16.setTop (mkF m 85 #[.val (.int p1), .val (.int p2), .val (.int p3), .val (.int p4), .val (.int p5), .val (.int kk), .val (.int to), .val (.int l0), .val (.int l1), .val (.int l2), .val (.int l3), .unset, .unset, .unset, .unset, .unset, .unset, .unset, .unset, .unset, .unset, .unset, .unset] [(.ref ar)])) t → Steps p.tables e below (s₁.setTop (entryFrame m #[(.int p1), (.int p2), (.int p3), (.int p4), (.int p5)] maxLocals)) t := fun t k => c15 t (st16 _ k)
  have c19 : ∀ t, Steps p.tables e below (T16.setTop (mkF m 89 #[.val (.int p1), .val (.int p2), .val (.int p3), .val (.int p4), .val (.int p5), .val (.int kk), .val (.int to), .val (.int l0), .val (.int l1), .val (.int l2), .val (.int l3), .unset, .unset, .unset, .unset, .unset, .unset, .unset, .unset, .unset, .unset, .unset, .unset] [(.int l2), (.int (2 : Int32)), (.ref ar), (.ref ar)])) t → Steps p.tables e below (s₁.setTop (entryFrame m #[(.int p1), (.int p2), (.int p3), (.int p4), (.int p5)] maxLocals)) t := fun t k => c18 t (by
    show Steps p.tables e below (T16.setTop (mkF m 85 #[.val (.int p1), .val (.int p2), .val (.int p3), .val (.int p4), .val (.int p5), .val (.int kk), .val (.int to), .val (.int l0), .val (.int l1), .val (.int l2), .val (.int l3), .unset, .unset, .unset, .unset, .unset, .unset, .unset, .unset, .unset, .unset, .unset, .unset] [(.ref ar)])) _
    refine XS.dup X16.here hx rfl (hb hby at_85) rfl rfl ?_
    show Steps p.tables e below (T16.setTop (mkF m 86 #[.val (.int p1), .val (.int p2), .val (.int p3), .val (.int p4), .val (.int p5), .val (.int kk), .val (.int to), .val (.int l0), .val (.int l1), .val (.int l2), .val (.int l3), .unset, .unset, .unset, .unset, .unset, .unset, .unset, .unset, .unset, .unset, .unset, .unset] [(.ref ar), (.ref ar)])) _
    refine XS.iconst X16.here hx rfl (hb hby at_86) ?_
    show Steps p.tables e below (T16.setTop (mkF m 87 #[.val (.int p1), .val (.int p2), .val (.int p3), .val (.int p4), .val (.int p5), .val (.int kk), .val (.int to), .val (.int l0), .val (.int l1), .val (.int l2), .val (.int l3), .unset, .unset, .unset, .unset, .unset, .unset, .unset, .unset, .unset, .unset, .unset, .unset] [(.int (2 : Int32)), (.ref ar), (.ref ar)])) _
    refine XS.iload X16.here hx rfl (hb hby at_87) rfl ?_
    show Steps p.tables e below (T16.setTop (mkF m 89 #[.val (.int p1), .val (.int p2), .val (.int p3), .val (.int p4), .val (.int p5), .val (.int kk), .val (.int to), .val (.int l0), .val (.int l1), .val (.int l2), .val (.int l3), .unset, .unset, .unset, .unset, .unset, .unset, .unset, .unset, .unset, .unset, .unset, .unset] [(.int l2), (.int (2 : Int32)), (.ref ar), (.ref ar)])) _
    exact k)
  obtain ⟨T20, h20, X20, e20, W20, st20⟩ := OwnArr.stIA X16 hx hZ e16 F17 (j := (2 : Int32)) (J := 2) (by decide) (by decide) (g := (mkF m 89 #[.val (.int p1), .val (.int p2), .val (.int p3), .val (.int p4), .val (.int p5), .val (.int kk), .val (.int to), .val (.int l0), .val (.int l1), .val (.int l2), .val (.int l3), .unset, .unset, .unset, .unset, .unset, .unset, .unset, .unset, .unset, .unset, .unset, .unset] [(.int l2), (.int (2 : Int32)), (.ref ar), (.ref ar)])) rfl rfl (hb hby at_89)
  have F21 : OwnArr.Ag Z h20 ar .int 4 (fun i => if i = 2 then (.int l2) else (fun i => if i = 1 then (.int l1) else (fun i => if i = 0 then (.int l0) else (fun _ => (.int (0 : Int32))) i) i) i) := (F17.set W20)
  have N20 := Fr.snoc X20 N16 (Nat.le_trans Z0 (Nat.le_of_eq g8.symm))
  have c22 : ∀ t, Steps p.tables e below (T20.setTop (mkF m 90 #[.val (.int p1), .val (.int p2), .val (.int p3), .val (.int p4), .val (.int p5), .val (.int kk), .val (.int to), .val (.int l0), .val (.int l1), .val (.int l2), .val (.int l3), .unset, .unset, .unset, .unset, .unset, .unset, .unset, .unset, .unset, .unset, .unset, .unset] [(.ref ar)])) t → Steps p.tables e below (s₁.setTop (entryFrame m #[(.int p1), (.int p2), (.int p3), (.int p4), (.int p5)] maxLocals)) t := fun t k => c19 t (st20 _ k)
  have c23 : ∀ t, Steps p.tables e below (T20.setTop (mkF m 94 #[.val (.int p1), .val (.int p2), .val (.int p3), .val (.int p4), .val (.int p5), .val (.int kk), .val (.int to), .val (.int l0), .val (.int l1), .val (.int l2), .val (.int l3), .unset, .unset, .unset, .unset, .unset, .unset, .unset, .unset, .unset, .unset, .unset, .unset] [(.int l3), (.int (3 : Int32)), (.ref ar), (.ref ar)])) t → Steps p.tables e below (s₁.setTop (entryFrame m #[(.int p1), (.int p2), (.int p3), (.int p4), (.int p5)] maxLocals)) t := fun t k => c22 t (by
    show Steps p.tables e below (T20.setTop (mkF m 90 #[.val (.int p1), .val (.int p2), .val (.int p3), .val (.int p4), .val (.int p5), .val (.int kk), .val (.int to), .val (.int l0), .val (.int l1), .val (.int l2), .val (.int l3), .unset, .unset, .unset, .unset, .unset, .unset, .unset, .unset, .unset, .unset, .unset, .unset] [(.ref ar)])) _
    refine XS.dup X20.here hx rfl (hb hby at_90) rfl rfl ?_
    show Steps p.tables e below (T20.setTop (mkF m 91 #[.val (.int p1), .val (.int p2), .val (.int p3), .val (.int p4), .val (.int p5), .val (.int kk), .val (.int to), .val (.int l0), .val (.int l1), .val (.int l2), .val (.int l3), .unset, .unset, .unset, .unset, .unset, .unset, .unset, .unset, .unset, .unset, .unset, .unset] [(.ref ar), (.ref ar)])) _
    refine XS.iconst X20.here hx rfl (hb hby at_91) ?_
    show Steps p.tables e below (T20.setTop (mkF m 92 #[.val (.int p1), .val (.int p2), .val (.int p3), .val (.int p4), .val (.int p5), .val (.int kk), .val (.int to), .val (.int l0), .val (.int l1), .val (.int l2), .val (.int l3), .unset, .unset, .unset, .unset, .unset, .unset, .unset, .unset, .unset, .unset, .unset, .unset] [(.int (3 : Int32)), (.ref ar), (.ref ar)])) _
    refine XS.iload X20.here hx rfl (hb hby at_92) rfl ?_
    show Steps p.tables e below (T20.setTop (mkF m 94 #[.val (.int p1), .val (.int p2), .val (.int p3), .val (.int p4), .val (.int p5), .val (.int kk), .val (.int to), .val (.int l0), .val (.int l1), .val (.int l2), .val (.int l3), .unset, .unset, .unset, .unset, .unset, .unset, .unset, .unset, .unset, .unset, .unset, .unset] [(.int l3), (.int (3 : Int32)), (.ref ar), (.ref ar)])) _
    exact k)
  obtain ⟨T24, h24, X24, e24, W24, st24⟩ := OwnArr.stIA X20 hx hZ e20 F21 (j := (3 : Int32)) (J := 3) (by decide) (by decide) (g := (mkF m 94 #[.val (.int p1), .val (.int p2), .val (.int p3), .val (.int p4), .val (.int p5), .val (.int kk), .val (.int to), .val (.int l0), .val (.int l1), .val (.int l2), .val (.int l3), .unset, .unset, .unset, .unset, .unset, .unset, .unset, .unset, .unset, .unset, .unset, .unset] [(.int l3), (.int (3 : Int32)), (.ref ar), (.ref ar)])) rfl rfl (hb hby at_94)
  have F25 : OwnArr.Ag Z h24 ar .int 4 (fun i => if i = 3 then (.int l3) else (fun i => if i = 2 then (.int l2) else (fun i => if i = 1 then (.int l1) else (fun i => if i = 0 then (.int l0) else (fun _ => (.int (0 : Int32))) i) i) i) i) := (F21.set W24)
  have N24 := Fr.snoc X24 N20 (Nat.le_trans Z0 (Nat.le_of_eq g8.symm))
  have c26 : ∀ t, Steps p.tables e below (T24.setTop (mkF m 95 #[.val (.int p1), .val (.int p2), .val (.int p3), .val (.int p4), .val (.int p5), .val (.int kk), .val (.int to), .val (.int l0), .val (.int l1), .val (.int l2), .val (.int l3), .unset, .unset, .unset, .unset, .unset, .unset, .unset, .unset, .unset, .unset, .unset, .unset] [(.ref ar)])) t → Steps p.tables e below (s₁.setTop (entryFrame m #[(.int p1), (.int p2), (.int p3), (.int p4), (.int p5)] maxLocals)) t := fun t k => c23 t (st24 _ k)
  obtain ⟨pg, hpg⟩ : ∃ v : Int32, v = (p5 &&& (3 : Int32)) := ⟨_, rfl⟩
  have c27 : ∀ t, Steps p.tables e below (T24.setTop (mkF m 103 #[.val (.int p1), .val (.int p2), .val (.int p3), .val (.int p4), .val (.int p5), .val (.int kk), .val (.int to), .val (.int l0), .val (.int l1), .val (.int l2), .val (.int l3), .val (.ref ar), .val (.int pg), .unset, .unset, .unset, .unset, .unset, .unset, .unset, .unset, .unset, .unset] [])) t → Steps p.tables e below (s₁.setTop (entryFrame m #[(.int p1), (.int p2), (.int p3), (.int p4), (.int p5)] maxLocals)) t := fun t k => c26 t (by
    rw [hpg] at k
    show Steps p.tables e below (T24.setTop (mkF m 95 #[.val (.int p1), .val (.int p2), .val (.int p3), .val (.int p4), .val (.int p5), .val (.int kk), .val (.int to), .val (.int l0), .val (.int l1), .val (.int l2), .val (.int l3), .unset, .unset, .unset, .unset, .unset, .unset, .unset, .unset, .unset, .unset, .unset, .unset] [(.ref ar)])) _
    refine XS.astore X24.here hx rfl (hb hby at_95) rfl rfl (l' := #[.val (.int p1), .val (.int p2), .val (.int p3), .val (.int p4), .val (.int p5), .val (.int kk), .val (.int to), .val (.int l0), .val (.int l1), .val (.int l2), .val (.int l3), .val (.ref ar), .unset, .unset, .unset, .unset, .unset, .unset, .unset, .unset, .unset, .unset, .unset]) rfl ?_
    show Steps p.tables e below (T24.setTop (mkF m 97 #[.val (.int p1), .val (.int p2), .val (.int p3), .val (.int p4), .val (.int p5), .val (.int kk), .val (.int to), .val (.int l0), .val (.int l1), .val (.int l2), .val (.int l3), .val (.ref ar), .unset, .unset, .unset, .unset, .unset, .unset, .unset, .unset, .unset, .unset, .unset] [])) _
    refine XS.iload X24.here hx rfl (hb hby at_97) rfl ?_
    show Steps p.tables e below (T24.setTop (mkF m 99 #[.val (.int p1), .val (.int p2), .val (.int p3), .val (.int p4), .val (.int p5), .val (.int kk), .val (.int to), .val (.int l0), .val (.int l1), .val (.int l2), .val (.int l3), .val (.ref ar), .unset, .unset, .unset, .unset, .unset, .unset, .unset, .unset, .unset, .unset, .unset] [(.int p5)])) _
    refine XS.iconst X24.here hx rfl (hb hby at_99) ?_
    show Steps p.tables e below (T24.setTop (mkF m 100 #[.val (.int p1), .val (.int p2), .val (.int p3), .val (.int p4), .val (.int p5), .val (.int kk), .val (.int to), .val (.int l0), .val (.int l1), .val (.int l2), .val (.int l3), .val (.ref ar), .unset, .unset, .unset, .unset, .unset, .unset, .unset, .unset, .unset, .unset, .unset] [(.int (3 : Int32)), (.int p5)])) _
    refine XS.iand X24.here hx rfl (hb hby at_100) rfl ?_
    show Steps p.tables e below (T24.setTop (mkF m 101 #[.val (.int p1), .val (.int p2), .val (.int p3), .val (.int p4), .val (.int p5), .val (.int kk), .val (.int to), .val (.int l0), .val (.int l1), .val (.int l2), .val (.int l3), .val (.ref ar), .unset, .unset, .unset, .unset, .unset, .unset, .unset, .unset, .unset, .unset, .unset] [(.int (p5 &&& (3 : Int32)))])) _
    refine XS.istore X24.here hx rfl (hb hby at_101) rfl (l' := #[.val (.int p1), .val (.int p2), .val (.int p3), .val (.int p4), .val (.int p5), .val (.int kk), .val (.int to), .val (.int l0), .val (.int l1), .val (.int l2), .val (.int l3), .val (.ref ar), .val (.int (p5 &&& (3 : Int32))), .unset, .unset, .unset, .unset, .unset, .unset, .unset, .unset, .unset, .unset]) rfl ?_
    show Steps p.tables e below (T24.setTop (mkF m 103 #[.val (.int p1), .val (.int p2), .val (.int p3), .val (.int p4), .val (.int p5), .val (.int kk), .val (.int to), .val (.int l0), .val (.int l1), .val (.int l2), .val (.int l3), .val (.ref ar), .val (.int (p5 &&& (3 : Int32))), .unset, .unset, .unset, .unset, .unset, .unset, .unset, .unset, .unset, .unset] [])) _
    exact k)
  obtain ⟨ls, hls⟩ : ∃ f : Nat → Int32, f = fun i => if i = 0 then l0 else if i = 1 then l1 else if i = 2 then l2 else l3 := ⟨_, rfl⟩
  have pg1 := Kit.i32_mask p5 3 (k := 2) (by decide) (by decide)
  rw [← hpg] at pg1
  obtain ⟨G, hG⟩ : ∃ G : Nat, pg.toInt = (G : Int) := ⟨pg.toInt.toNat, by omega⟩
  have hG4 : G < 4 := by omega
  have AX : OwnArr.Ag Z h24 ar .int 4 (fun i => .int (ls i)) := F25.congr (fun j hj => by
    rw [hls]
    match j, hj with
    | 0, _ => rfl
    | 1, _ => rfl
    | 2, _ => rfl
    | 3, _ => rfl)
  have hlb : ∀ G, G < 4 → 0 ≤ (ls G).toInt ∧ (ls G).toInt ≤ 2 ^ 30 := fun G hG => by
    rw [hls]
    match G, hG with
    | 0, _ => show 0 ≤ l0.toInt ∧ l0.toInt ≤ _; omega
    | 1, _ => show 0 ≤ l1.toInt ∧ l1.toInt ≤ _; omega
    | 2, _ => show 0 ≤ l2.toInt ∧ l2.toInt ≤ _; omega
    | 3, _ => show 0 ≤ l3.toInt ∧ l3.toInt ≤ _; omega
  have lb := hlb G hG4
  have sm : (((((0 : Int64) + (ls 0).toInt64) + (ls 1).toInt64) + (ls 2).toInt64) + (ls 3).toInt64).toInt = 4 * 2 ^ K.val := by
    rw [sum_k, hls]
    show l0.toInt + l1.toInt + l2.toInt + l3.toInt = _
    have e : ((2 ^ (K.val + 2) : Nat) : Int) = 4 * 2 ^ K.val := by rw [pK.2.2, Int.natCast_mul, Int.natCast_pow]; rfl
    omega
  obtain ⟨pav, m1, q1, pr, hav, hm1, hq1, hpr, nav, nm1, nq1, npr, Dp⟩ := norm_k (K := K.val) (by have := K.isLt; omega) lb.1 lb.2 sm
  have c28 : ∀ t, Steps p.tables e below (T24.setTop (mkF m 110 #[.val (.int p1), .val (.int p2), .val (.int p3), .val (.int p4), .val (.int p5), .val (.int kk), .val (.int to), .val (.int l0), .val (.int l1), .val (.int l2), .val (.int l3), .val (.ref ar), .val (.int pg), .val (.int (ls G)), .unset, .unset, .unset, .unset, .unset, .unset, .unset, .unset, .unset] [])) t → Steps p.tables e below (s₁.setTop (entryFrame m #[(.int p1), (.int p2), (.int p3), (.int p4), (.int p5)] maxLocals)) t := fun t k => c27 t (by
    show Steps p.tables e below (T24.setTop (mkF m 103 #[.val (.int p1), .val (.int p2), .val (.int p3), .val (.int p4), .val (.int p5), .val (.int kk), .val (.int to), .val (.int l0), .val (.int l1), .val (.int l2), .val (.int l3), .val (.ref ar), .val (.int pg), .unset, .unset, .unset, .unset, .unset, .unset, .unset, .unset, .unset, .unset] [])) _
    refine XS.aload X24.here hx rfl (hb hby at_103) rfl rfl ?_
    show Steps p.tables e below (T24.setTop (mkF m 105 #[.val (.int p1), .val (.int p2), .val (.int p3), .val (.int p4), .val (.int p5), .val (.int kk), .val (.int to), .val (.int l0), .val (.int l1), .val (.int l2), .val (.int l3), .val (.ref ar), .val (.int pg), .unset, .unset, .unset, .unset, .unset, .unset, .unset, .unset, .unset, .unset] [(.ref ar)])) _
    refine XS.iload X24.here hx rfl (hb hby at_105) rfl ?_
    show Steps p.tables e below (T24.setTop (mkF m 107 #[.val (.int p1), .val (.int p2), .val (.int p3), .val (.int p4), .val (.int p5), .val (.int kk), .val (.int to), .val (.int l0), .val (.int l1), .val (.int l2), .val (.int l3), .val (.ref ar), .val (.int pg), .unset, .unset, .unset, .unset, .unset, .unset, .unset, .unset, .unset, .unset] [(.int pg), (.ref ar)])) _
    refine OwnArr.ldI X24 hx hZ e24 AX (j := pg) (J := G) hG hG4 (x := (ls G)) rfl (g := (mkF m 107 #[.val (.int p1), .val (.int p2), .val (.int p3), .val (.int p4), .val (.int p5), .val (.int kk), .val (.int to), .val (.int l0), .val (.int l1), .val (.int l2), .val (.int l3), .val (.ref ar), .val (.int pg), .unset, .unset, .unset, .unset, .unset, .unset, .unset, .unset, .unset, .unset] [(.int pg), (.ref ar)])) rfl rfl (hb hby at_107) ?_
    show Steps p.tables e below (T24.setTop (mkF m 108 #[.val (.int p1), .val (.int p2), .val (.int p3), .val (.int p4), .val (.int p5), .val (.int kk), .val (.int to), .val (.int l0), .val (.int l1), .val (.int l2), .val (.int l3), .val (.ref ar), .val (.int pg), .unset, .unset, .unset, .unset, .unset, .unset, .unset, .unset, .unset, .unset] [(.int (ls G))])) _
    refine XS.istore X24.here hx rfl (hb hby at_108) rfl (l' := #[.val (.int p1), .val (.int p2), .val (.int p3), .val (.int p4), .val (.int p5), .val (.int kk), .val (.int to), .val (.int l0), .val (.int l1), .val (.int l2), .val (.int l3), .val (.ref ar), .val (.int pg), .val (.int (ls G)), .unset, .unset, .unset, .unset, .unset, .unset, .unset, .unset, .unset]) rfl ?_
    show Steps p.tables e below (T24.setTop (mkF m 110 #[.val (.int p1), .val (.int p2), .val (.int p3), .val (.int p4), .val (.int p5), .val (.int kk), .val (.int to), .val (.int l0), .val (.int l1), .val (.int l2), .val (.int l3), .val (.ref ar), .val (.int pg), .val (.int (ls G)), .unset, .unset, .unset, .unset, .unset, .unset, .unset, .unset, .unset] [])) _
    exact k)
  obtain ⟨T29, h29, X29, e29, E29, A29, D29, -, st29⟩ := newO X24 hx hZ hown (hw _ (List.mem_of_getElem? (i := 2) rfl)) (hw _ (List.mem_of_getElem? (i := 3) rfl)) (hw _ (List.mem_of_getElem? (i := 4) rfl)) e24 (g := (mkF m 110 #[.val (.int p1), .val (.int p2), .val (.int p3), .val (.int p4), .val (.int p5), .val (.int kk), .val (.int to), .val (.int l0), .val (.int l1), .val (.int l2), .val (.int l3), .val (.ref ar), .val (.int pg), .val (.int (ls G)), .unset, .unset, .unset, .unset, .unset, .unset, .unset, .unset, .unset] [])) rfl (hb hby at_110) (by decide) (by decide)
  obtain ⟨ob, g29⟩ : ∃ z, z = h24.size := ⟨_, rfl⟩
  rw [← g29] at A29 D29 st29
  have F30 : OwnArr.Ag Z h29 ar .int 4 (fun i => .int (ls i)) := (AX.ext E29)
  have F31 : Fld Z h29 ob "com/example/rival_tongues/rivaltongues/engine/Field" "lengths" "[I" .null := (D29 (Or.inr (hw _ (List.mem_of_getElem? (i := 12) rfl))) (ty := (.array .int)) (by decide))
  have F32 : Fld Z h29 ob "com/example/rival_tongues/rivaltongues/engine/Field" "postings" "Ljava/util/Map;" .null := (D29 (Or.inr (hw _ (List.mem_of_getElem? (i := 14) rfl))) (ty := (.object "java/util/Map")) (by decide))
  have F33 : Fld Z h29 ob "com/example/rival_tongues/rivaltongues/engine/Field" "averageLength" "D" (.double (0 : UInt64)) := (D29 (Or.inr (hw _ (List.mem_of_getElem? (i := 16) rfl))) (ty := .double) (by decide))
  have c34 : ∀ t, Steps p.tables e below (T29.setTop (mkF m 113 #[.val (.int p1), .val (.int p2), .val (.int p3), .val (.int p4), .val (.int p5), .val (.int kk), .val (.int to), .val (.int l0), .val (.int l1), .val (.int l2), .val (.int l3), .val (.ref ar), .val (.int pg), .val (.int (ls G)), .unset, .unset, .unset, .unset, .unset, .unset, .unset, .unset, .unset] [(.ref ob)])) t → Steps p.tables e below (s₁.setTop (entryFrame m #[(.int p1), (.int p2), (.int p3), (.int p4), (.int p5)] maxLocals)) t := fun t k => c28 t (st29 _ k)
  have c35 : ∀ t, Steps p.tables e below (T29.setTop (mkF m 117 #[.val (.int p1), .val (.int p2), .val (.int p3), .val (.int p4), .val (.int p5), .val (.int kk), .val (.int to), .val (.int l0), .val (.int l1), .val (.int l2), .val (.int l3), .val (.ref ar), .val (.int pg), .val (.int (ls G)), .unset, .unset, .unset, .unset, .unset, .unset, .unset, .unset, .unset] [.null, (.ref ar), (.ref ob), (.ref ob)])) t → Steps p.tables e below (s₁.setTop (entryFrame m #[(.int p1), (.int p2), (.int p3), (.int p4), (.int p5)] maxLocals)) t := fun t k => c34 t (by
    show Steps p.tables e below (T29.setTop (mkF m 113 #[.val (.int p1), .val (.int p2), .val (.int p3), .val (.int p4), .val (.int p5), .val (.int kk), .val (.int to), .val (.int l0), .val (.int l1), .val (.int l2), .val (.int l3), .val (.ref ar), .val (.int pg), .val (.int (ls G)), .unset, .unset, .unset, .unset, .unset, .unset, .unset, .unset, .unset] [(.ref ob)])) _
    refine XS.dup X29.here hx rfl (hb hby at_113) rfl rfl ?_
    show Steps p.tables e below (T29.setTop (mkF m 114 #[.val (.int p1), .val (.int p2), .val (.int p3), .val (.int p4), .val (.int p5), .val (.int kk), .val (.int to), .val (.int l0), .val (.int l1), .val (.int l2), .val (.int l3), .val (.ref ar), .val (.int pg), .val (.int (ls G)), .unset, .unset, .unset, .unset, .unset, .unset, .unset, .unset, .unset] [(.ref ob), (.ref ob)])) _
    refine XS.aload X29.here hx rfl (hb hby at_114) rfl rfl ?_
    show Steps p.tables e below (T29.setTop (mkF m 116 #[.val (.int p1), .val (.int p2), .val (.int p3), .val (.int p4), .val (.int p5), .val (.int kk), .val (.int to), .val (.int l0), .val (.int l1), .val (.int l2), .val (.int l3), .val (.ref ar), .val (.int pg), .val (.int (ls G)), .unset, .unset, .unset, .unset, .unset, .unset, .unset, .unset, .unset] [(.ref ar), (.ref ob), (.ref ob)])) _
    refine XS.aconstNull X29.here hx rfl (hb hby at_116) ?_
    show Steps p.tables e below (T29.setTop (mkF m 117 #[.val (.int p1), .val (.int p2), .val (.int p3), .val (.int p4), .val (.int p5), .val (.int kk), .val (.int to), .val (.int l0), .val (.int l1), .val (.int l2), .val (.int l3), .val (.ref ar), .val (.int pg), .val (.int (ls G)), .unset, .unset, .unset, .unset, .unset, .unset, .unset, .unset, .unset] [.null, (.ref ar), (.ref ob), (.ref ob)])) _
    exact k)
  obtain ⟨_, _, ⟨T36, L36, k36', n36⟩, -, X36, ⟨Lc36, hQ36, l36, y36, z36⟩, st36⟩ := X29.specialBack hx (y := (⟨"com/example/rival_tongues/rivaltongues/engine/Field", "<init>", "([ILjava/util/Map;)V"⟩ : MethodName)) rfl hown (mvT hZ (hw _ (List.mem_of_getElem? (i := 5) rfl))) (mvT hZ (hw _ (List.mem_of_getElem? (i := 6) rfl))) (mvT hZ (hw _ (List.mem_of_getElem? (i := 7) rfl))) (by decide) (backOf (W := 1) (rm_1 l Z a0 hw [] ob ar pav ls h29 n0 (Nat.le_trans (Nat.le_trans (Nat.le_trans (Nat.le_trans (Nat.le_trans (Nat.le_trans Z0 E8.1) (Keep.of_wr W12).1) (Keep.of_wr W16).1) (Keep.of_wr W20).1) (Keep.of_wr W24).1) E29.1) A29 F31 F32 F33 (Nat.le_trans (Nat.le_trans (Nat.le_trans (Nat.le_trans (Nat.le_trans (Nat.le_trans Z0 E8.1) (Keep.of_wr W12).1) (Keep.of_wr W16).1) (Keep.of_wr W20).1) (Keep.of_wr W24).1) (Nat.le_of_eq g29.symm)) F30 (Nat.ne_of_lt (Nat.lt_of_lt_of_le AX.lt (Nat.le_of_eq g29.symm))) hav nav) hZ (hw _ (List.mem_of_getElem? (i := 7) rfl)) (hw _ (List.mem_of_getElem? (i := 4) rfl)) (by decide) (by decide)) (g := (mkF m 117 #[.val (.int p1), .val (.int p2), .val (.int p3), .val (.int p4), .val (.int p5), .val (.int kk), .val (.int to), .val (.int l0), .val (.int l1), .val (.int l2), .val (.int l3), .val (.ref ar), .val (.int pg), .val (.int (ls G)), .unset, .unset, .unset, .unset, .unset, .unset, .unset, .unset, .unset] [.null, (.ref ar), (.ref ob), (.ref ob)])) rfl (by rw [hml]; rfl) (Steps.refl _) (a := ob) (argsL := [(.ref ar), .null]) (rest := [(.ref ob)]) (lenOf pd___ILjava_util_Map__V rfl) rfl (by show 2 * 0 + _ ≤ _; exact Nat.le_of_eq rfl) (hb hby at_117) (fun _ _ => ⟨rfl, e29, (by decide : 2 + 0 ≤ _), (by decide : 7 + 0 ≤ _)⟩)
  dsimp only [Pt.U, Pt.locs, Pt.cells, Pt.slots] at X36 l36 y36 z36 st36 hQ36
  subst l36 y36 z36
  obtain ⟨rfl, N36, K36, G36_0, G36_1, G36_2, G36_3⟩ := hQ36
  have M36 := Fr.app N24 N36
  have F37 : OwnArr.Ag Z T36.heap ar .int 4 (fun i => .int (ls i)) := (F30.keep K36 (ninS (Nat.ne_of_lt (Nat.lt_of_lt_of_le AX.lt (Nat.le_of_eq g29.symm))) nin0))
  have F38 : Exa Z T36.heap ob "com/example/rival_tongues/rivaltongues/engine/Field" := (A29.keep K36)
  have c39 : ∀ t, Steps p.tables e below (T36.setTop (mkF m 120 #[.val (.int p1), .val (.int p2), .val (.int p3), .val (.int p4), .val (.int p5), .val (.int kk), .val (.int to), .val (.int l0), .val (.int l1), .val (.int l2), .val (.int l3), .val (.ref ar), .val (.int pg), .val (.int (ls G)), .unset, .unset, .unset, .unset, .unset, .unset, .unset, .unset, .unset] [(.ref ob)])) t → Steps p.tables e below (s₁.setTop (entryFrame m #[(.int p1), (.int p2), (.int p3), (.int p4), (.int p5)] maxLocals)) t := fun t k => c35 t (st36.trans k)
  have c40 : ∀ t, Steps p.tables e below (T36.setTop (mkF m 126 #[.val (.int p1), .val (.int p2), .val (.int p3), .val (.int p4), .val (.int p5), .val (.int kk), .val (.int to), .val (.int l0), .val (.int l1), .val (.int l2), .val (.int l3), .val (.ref ar), .val (.int pg), .val (.int (ls G)), .val (.ref ob), .unset, .unset, .unset, .unset, .unset, .unset, .unset, .unset] [(.int pg), (.ref ob)])) t → Steps p.tables e below (s₁.setTop (entryFrame m #[(.int p1), (.int p2), (.int p3), (.int p4), (.int p5)] maxLocals)) t := fun t k => c39 t (by
    show Steps p.tables e below (T36.setTop (mkF m 120 #[.val (.int p1), .val (.int p2), .val (.int p3), .val (.int p4), .val (.int p5), .val (.int kk), .val (.int to), .val (.int l0), .val (.int l1), .val (.int l2), .val (.int l3), .val (.ref ar), .val (.int pg), .val (.int (ls G)), .unset, .unset, .unset, .unset, .unset, .unset, .unset, .unset, .unset] [(.ref ob)])) _
    refine XS.astore X36.here hx rfl (hb hby at_120) rfl rfl (l' := #[.val (.int p1), .val (.int p2), .val (.int p3), .val (.int p4), .val (.int p5), .val (.int kk), .val (.int to), .val (.int l0), .val (.int l1), .val (.int l2), .val (.int l3), .val (.ref ar), .val (.int pg), .val (.int (ls G)), .val (.ref ob), .unset, .unset, .unset, .unset, .unset, .unset, .unset, .unset]) rfl ?_
    show Steps p.tables e below (T36.setTop (mkF m 122 #[.val (.int p1), .val (.int p2), .val (.int p3), .val (.int p4), .val (.int p5), .val (.int kk), .val (.int to), .val (.int l0), .val (.int l1), .val (.int l2), .val (.int l3), .val (.ref ar), .val (.int pg), .val (.int (ls G)), .val (.ref ob), .unset, .unset, .unset, .unset, .unset, .unset, .unset, .unset] [])) _
    refine XS.aload X36.here hx rfl (hb hby at_122) rfl rfl ?_
    show Steps p.tables e below (T36.setTop (mkF m 124 #[.val (.int p1), .val (.int p2), .val (.int p3), .val (.int p4), .val (.int p5), .val (.int kk), .val (.int to), .val (.int l0), .val (.int l1), .val (.int l2), .val (.int l3), .val (.ref ar), .val (.int pg), .val (.int (ls G)), .val (.ref ob), .unset, .unset, .unset, .unset, .unset, .unset, .unset, .unset] [(.ref ob)])) _
    refine XS.iload X36.here hx rfl (hb hby at_124) rfl ?_
    show Steps p.tables e below (T36.setTop (mkF m 126 #[.val (.int p1), .val (.int p2), .val (.int p3), .val (.int p4), .val (.int p5), .val (.int kk), .val (.int to), .val (.int l0), .val (.int l1), .val (.int l2), .val (.int l3), .val (.ref ar), .val (.int pg), .val (.int (ls G)), .val (.ref ob), .unset, .unset, .unset, .unset, .unset, .unset, .unset, .unset] [(.int pg), (.ref ob)])) _
    exact k)
  obtain ⟨_, _, ⟨T41, L41, k41', n41⟩, -, X41, ⟨Lc41, hQ41, l41, y41, z41⟩, st41⟩ := Jvm.LawKit.callS X36 hx (y := (⟨"com/example/rival_tongues/rivaltongues/engine/Bm25", "lengthNorm", "(Lcom/example/rival_tongues/rivaltongues/engine/Field;I)D"⟩ : MethodName)) hown (mvT hZ (hw _ (List.mem_of_getElem? (i := 17) rfl))) (mvT hZ (hw _ (List.mem_of_getElem? (i := 18) rfl))) (mvT hZ (hw _ (List.mem_of_getElem? (i := 19) rfl))) (mvT hZ (hw _ (List.mem_of_getElem? (i := 20) rfl))) (by decide) (backOf (W := 0) (rm_3 l Z a0 hw [] ob pg ar pav m1 q1 pr ls G T36.heap n0 (Nat.le_trans (Nat.le_trans (Nat.le_trans (Nat.le_trans (Nat.le_trans (Nat.le_trans (Nat.le_trans Z0 E8.1) (Keep.of_wr W12).1) (Keep.of_wr W16).1) (Keep.of_wr W20).1) (Keep.of_wr W24).1) E29.1) K36.1) G36_0 G36_1 G36_3 F37 hG hG4 hm1 hq1 hpr nm1 nq1 npr) hZ (hw _ (List.mem_of_getElem? (i := 20) rfl)) (hw _ (List.mem_of_getElem? (i := 19) rfl)) (by decide) (by decide)) (g := (mkF m 126 #[.val (.int p1), .val (.int p2), .val (.int p3), .val (.int p4), .val (.int p5), .val (.int kk), .val (.int to), .val (.int l0), .val (.int l1), .val (.int l2), .val (.int l3), .val (.ref ar), .val (.int pg), .val (.int (ls G)), .val (.ref ob), .unset, .unset, .unset, .unset, .unset, .unset, .unset, .unset] [(.int pg), (.ref ob)])) rfl (by rw [hml]; rfl) (argsL := [(.ref ob), (.int pg)]) (rest := []) (lenOf pd__Lcom_example_rival_tongues_rivaltongues_engine_Field_I_D rfl) rfl (by show 2 * 0 + _ ≤ _; exact Nat.le_of_eq rfl) (hb hby at_126) (fun _ _ => ⟨rfl, rfl, (by decide : 2 + 0 ≤ _), (by decide : 7 + 0 ≤ _)⟩)
  dsimp only [Pt.U, Pt.locs, Pt.cells, Pt.slots] at X41 l41 y41 z41 st41 hQ41
  subst l41 y41 z41
  obtain ⟨rfl, N41, e41⟩ := hQ41
  have M41 := Fr.app M36 N41
  have c42 : ∀ t, Steps p.tables e below (T41.setTop (mkF m 129 #[.val (.int p1), .val (.int p2), .val (.int p3), .val (.int p4), .val (.int p5), .val (.int kk), .val (.int to), .val (.int l0), .val (.int l1), .val (.int l2), .val (.int l3), .val (.ref ar), .val (.int pg), .val (.int (ls G)), .val (.ref ob), .unset, .unset, .unset, .unset, .unset, .unset, .unset, .unset] [(.double pr)])) t → Steps p.tables e below (s₁.setTop (entryFrame m #[(.int p1), (.int p2), (.int p3), (.int p4), (.int p5)] maxLocals)) t := fun t k => c40 t (st41 _ k)
  obtain ⟨avl, havl⟩ : ∃ v : Int64, v = ((1 : Int64) <<< (kk.toInt64 &&& 63)) := ⟨_, rfl⟩
  have c43 : ∀ t, Steps p.tables e below (T41.setTop (mkF m 137 #[.val (.int p1), .val (.int p2), .val (.int p3), .val (.int p4), .val (.int p5), .val (.int kk), .val (.int to), .val (.int l0), .val (.int l1), .val (.int l2), .val (.int l3), .val (.ref ar), .val (.int pg), .val (.int (ls G)), .val (.ref ob), .val (.double pr), .second, .val (.long avl), .second, .unset, .unset, .unset, .unset] [])) t → Steps p.tables e below (s₁.setTop (entryFrame m #[(.int p1), (.int p2), (.int p3), (.int p4), (.int p5)] maxLocals)) t := fun t k => c42 t (by
    rw [havl] at k
    show Steps p.tables e below (T41.setTop (mkF m 129 #[.val (.int p1), .val (.int p2), .val (.int p3), .val (.int p4), .val (.int p5), .val (.int kk), .val (.int to), .val (.int l0), .val (.int l1), .val (.int l2), .val (.int l3), .val (.ref ar), .val (.int pg), .val (.int (ls G)), .val (.ref ob), .unset, .unset, .unset, .unset, .unset, .unset, .unset, .unset] [(.double pr)])) _
    refine XS.dstore X41.here hx rfl (hb hby at_129) rfl (l' := #[.val (.int p1), .val (.int p2), .val (.int p3), .val (.int p4), .val (.int p5), .val (.int kk), .val (.int to), .val (.int l0), .val (.int l1), .val (.int l2), .val (.int l3), .val (.ref ar), .val (.int pg), .val (.int (ls G)), .val (.ref ob), .val (.double pr), .second, .unset, .unset, .unset, .unset, .unset, .unset]) rfl ?_
    show Steps p.tables e below (T41.setTop (mkF m 131 #[.val (.int p1), .val (.int p2), .val (.int p3), .val (.int p4), .val (.int p5), .val (.int kk), .val (.int to), .val (.int l0), .val (.int l1), .val (.int l2), .val (.int l3), .val (.ref ar), .val (.int pg), .val (.int (ls G)), .val (.ref ob), .val (.double pr), .second, .unset, .unset, .unset, .unset, .unset, .unset] [])) _
    refine XT.lconst X41.here hx rfl (hb hby at_131) ?_
    show Steps p.tables e below (T41.setTop (mkF m 132 #[.val (.int p1), .val (.int p2), .val (.int p3), .val (.int p4), .val (.int p5), .val (.int kk), .val (.int to), .val (.int l0), .val (.int l1), .val (.int l2), .val (.int l3), .val (.ref ar), .val (.int pg), .val (.int (ls G)), .val (.ref ob), .val (.double pr), .second, .unset, .unset, .unset, .unset, .unset, .unset] [(.long (1 : Int64))])) _
    refine XS.iload X41.here hx rfl (hb hby at_132) rfl ?_
    show Steps p.tables e below (T41.setTop (mkF m 134 #[.val (.int p1), .val (.int p2), .val (.int p3), .val (.int p4), .val (.int p5), .val (.int kk), .val (.int to), .val (.int l0), .val (.int l1), .val (.int l2), .val (.int l3), .val (.ref ar), .val (.int pg), .val (.int (ls G)), .val (.ref ob), .val (.double pr), .second, .unset, .unset, .unset, .unset, .unset, .unset] [(.int kk), (.long (1 : Int64))])) _
    refine XT.lshl X41.here hx rfl (hb hby at_134) rfl ?_
    show Steps p.tables e below (T41.setTop (mkF m 135 #[.val (.int p1), .val (.int p2), .val (.int p3), .val (.int p4), .val (.int p5), .val (.int kk), .val (.int to), .val (.int l0), .val (.int l1), .val (.int l2), .val (.int l3), .val (.ref ar), .val (.int pg), .val (.int (ls G)), .val (.ref ob), .val (.double pr), .second, .unset, .unset, .unset, .unset, .unset, .unset] [(.long ((1 : Int64) <<< (kk.toInt64 &&& 63)))])) _
    refine XT.lstore X41.here hx rfl (hb hby at_135) rfl (l' := #[.val (.int p1), .val (.int p2), .val (.int p3), .val (.int p4), .val (.int p5), .val (.int kk), .val (.int to), .val (.int l0), .val (.int l1), .val (.int l2), .val (.int l3), .val (.ref ar), .val (.int pg), .val (.int (ls G)), .val (.ref ob), .val (.double pr), .second, .val (.long ((1 : Int64) <<< (kk.toInt64 &&& 63))), .second, .unset, .unset, .unset, .unset]) rfl ?_
    show Steps p.tables e below (T41.setTop (mkF m 137 #[.val (.int p1), .val (.int p2), .val (.int p3), .val (.int p4), .val (.int p5), .val (.int kk), .val (.int to), .val (.int l0), .val (.int l1), .val (.int l2), .val (.int l3), .val (.ref ar), .val (.int pg), .val (.int (ls G)), .val (.ref ob), .val (.double pr), .second, .val (.long ((1 : Int64) <<< (kk.toInt64 &&& 63))), .second, .unset, .unset, .unset, .unset] [])) _
    exact k)
  have a1 : avl.toInt = ((2 ^ K.val : Nat) : Int) := by rw [havl, hK]; exact lshl_k K
  have a2 : ((2 ^ K.val : Nat) : Int) = 2 ^ K.val := by rw [Int.natCast_pow]; rfl
  obtain ⟨nu, hnu⟩ : ∃ v : Int64, v = (avl + ((3 : Int64) * ((ls G).toInt64))) := ⟨_, rfl⟩
  have c44 : ∀ t, Steps p.tables e below (T41.setTop (mkF m 149 #[.val (.int p1), .val (.int p2), .val (.int p3), .val (.int p4), .val (.int p5), .val (.int kk), .val (.int to), .val (.int l0), .val (.int l1), .val (.int l2), .val (.int l3), .val (.ref ar), .val (.int pg), .val (.int (ls G)), .val (.ref ob), .val (.double pr), .second, .val (.long avl), .second, .val (.long nu), .second, .unset, .unset] [])) t → Steps p.tables e below (s₁.setTop (entryFrame m #[(.int p1), (.int p2), (.int p3), (.int p4), (.int p5)] maxLocals)) t := fun t k => c43 t (by
    rw [hnu] at k
    show Steps p.tables e below (T41.setTop (mkF m 137 #[.val (.int p1), .val (.int p2), .val (.int p3), .val (.int p4), .val (.int p5), .val (.int kk), .val (.int to), .val (.int l0), .val (.int l1), .val (.int l2), .val (.int l3), .val (.ref ar), .val (.int pg), .val (.int (ls G)), .val (.ref ob), .val (.double pr), .second, .val (.long avl), .second, .unset, .unset, .unset, .unset] [])) _
    refine XT.lload X41.here hx rfl (hb hby at_137) rfl ?_
    show Steps p.tables e below (T41.setTop (mkF m 139 #[.val (.int p1), .val (.int p2), .val (.int p3), .val (.int p4), .val (.int p5), .val (.int kk), .val (.int to), .val (.int l0), .val (.int l1), .val (.int l2), .val (.int l3), .val (.ref ar), .val (.int pg), .val (.int (ls G)), .val (.ref ob), .val (.double pr), .second, .val (.long avl), .second, .unset, .unset, .unset, .unset] [(.long avl)])) _
    refine Jvm.Stand.ldc2J X41 hx hown (mvT hZ (hw _ (List.mem_of_getElem? (i := 33) rfl))) rfl (hb hby at_139) ?_
    show Steps p.tables e below (T41.setTop (mkF m 142 #[.val (.int p1), .val (.int p2), .val (.int p3), .val (.int p4), .val (.int p5), .val (.int kk), .val (.int to), .val (.int l0), .val (.int l1), .val (.int l2), .val (.int l3), .val (.ref ar), .val (.int pg), .val (.int (ls G)), .val (.ref ob), .val (.double pr), .second, .val (.long avl), .second, .unset, .unset, .unset, .unset] [(.long (3 : Int64)), (.long avl)])) _
    refine XS.iload X41.here hx rfl (hb hby at_142) rfl ?_
    show Steps p.tables e below (T41.setTop (mkF m 144 #[.val (.int p1), .val (.int p2), .val (.int p3), .val (.int p4), .val (.int p5), .val (.int kk), .val (.int to), .val (.int l0), .val (.int l1), .val (.int l2), .val (.int l3), .val (.ref ar), .val (.int pg), .val (.int (ls G)), .val (.ref ob), .val (.double pr), .second, .val (.long avl), .second, .unset, .unset, .unset, .unset] [(.int (ls G)), (.long (3 : Int64)), (.long avl)])) _
    refine XT.i2l X41.here hx rfl (hb hby at_144) rfl ?_
    show Steps p.tables e below (T41.setTop (mkF m 145 #[.val (.int p1), .val (.int p2), .val (.int p3), .val (.int p4), .val (.int p5), .val (.int kk), .val (.int to), .val (.int l0), .val (.int l1), .val (.int l2), .val (.int l3), .val (.ref ar), .val (.int pg), .val (.int (ls G)), .val (.ref ob), .val (.double pr), .second, .val (.long avl), .second, .unset, .unset, .unset, .unset] [(.long ((ls G).toInt64)), (.long (3 : Int64)), (.long avl)])) _
    refine XT.lmul X41.here hx rfl (hb hby at_145) rfl ?_
    show Steps p.tables e below (T41.setTop (mkF m 146 #[.val (.int p1), .val (.int p2), .val (.int p3), .val (.int p4), .val (.int p5), .val (.int kk), .val (.int to), .val (.int l0), .val (.int l1), .val (.int l2), .val (.int l3), .val (.ref ar), .val (.int pg), .val (.int (ls G)), .val (.ref ob), .val (.double pr), .second, .val (.long avl), .second, .unset, .unset, .unset, .unset] [(.long ((3 : Int64) * ((ls G).toInt64))), (.long avl)])) _
    refine XT.ladd X41.here hx rfl (hb hby at_146) rfl ?_
    show Steps p.tables e below (T41.setTop (mkF m 147 #[.val (.int p1), .val (.int p2), .val (.int p3), .val (.int p4), .val (.int p5), .val (.int kk), .val (.int to), .val (.int l0), .val (.int l1), .val (.int l2), .val (.int l3), .val (.ref ar), .val (.int pg), .val (.int (ls G)), .val (.ref ob), .val (.double pr), .second, .val (.long avl), .second, .unset, .unset, .unset, .unset] [(.long (avl + ((3 : Int64) * ((ls G).toInt64))))])) _
    refine XT.lstore X41.here hx rfl (hb hby at_147) rfl (l' := #[.val (.int p1), .val (.int p2), .val (.int p3), .val (.int p4), .val (.int p5), .val (.int kk), .val (.int to), .val (.int l0), .val (.int l1), .val (.int l2), .val (.int l3), .val (.ref ar), .val (.int pg), .val (.int (ls G)), .val (.ref ob), .val (.double pr), .second, .val (.long avl), .second, .val (.long (avl + ((3 : Int64) * ((ls G).toInt64)))), .second, .unset, .unset]) rfl ?_
    show Steps p.tables e below (T41.setTop (mkF m 149 #[.val (.int p1), .val (.int p2), .val (.int p3), .val (.int p4), .val (.int p5), .val (.int kk), .val (.int to), .val (.int l0), .val (.int l1), .val (.int l2), .val (.int l3), .val (.ref ar), .val (.int pg), .val (.int (ls G)), .val (.ref ob), .val (.double pr), .second, .val (.long avl), .second, .val (.long (avl + ((3 : Int64) * ((ls G).toInt64)))), .second, .unset, .unset] [])) _
    exact k)
  have u1 : nu.toInt = 2 ^ K.val + 3 * (ls G).toInt := by
    have e := Kit.i64_of_i32 (ls G)
    have e3 : (3 : Int64).toInt = 3 := by decide
    have m := Kit.i64_mul (x := 3) (y := (ls G).toInt64) (by rw [e3]; omega) (by rw [e3]; omega)
    rw [e3] at m
    rw [hnu, Kit.i64_add (by omega) (by omega)]; omega
  obtain ⟨d151, hd151⟩ : ∃ v : UInt64, FP.l2d nu = v := ⟨_, rfl⟩
  have D151 : DS (2 ^ K.val + 3 * (ls G).toInt) 0 d151 := u1 ▸ hd151 ▸ DS.l2d (by omega)
  obtain ⟨d158, hd158⟩ : ∃ v : UInt64, FP.l2d ((4 : Int64) * avl) = v := ⟨_, rfl⟩
  have D158 : DS (2 ^ (K.val + 2)) 0 d158 := by
    have e4 : (4 : Int64).toInt = 4 := by decide
    have m := Kit.i64_mul (x := 4) (y := avl) (by rw [e4]; omega) (by rw [e4]; omega)
    rw [e4] at m
    have e5 : ((4 : Int64) * avl).toInt = 2 ^ (K.val + 2) := by rw [m, Int.pow_add]; omega
    rw [← hd158, ← e5]; exact DS.l2d (by omega)
  obtain ⟨d159, hd159⟩ : ∃ v : UInt64, FP.ddiv d151 d158 = v := ⟨_, rfl⟩
  have D159 : DS (2 ^ K.val + 3 * (ls G).toInt) (K.val + 2) d159 := hd159 ▸ D151.div D158 (pow_pos _) (by simp) (by omega) (by have := K.isLt; omega)
  obtain ⟨k166, hk166⟩ : ∃ v : Int32, cmpValue (FP.dcmp pr d159) .l = v := ⟨_, rfl⟩
  have e166 : k166 = 0 := by rw [← hk166, Dp.cmp D159 .l, if_neg (by omega), if_pos rfl]
  have c45 : ∀ t, Steps p.tables e below (T41.setTop (mkF m 175 #[.val (.int p1), .val (.int p2), .val (.int p3), .val (.int p4), .val (.int p5), .val (.int kk), .val (.int to), .val (.int l0), .val (.int l1), .val (.int l2), .val (.int l3), .val (.ref ar), .val (.int pg), .val (.int (ls G)), .val (.ref ob), .val (.double pr), .second, .val (.long avl), .second, .val (.long nu), .second, .val (.double d159), .second] [(.int (1 : Int32))])) t → Steps p.tables e below (s₁.setTop (entryFrame m #[(.int p1), (.int p2), (.int p3), (.int p4), (.int p5)] maxLocals)) t := fun t k => c44 t (by
    show Steps p.tables e below (T41.setTop (mkF m 149 #[.val (.int p1), .val (.int p2), .val (.int p3), .val (.int p4), .val (.int p5), .val (.int kk), .val (.int to), .val (.int l0), .val (.int l1), .val (.int l2), .val (.int l3), .val (.ref ar), .val (.int pg), .val (.int (ls G)), .val (.ref ob), .val (.double pr), .second, .val (.long avl), .second, .val (.long nu), .second, .unset, .unset] [])) _
    refine XT.lload X41.here hx rfl (hb hby at_149) rfl ?_
    show Steps p.tables e below (T41.setTop (mkF m 151 #[.val (.int p1), .val (.int p2), .val (.int p3), .val (.int p4), .val (.int p5), .val (.int kk), .val (.int to), .val (.int l0), .val (.int l1), .val (.int l2), .val (.int l3), .val (.ref ar), .val (.int pg), .val (.int (ls G)), .val (.ref ob), .val (.double pr), .second, .val (.long avl), .second, .val (.long nu), .second, .unset, .unset] [(.long nu)])) _
    refine XS.l2dS X41.here hx rfl (hb hby at_151) rfl hd151 ?_
    show Steps p.tables e below (T41.setTop (mkF m 152 #[.val (.int p1), .val (.int p2), .val (.int p3), .val (.int p4), .val (.int p5), .val (.int kk), .val (.int to), .val (.int l0), .val (.int l1), .val (.int l2), .val (.int l3), .val (.ref ar), .val (.int pg), .val (.int (ls G)), .val (.ref ob), .val (.double pr), .second, .val (.long avl), .second, .val (.long nu), .second, .unset, .unset] [(.double d151)])) _
    refine Jvm.Stand.ldc2J X41 hx hown (mvT hZ (hw _ (List.mem_of_getElem? (i := 34) rfl))) rfl (hb hby at_152) ?_
    show Steps p.tables e below (T41.setTop (mkF m 155 #[.val (.int p1), .val (.int p2), .val (.int p3), .val (.int p4), .val (.int p5), .val (.int kk), .val (.int to), .val (.int l0), .val (.int l1), .val (.int l2), .val (.int l3), .val (.ref ar), .val (.int pg), .val (.int (ls G)), .val (.ref ob), .val (.double pr), .second, .val (.long avl), .second, .val (.long nu), .second, .unset, .unset] [(.long (4 : Int64)), (.double d151)])) _
    refine XT.lload X41.here hx rfl (hb hby at_155) rfl ?_
    show Steps p.tables e below (T41.setTop (mkF m 157 #[.val (.int p1), .val (.int p2), .val (.int p3), .val (.int p4), .val (.int p5), .val (.int kk), .val (.int to), .val (.int l0), .val (.int l1), .val (.int l2), .val (.int l3), .val (.ref ar), .val (.int pg), .val (.int (ls G)), .val (.ref ob), .val (.double pr), .second, .val (.long avl), .second, .val (.long nu), .second, .unset, .unset] [(.long avl), (.long (4 : Int64)), (.double d151)])) _
    refine XT.lmul X41.here hx rfl (hb hby at_157) rfl ?_
    show Steps p.tables e below (T41.setTop (mkF m 158 #[.val (.int p1), .val (.int p2), .val (.int p3), .val (.int p4), .val (.int p5), .val (.int kk), .val (.int to), .val (.int l0), .val (.int l1), .val (.int l2), .val (.int l3), .val (.ref ar), .val (.int pg), .val (.int (ls G)), .val (.ref ob), .val (.double pr), .second, .val (.long avl), .second, .val (.long nu), .second, .unset, .unset] [(.long ((4 : Int64) * avl)), (.double d151)])) _
    refine XS.l2dS X41.here hx rfl (hb hby at_158) rfl hd158 ?_
    show Steps p.tables e below (T41.setTop (mkF m 159 #[.val (.int p1), .val (.int p2), .val (.int p3), .val (.int p4), .val (.int p5), .val (.int kk), .val (.int to), .val (.int l0), .val (.int l1), .val (.int l2), .val (.int l3), .val (.ref ar), .val (.int pg), .val (.int (ls G)), .val (.ref ob), .val (.double pr), .second, .val (.long avl), .second, .val (.long nu), .second, .unset, .unset] [(.double d158), (.double d151)])) _
    refine XS.ddivS X41.here hx rfl (hb hby at_159) rfl (hd159 ▸ D159.noNaN) hd159 ?_
    show Steps p.tables e below (T41.setTop (mkF m 160 #[.val (.int p1), .val (.int p2), .val (.int p3), .val (.int p4), .val (.int p5), .val (.int kk), .val (.int to), .val (.int l0), .val (.int l1), .val (.int l2), .val (.int l3), .val (.ref ar), .val (.int pg), .val (.int (ls G)), .val (.ref ob), .val (.double pr), .second, .val (.long avl), .second, .val (.long nu), .second, .unset, .unset] [(.double d159)])) _
    refine XS.dstore X41.here hx rfl (hb hby at_160) rfl (l' := #[.val (.int p1), .val (.int p2), .val (.int p3), .val (.int p4), .val (.int p5), .val (.int kk), .val (.int to), .val (.int l0), .val (.int l1), .val (.int l2), .val (.int l3), .val (.ref ar), .val (.int pg), .val (.int (ls G)), .val (.ref ob), .val (.double pr), .second, .val (.long avl), .second, .val (.long nu), .second, .val (.double d159), .second]) rfl ?_
    show Steps p.tables e below (T41.setTop (mkF m 162 #[.val (.int p1), .val (.int p2), .val (.int p3), .val (.int p4), .val (.int p5), .val (.int kk), .val (.int to), .val (.int l0), .val (.int l1), .val (.int l2), .val (.int l3), .val (.ref ar), .val (.int pg), .val (.int (ls G)), .val (.ref ob), .val (.double pr), .second, .val (.long avl), .second, .val (.long nu), .second, .val (.double d159), .second] [])) _
    refine XS.dload X41.here hx rfl (hb hby at_162) rfl ?_
    show Steps p.tables e below (T41.setTop (mkF m 164 #[.val (.int p1), .val (.int p2), .val (.int p3), .val (.int p4), .val (.int p5), .val (.int kk), .val (.int to), .val (.int l0), .val (.int l1), .val (.int l2), .val (.int l3), .val (.ref ar), .val (.int pg), .val (.int (ls G)), .val (.ref ob), .val (.double pr), .second, .val (.long avl), .second, .val (.long nu), .second, .val (.double d159), .second] [(.double pr)])) _
    refine XS.dload X41.here hx rfl (hb hby at_164) rfl ?_
    show Steps p.tables e below (T41.setTop (mkF m 166 #[.val (.int p1), .val (.int p2), .val (.int p3), .val (.int p4), .val (.int p5), .val (.int kk), .val (.int to), .val (.int l0), .val (.int l1), .val (.int l2), .val (.int l3), .val (.ref ar), .val (.int pg), .val (.int (ls G)), .val (.ref ob), .val (.double pr), .second, .val (.long avl), .second, .val (.long nu), .second, .val (.double d159), .second] [(.double d159), (.double pr)])) _
    refine XS.dcmpS X41.here hx rfl (hb hby at_166) rfl hk166 ?_
    show Steps p.tables e below (T41.setTop (mkF m 167 #[.val (.int p1), .val (.int p2), .val (.int p3), .val (.int p4), .val (.int p5), .val (.int kk), .val (.int to), .val (.int l0), .val (.int l1), .val (.int l2), .val (.int l3), .val (.ref ar), .val (.int pg), .val (.int (ls G)), .val (.ref ob), .val (.double pr), .second, .val (.long avl), .second, .val (.long nu), .second, .val (.double d159), .second] [(.int k166)])) _
    refine XS.ifNo X41.here hx rfl (hb hby at_167) rfl (XT.i0_ne_f e166) ?_
    show Steps p.tables e below (T41.setTop (mkF m 170 #[.val (.int p1), .val (.int p2), .val (.int p3), .val (.int p4), .val (.int p5), .val (.int kk), .val (.int to), .val (.int l0), .val (.int l1), .val (.int l2), .val (.int l3), .val (.ref ar), .val (.int pg), .val (.int (ls G)), .val (.ref ob), .val (.double pr), .second, .val (.long avl), .second, .val (.long nu), .second, .val (.double d159), .second] [])) _
    refine XS.iconst X41.here hx rfl (hb hby at_170) ?_
    show Steps p.tables e below (T41.setTop (mkF m 171 #[.val (.int p1), .val (.int p2), .val (.int p3), .val (.int p4), .val (.int p5), .val (.int kk), .val (.int to), .val (.int l0), .val (.int l1), .val (.int l2), .val (.int l3), .val (.ref ar), .val (.int pg), .val (.int (ls G)), .val (.ref ob), .val (.double pr), .second, .val (.long avl), .second, .val (.long nu), .second, .val (.double d159), .second] [(.int (1 : Int32))])) _
    refine XS.goto X41.here hx rfl (pc0 := 171) (pc' := 175) rfl (hb hby at_171) (by decide) (by decide) ?_
    show Steps p.tables e below (T41.setTop (mkF m 175 #[.val (.int p1), .val (.int p2), .val (.int p3), .val (.int p4), .val (.int p5), .val (.int kk), .val (.int to), .val (.int l0), .val (.int l1), .val (.int l2), .val (.int l3), .val (.ref ar), .val (.int pg), .val (.int (ls G)), .val (.ref ob), .val (.double pr), .second, .val (.long avl), .second, .val (.long nu), .second, .val (.double d159), .second] [(.int (1 : Int32))])) _
    exact k)
  obtain ⟨fs, hr, hrun, hended, hW, hsame⟩ := X41.leave (v := (some (.int (1 : Int32)))) (fun h => by rw [Bd.returns] at h; cases h)
  refine ⟨_, _, pre0 _ (c45 _ (retN X41 hx (t := .boolean) Bd.returns (by simp) (hb hby at_175) hr)), hrun, hended, _, _, rfl, ?_, ⟨_, rfl⟩, hW, hsame.mono (by decide) (by decide)⟩
  show Q_0 Z p1 p2 p3 p4 p5 h0 n0 _ T41.heap _
  rw [e41]
  exact ⟨rfl, M41⟩
set_option maxRecDepth 65536 in
set_option maxHeartbeats 40000000 in
theorem comes_1 {Post : Tables → Env → Array Value → State → Outcome → State → Prop} (hpost : ∀ tb e args s v u, (limb_1_1.after args s (.returned v) u = true ∧ limb_1_2.after args s (.returned v) u = true ∧ True) → FrameEnd s (.returned v) u (Jvm.fieldLocs frame_1_writes args s ++ Jvm.arrayLocs frame_1_arrays args s ++ Jvm.staticLocs frame_1_statics s) 16 128 → Post tb e args s (.returned v) u) :
    ArmFor flags0 classFile x code maxLocals ret World_1 tables_1 room_1 Calls_1 rest_1 Pre_1 Post := by
  intro l hfl _ _ p e ha hc hk s m args below hf hA hF happ hP
  obtain ⟨hcalls, hrest, hpre⟩ := hP
  obtain ⟨-, -, -, hnamed, -, -, -, hat⟩ := (Spec.applies_iff hf).mp happ
  obtain ⟨hg, hn⟩ := and_e (Cond.before_iff.mp (show (Jvm.Cond.and given_1 narrow_1).before args s = true from hpre))
  obtain ⟨g0, r0⟩ := and_e hg
  obtain ⟨g1, r1⟩ := and_e r0
  obtain ⟨g2, r2⟩ := and_e r1
  obtain ⟨g3, r3⟩ := and_e r2
  obtain ⟨g4, r4⟩ := and_e r3
  obtain ⟨w0, w1, w2, w3, w4, rfl⟩ : ∃ w0 w1 w2 w3 w4 : Value, args = #[w0, w1, w2, w3, w4] := by
    have hs : args.size = 5 := by simpa [Cond.value, given_1] using g0
    obtain ⟨L⟩ := args
    match L, hs with
    | [w0, w1, w2, w3, w4], _ => exact ⟨w0, w1, w2, w3, w4, rfl⟩
  have hw := fun d (hd : d ∈ tables_1) => atoms_spec (ws := Jvm.Cond.code x code maxLocals ret :: tables_1) hat d (List.mem_cons_of_mem _ hd)
  obtain ⟨i0, e0⟩ := is_v g1
  obtain rfl : w0 = (.int i0) := Option.some.inj e0
  obtain ⟨i1, e1⟩ := is_v g2
  obtain rfl : w1 = (.int i1) := Option.some.inj e1
  obtain ⟨i2, e2⟩ := is_v g3
  obtain rfl : w2 = (.int i2) := Option.some.inj e2
  obtain ⟨i3, e3⟩ := is_v g4
  obtain rfl : w3 = (.int i3) := Option.some.inj e3
  obtain ⟨i4, e4⟩ := is_v r4
  obtain rfl : w4 = (.int i4) := Option.some.inj e4
  obtain ⟨n, o, h1, h2, h3, _, L, rfl, ⟨rfl, N⟩, hq⟩ := rm_0 l s _ hw tables_1 i0 i1 i2 i3 i4 s.heap s.heap.size (Nat.le_refl _)  p e ha hc hk s m _ below hf ((Spec.applies_iff_loose hf).mp happ).1 ⟨rfl, State.Warmed39.refl s, rfl⟩ trivial
  refine ⟨n, _, h1, h2, h3, hpost _ _ _ _ _ _ ⟨Cond.after_iff.mpr rfl, Cond.after_iff.mpr (eq_i res_at (Term.int_eval (1)) rfl), trivial⟩ ⟨hq.1, hq.2.1, (hq.2.2.sift fun y hy => Or.inr (N y hy)).mono (by decide) (by decide)⟩⟩
theorem main_1_1 : Claimed_1_1 := comes_1 fun _ _ _ _ _ _ h hF => ⟨h.1, hF⟩
theorem main_1_2 : Claimed_1_2 := comes_1 fun _ _ _ _ _ _ h hF => ⟨h.2.1, hF⟩
end Jvm.Pilot.@@N@@
namespace Jvm.Pilot.@@N@@
open Jvm Jvm.ClassFile Sem Op Lib Jvm.Free Jvm.Stand Jvm.Pilot.@@N@@.Jvm.D
/-! MADE BY PROGRAM (witnessworld.py) out of the Statement's table words and the real class files: 11 classes; the members and pool entries that the words name. The judged class is class 1, her method 1. -/
namespace start1
open Jvm.ClassFile
def u (s : String) : CpInfo := .utf8 (stringToUtf16 s)
/-- a pool by its gaps: so many unusable entries, then the entry; so many at the end -/
def gap : Nat → List CpInfo → List CpInfo
  | 0, r => r
  | n + 1, r => .unusable :: gap n r
def poolList (es : List (Nat × CpInfo)) (last : Nat) : List CpInfo := es.foldr (fun e r => gap e.1 (e.2 :: r)) (gap last [])
def pool (es : List (Nat × CpInfo)) (last : Nat) : Array CpInfo := ⟨poolList es last⟩
def fileOf (pool : Array CpInfo) (this : Nat) (attrs : Array Attribute := #[]) (ms : Array MethodInfo := #[]) (fl : Nat := 33) (sup : Nat := 0) (ifs : Array Nat := #[]) (fds : Array FieldInfo := #[]) : ClassFile where
  minorVersion := 0
  majorVersion := 65
  constantPool := pool
  accessFlags := fl
  thisClass := this
  superClass := sup
  interfaces := ifs
  fields := fds
  methods := ms
  attributes := attrs
def plain (name : String) (sup : Option ClassId) : Class where
  name := name
  kind := .ordinary
  loader := none
  accessFlags := 33
  super := sup
  interfaces := #[]
  cf := none
  fields := #[]
  methods := #[]
  instanceTypes := #[]
  staticTypes := #[]
  resolved := #[]
  callSites := []
  init := .initialized
  statics := none
  mirror := none

def pool0 : Array CpInfo := pool [(5, u "<init>"), (0, u "()V"), (1, .class_ 10), (1, u "java/lang/Object")] 113

def k0c0 : Code := { maxStack := 0, maxLocals := 1, code := object_method_1_code, exceptionTable := #[], attributes := #[] }
def k0m0 : Method := { name := "<init>", desc := "()V", sig := { parameters := [], returnType := none }, accessFlags := 1, code := some k0c0 }
/-- java/lang/Object -/
def k0 : Class := { plain "java/lang/Object" none with
  accessFlags := 33
  interfaces := #[]
  cf := some (fileOf pool0 8 #[] #[{ accessFlags := 1, nameIndex := 5, descriptorIndex := 6, attributes := #[] }] 33 0 #[] #[])
  fields := #[]
  methods := #[k0m0]
  instanceTypes := #[]
  staticTypes := #[]
  resolved := Array.replicate 124 none
  statics := none }

def pool1 : Array CpInfo := pool [(2, .class_ 4), (1, u "java/lang/Object"), (0, u "<init>"), (0, u "()V"), (0, .integer 2147483647), (0, .class_ 9), (0, u "com/example/rival_tongues/rivaltongues/engine/Field"), (0, .methodref 8 11), (0, .nameAndType 5 12), (0, u "([ILjava/util/Map;)V"), (0, .methodref 14 15), (0, .class_ 16), (0, .nameAndType 17 18), (0, u "com/example/rival_tongues/rivaltongues/engine/Bm25"), (0, u "lengthNorm"), (0, u "(Lcom/example/rival_tongues/rivaltongues/engine/Field;I)D"), (0, .long 3), (1, .long 4), (1, .class_ 24), (0, u "com/example/rival_tongues/rivaltongues/engine/Bm25LengthNormPinLaw"), (2, u "law"), (0, u "(IIIII)Z")] 5

def k1m0 : Method := { name := "<init>", desc := "()V", sig := { parameters := [], returnType := none }, accessFlags := 1, code := none }
def k1c1 : Code := { maxStack := 6, maxLocals := 23, code := code, exceptionTable := #[], attributes := #[] }
def k1m1 : Method := { name := "law", desc := "(IIIII)Z", sig := { parameters := [.int, .int, .int, .int, .int], returnType := some .boolean }, accessFlags := 9, code := some k1c1 }
/-- com/example/rival_tongues/rivaltongues/engine/Bm25LengthNormPinLaw -/
def k1 : Class := { plain "com/example/rival_tongues/rivaltongues/engine/Bm25LengthNormPinLaw" (some 0) with
  accessFlags := 49
  interfaces := #[]
  cf := some (fileOf pool1 23 #[] #[{ accessFlags := 1, nameIndex := 5, descriptorIndex := 6, attributes := #[] }, { accessFlags := 9, nameIndex := 27, descriptorIndex := 28, attributes := #[] }] 49 2 #[] #[])
  fields := #[]
  methods := #[k1m0, k1m1]
  instanceTypes := #[]
  staticTypes := #[]
  resolved := Array.replicate 34 none
  statics := none }

def pool2 : Array CpInfo := pool [(1, .methodref 2 3), (0, .class_ 4), (0, .nameAndType 5 6), (0, u "java/lang/Object"), (0, u "<init>"), (0, u "()V"), (0, .fieldref 8 9), (0, .class_ 10), (0, .nameAndType 11 12), (0, u "com/example/rival_tongues/rivaltongues/engine/Field"), (0, u "lengths"), (0, u "[I"), (0, .fieldref 8 14), (0, .nameAndType 15 16), (0, u "postings"), (0, u "Ljava/util/Map;"), (0, .fieldref 8 18), (0, .nameAndType 19 20), (0, u "averageLength"), (0, u "D"), (54, u "([ILjava/util/Map;)V"), (5, u "length"), (0, u "(I)I"), (0, u "()D")] 8

def k2c0 : Code := { maxStack := 5, maxLocals := 9, code := prog_17_method_1_code, exceptionTable := #[], attributes := #[] }
def k2m0 : Method := { name := "<init>", desc := "([ILjava/util/Map;)V", sig := { parameters := [(.array .int), (.object "java/util/Map")], returnType := none }, accessFlags := 0, code := some k2c0 }
def k2c1 : Code := { maxStack := 2, maxLocals := 2, code := prog_17_method_2_code, exceptionTable := #[], attributes := #[] }
def k2m1 : Method := { name := "length", desc := "(I)I", sig := { parameters := [.int], returnType := some .int }, accessFlags := 1, code := some k2c1 }
def k2c2 : Code := { maxStack := 2, maxLocals := 1, code := prog_17_method_3_code, exceptionTable := #[], attributes := #[] }
def k2m2 : Method := { name := "averageLength", desc := "()D", sig := { parameters := [], returnType := some .double }, accessFlags := 1, code := some k2c2 }
/-- com/example/rival_tongues/rivaltongues/engine/Field -/
def k2 : Class := { plain "com/example/rival_tongues/rivaltongues/engine/Field" (some 0) with
  accessFlags := 33
  interfaces := #[]
  cf := some (fileOf pool2 8 #[] #[{ accessFlags := 0, nameIndex := 5, descriptorIndex := 75, attributes := #[] }, { accessFlags := 1, nameIndex := 81, descriptorIndex := 82, attributes := #[] }, { accessFlags := 1, nameIndex := 19, descriptorIndex := 83, attributes := #[] }] 33 2 #[] #[{ accessFlags := 18, nameIndex := 11, descriptorIndex := 12, attributes := #[] }, { accessFlags := 18, nameIndex := 15, descriptorIndex := 16, attributes := #[] }, { accessFlags := 18, nameIndex := 19, descriptorIndex := 20, attributes := #[] }])
  fields := #[{ name := "lengths", type := (.array .int), accessFlags := 18, slot := 0, constantValue := 0 }, { name := "postings", type := (.object "java/util/Map"), accessFlags := 18, slot := 1, constantValue := 0 }, { name := "averageLength", type := .double, accessFlags := 18, slot := 2, constantValue := 0 }]
  methods := #[k2m0, k2m1, k2m2]
  instanceTypes := #[(.array .int), (.object "java/util/Map"), .double]
  staticTypes := #[]
  resolved := Array.replicate 92 none
  statics := none }

def pool3 : Array CpInfo := pool [(2, .class_ 4), (1, u "java/lang/Object"), (0, u "<init>"), (0, u "()V"), (1, .class_ 10), (1, u "com/example/rival_tongues/rivaltongues/engine/RankingModel"), (0, u "BY_NAME"), (0, u "Ljava/util/SortedMap;"), (107, .class_ 121), (0, u "com/example/rival_tongues/rivaltongues/engine/RankingModel$QueryTerm"), (49, .class_ 173), (1, u "com/example/rival_tongues/rivaltongues/engine/RankingModel$QueryScorer"), (59, u "DEFAULT"), (0, u "Ljava/lang/String;")] 79

def k3m0 : Method := { name := "<init>", desc := "()V", sig := { parameters := [], returnType := none }, accessFlags := 1, code := none }
/-- com/example/rival_tongues/rivaltongues/engine/RankingModel -/
def k3 : Class := { plain "com/example/rival_tongues/rivaltongues/engine/RankingModel" (some 0) with
  accessFlags := 1057
  interfaces := #[]
  cf := some (fileOf pool3 8 #[.nestMembers #[171, 120]] #[{ accessFlags := 1, nameIndex := 5, descriptorIndex := 6, attributes := #[] }] 1057 2 #[] #[{ accessFlags := 25, nameIndex := 233, descriptorIndex := 234, attributes := #[] }, { accessFlags := 26, nameIndex := 11, descriptorIndex := 12, attributes := #[] }])
  fields := #[{ name := "DEFAULT", type := (.object "java/lang/String"), accessFlags := 25, slot := 0, constantValue := 0 }, { name := "BY_NAME", type := (.object "java/util/SortedMap"), accessFlags := 26, slot := 1, constantValue := 0 }]
  methods := #[k3m0]
  instanceTypes := #[]
  staticTypes := #[(.object "java/lang/String"), (.object "java/util/SortedMap")]
  resolved := Array.replicate 314 none
  statics := none }

def pool4 : Array CpInfo := pool [(2, .class_ 4), (1, u "com/example/rival_tongues/rivaltongues/engine/RankingModel"), (0, u "<init>"), (0, u "()V"), (0, .class_ 8), (0, u "com/example/rival_tongues/rivaltongues/engine/Bm25$Scorer"), (21, .class_ 31), (0, u "com/example/rival_tongues/rivaltongues/engine/Bm25"), (0, .double 4598175219545276416), (1, .double 4604930618986332160), (1, .methodref 37 38), (0, .class_ 39), (0, .nameAndType 40 41), (0, u "com/example/rival_tongues/rivaltongues/engine/Field"), (0, u "length"), (0, u "(I)I"), (0, .methodref 37 43), (0, .nameAndType 44 45), (0, u "averageLength"), (0, u "()D"), (4, u "K1"), (0, u "D"), (1, u "B"), (8, u "lengthNorm"), (0, u "(Lcom/example/rival_tongues/rivaltongues/engine/Field;I)D")] 13

def k4m0 : Method := { name := "<init>", desc := "()V", sig := { parameters := [], returnType := none }, accessFlags := 1, code := none }
def k4c1 : Code := { maxStack := 6, maxLocals := 2, code := prog_8_method_4_code, exceptionTable := #[], attributes := #[] }
def k4m1 : Method := { name := "lengthNorm", desc := "(Lcom/example/rival_tongues/rivaltongues/engine/Field;I)D", sig := { parameters := [(.object "com/example/rival_tongues/rivaltongues/engine/Field"), .int], returnType := some .double }, accessFlags := 8, code := some k4c1 }
/-- com/example/rival_tongues/rivaltongues/engine/Bm25 -/
def k4 : Class := { plain "com/example/rival_tongues/rivaltongues/engine/Bm25" (some 3) with
  accessFlags := 49
  interfaces := #[]
  cf := some (fileOf pool4 30 #[.nestMembers #[7]] #[{ accessFlags := 1, nameIndex := 5, descriptorIndex := 6, attributes := #[] }, { accessFlags := 8, nameIndex := 62, descriptorIndex := 63, attributes := #[] }] 49 2 #[] #[{ accessFlags := 24, nameIndex := 50, descriptorIndex := 51, attributes := #[] }, { accessFlags := 24, nameIndex := 53, descriptorIndex := 51, attributes := #[] }])
  fields := #[{ name := "K1", type := .double, accessFlags := 24, slot := 0, constantValue := 0 }, { name := "B", type := .double, accessFlags := 24, slot := 1, constantValue := 0 }]
  methods := #[k4m0, k4m1]
  instanceTypes := #[]
  staticTypes := #[.double, .double]
  resolved := Array.replicate 77 none
  statics := none }

def pool5 : Array CpInfo := pool [(1, u "java/lang/Cloneable"), (0, .class_ 1), (0, u "java/lang/Object"), (0, .class_ 3)] 3

/-- java/lang/Cloneable -/
def k5 : Class := { plain "java/lang/Cloneable" (some 0) with
  accessFlags := 1537
  interfaces := #[]
  cf := some (fileOf pool5 2 #[] #[] 1537 4 #[] #[])
  fields := #[]
  methods := #[]
  instanceTypes := #[]
  staticTypes := #[]
  resolved := Array.replicate 8 none
  statics := none }

def pool6 : Array CpInfo := pool [(1, u "java/io/Serializable"), (0, .class_ 1), (0, u "java/lang/Object"), (0, .class_ 3)] 3

/-- java/io/Serializable -/
def k6 : Class := { plain "java/io/Serializable" (some 0) with
  accessFlags := 1537
  interfaces := #[]
  cf := some (fileOf pool6 2 #[] #[] 1537 4 #[] #[])
  fields := #[]
  methods := #[]
  instanceTypes := #[]
  staticTypes := #[]
  resolved := Array.replicate 8 none
  statics := none }

/-- the primitive byte -/
def k7 : Class := { plain "byte" none with kind := .primitive 'B', accessFlags := 0x411 }
/-- [B -/
def k8 : Class := { plain "[B" (some 0) with kind := .array 7 .byte, interfaces := #[5, 6], accessFlags := 1041 }

/-- the primitive int -/
def k9 : Class := { plain "int" none with kind := .primitive 'I', accessFlags := 0x411 }
/-- [I -/
def k10 : Class := { plain "[I" (some 0) with kind := .array 9 .int, interfaces := #[5, 6], accessFlags := 1041 }

def heap : Heap := #[]
def classes : Array Class := #[k0, k1, k2, k3, k4, k5, k6, k7, k8, k9, k10]
def interned : List (Array UInt16 × Addr) := []
def slotsUsed : Nat := 0
def theMethod : MethodId := ⟨1, 1⟩
def args0 : Array Value := #[.int 3, .int 3, .int 3, .int 3, .int 3]
def aboutOver (below : List Frame) : State where
  vm := { classes := classes, interned := interned.toArray }
  heap := heap
  slotsUsed := slotsUsed
  threads := #[{ frames := .invoking theMethod args0 :: below }]
def below0 : List Frame := [.native { method := ⟨0, 0⟩, args := #[] }]
def about1 : State := aboutOver below0
def p0 : Program := .bare "" "" ""
def e0 : Env := launch0.env 0 0 0
theorem w_frames : about1.frames = Frame.invoking theMethod args0 :: below0 := rfl
set_option maxRecDepth 65536 in
theorem w_args : argsFit about1.vm theMethod args0 = true := by decide +kernel
set_option maxRecDepth 65536 in
theorem w_heap : heapFits about1 = true := by decide +kernel
set_option maxRecDepth 65536 in
theorem w_runnable : about1.curStatus? = some .runnable := by decide +kernel
set_option maxRecDepth 65536 in
theorem w_alone : about1.alone = true := by decide +kernel
set_option maxRecDepth 65536 in
theorem w_named : about1.methodNamed? x = some theMethod := by decide +kernel
set_option maxRecDepth 65536 in
theorem w_hears : about1.hears theMethod below0 = true := by decide +kernel
set_option maxRecDepth 65536 in
theorem w_ripe : about1.ripe theMethod args0 below0 = true := by decide +kernel
theorem w_running : about1.status = .running := rfl
set_option maxRecDepth 65536 in
theorem w_room : about1.hasRoom e0.platform room_1 = true :=
  launch0.hasRoom_least _ room_1 (by decide +kernel) (by decide +kernel) (by decide +kernel) (by decide +kernel) (by decide +kernel) (by decide +kernel)
theorem allAtoms_all (ts : List Jvm.Cond) (a : Array Jvm.Value) (st : Jvm.State) : (allAtoms ts).before a st = ts.all (fun c => c.before a st) := by
  induction ts with
  | nil => rfl
  | cons c t ih =>
    show (Jvm.Cond.and c (allAtoms t)).before a st = _
    rw [Jvm.Cond.before_and, ih, List.all_cons]
def words1 : List Jvm.Cond := Jvm.Cond.code x code maxLocals ret :: tables_1
/-- a 'code' word, met by the world's own term for the bytes: nothing is compared byte by byte -/
theorem code_word {y : MethodName} {bytes : ByteArray} {mx : Nat} {rt : Option FieldType} {a : Array Value} {s : State} {m : MethodId} {meth : Method} {c : Code} (h1 : s.methodNamed? y = some m) (h2 : s.vm.method? m = some meth) (h3 : meth.code = some c) (h4 : c.code = bytes)
    (h5 : (c.maxLocals == mx && c.exceptionTable.isEmpty && decide (c.maxStack ≤ mostOperands) && decide (meth.sig.returnType = rt) && !meth.locks && decide (parseMethodDescriptor y.desc = some meth.sig)) = true) : (Jvm.Cond.code y bytes mx rt).before a s = true := by
  simp only [Bool.and_eq_true, beq_iff_eq, Bool.not_eq_true', decide_eq_true_eq] at h5
  obtain ⟨⟨⟨⟨⟨g1, g2⟩, g3⟩, g4⟩, g5⟩, g6⟩ := h5
  simp [Cond.before, Cond.holds, Cond.value, h1, h2, h3, h4, g1, g2, g3, g4, g5, g6]
def isCode : Jvm.Cond → Bool
  | .code _ _ _ _ => true
  | _ => false
theorem all_split {L : List Jvm.Cond} {P : Jvm.Cond → Bool} (h1 : L.all (fun c => isCode c || P c) = true) (h2 : ∀ c ∈ L.filter isCode, P c = true) : L.all P = true := by
  refine List.all_eq_true.mpr fun c hc => ?_
  have h := List.all_eq_true.mp h1 c hc
  rcases Bool.eq_false_or_eq_true (isCode c) with hi | hi
  · exact h2 c (List.mem_filter.mpr ⟨hc, hi⟩)
  · simpa [hi] using h
set_option maxRecDepth 65536 in
theorem w_c0 : (Jvm.Cond.code x code maxLocals ret).before args0 about1 = true := code_word (m := ⟨1, 1⟩) (meth := k1m1) (c := k1c1) (by decide +kernel) rfl rfl rfl (by decide +kernel)
set_option maxRecDepth 65536 in
theorem w_c1 : (Jvm.Cond.code ({ cls := "com/example/rival_tongues/rivaltongues/engine/Field", name := "<init>", desc := "([ILjava/util/Map;)V" } : Jvm.MethodName) prog_17_method_1_code (9 : Nat) (Option.none : Option Jvm.ClassFile.FieldType)).before args0 about1 = true := code_word (m := ⟨2, 0⟩) (meth := k2m0) (c := k2c0) (by decide +kernel) rfl rfl rfl (by decide +kernel)
set_option maxRecDepth 65536 in
theorem w_c2 : (Jvm.Cond.code ({ cls := "java/lang/Object", name := "<init>", desc := "()V" } : Jvm.MethodName) object_method_1_code (1 : Nat) (Option.none : Option Jvm.ClassFile.FieldType)).before args0 about1 = true := code_word (m := ⟨0, 0⟩) (meth := k0m0) (c := k0c0) (by decide +kernel) rfl rfl rfl (by decide +kernel)
set_option maxRecDepth 65536 in
theorem w_c3 : (Jvm.Cond.code ({ cls := "com/example/rival_tongues/rivaltongues/engine/Bm25", name := "lengthNorm", desc := "(Lcom/example/rival_tongues/rivaltongues/engine/Field;I)D" } : Jvm.MethodName) prog_8_method_4_code (2 : Nat) (Option.some Jvm.ClassFile.FieldType.double)).before args0 about1 = true := code_word (m := ⟨4, 1⟩) (meth := k4m1) (c := k4c1) (by decide +kernel) rfl rfl rfl (by decide +kernel)
set_option maxRecDepth 65536 in
theorem w_c4 : (Jvm.Cond.code ({ cls := "com/example/rival_tongues/rivaltongues/engine/Field", name := "length", desc := "(I)I" } : Jvm.MethodName) prog_17_method_2_code (2 : Nat) (Option.some Jvm.ClassFile.FieldType.int)).before args0 about1 = true := code_word (m := ⟨2, 1⟩) (meth := k2m1) (c := k2c1) (by decide +kernel) rfl rfl rfl (by decide +kernel)
set_option maxRecDepth 65536 in
theorem w_c5 : (Jvm.Cond.code ({ cls := "com/example/rival_tongues/rivaltongues/engine/Field", name := "averageLength", desc := "()D" } : Jvm.MethodName) prog_17_method_3_code (1 : Nat) (Option.some Jvm.ClassFile.FieldType.double)).before args0 about1 = true := code_word (m := ⟨2, 2⟩) (meth := k2m2) (c := k2c2) (by decide +kernel) rfl rfl rfl (by decide +kernel)
def codes1 : List Jvm.Cond := [Jvm.Cond.code x code maxLocals ret, Jvm.Cond.code ({ cls := "com/example/rival_tongues/rivaltongues/engine/Field", name := "<init>", desc := "([ILjava/util/Map;)V" } : Jvm.MethodName) prog_17_method_1_code (9 : Nat) (Option.none : Option Jvm.ClassFile.FieldType), Jvm.Cond.code ({ cls := "java/lang/Object", name := "<init>", desc := "()V" } : Jvm.MethodName) object_method_1_code (1 : Nat) (Option.none : Option Jvm.ClassFile.FieldType), Jvm.Cond.code ({ cls := "com/example/rival_tongues/rivaltongues/engine/Bm25", name := "lengthNorm", desc := "(Lcom/example/rival_tongues/rivaltongues/engine/Field;I)D" } : Jvm.MethodName) prog_8_method_4_code (2 : Nat) (Option.some Jvm.ClassFile.FieldType.double), Jvm.Cond.code ({ cls := "com/example/rival_tongues/rivaltongues/engine/Field", name := "length", desc := "(I)I" } : Jvm.MethodName) prog_17_method_2_code (2 : Nat) (Option.some Jvm.ClassFile.FieldType.int), Jvm.Cond.code ({ cls := "com/example/rival_tongues/rivaltongues/engine/Field", name := "averageLength", desc := "()D" } : Jvm.MethodName) prog_17_method_3_code (1 : Nat) (Option.some Jvm.ClassFile.FieldType.double)]
set_option maxRecDepth 65536 in
theorem codes_eq : words1.filter isCode = codes1 := rfl
theorem w_codes : ∀ c ∈ words1.filter isCode, c.before args0 about1 = true := by
  rw [codes_eq]
  intro c hc
  simp only [codes1, List.mem_cons, List.not_mem_nil, or_false] at hc
  rcases hc with rfl | rfl | rfl | rfl | rfl | rfl
  · exact w_c0
  · exact w_c1
  · exact w_c2
  · exact w_c3
  · exact w_c4
  · exact w_c5
set_option maxRecDepth 65536 in
theorem w_t1 : (words1.take 24).all (fun c => isCode c || c.before args0 about1) = true := by decide +kernel
set_option maxRecDepth 65536 in
theorem w_t2 : (words1.drop 24).all (fun c => isCode c || c.before args0 about1) = true := by decide +kernel
theorem w_tables : (allAtoms (Jvm.Cond.code x code maxLocals ret :: tables_1)).before args0 about1 = true := by
  rw [allAtoms_all]
  show words1.all (fun c => c.before args0 about1) = true
  refine all_split ?_ w_codes
  rw [← List.take_append_drop 24 words1, List.all_append, w_t1, w_t2]
  rfl
set_option maxRecDepth 65536 in
theorem w_case : (Jvm.Cond.and given_1 narrow_1).before args0 about1 = true := by decide +kernel
theorem w_applies : (headSpec (Jvm.Cond.code x code maxLocals ret :: tables_1) room_1).applies x e0.platform about1 = true :=
  (Spec.applies_iff w_frames).mpr ⟨w_running, w_runnable, w_alone, w_named, w_hears, w_ripe, w_room, w_tables⟩
theorem atStart : AtStart classFile x code maxLocals ret World_1 tables_1 room_1 Calls_1 rest_1 Pre_1 launch0 p0 e0 about1 theMethod args0 below0 :=
  ⟨lists_1, trivial, launch0.admits_env _ _ _, launch0.least_env, fairChoices_fair.cas, fairChoices_fair.clock, w_frames, w_args, w_heap, w_applies, trivial, trivial, w_case⟩
end start1
theorem witness_1 : WitnessClaimed_1 := ⟨start1.p0, start1.e0, start1.about1, start1.theMethod, start1.args0, start1.below0, start1.atStart⟩
end Jvm.Pilot.@@N@@
