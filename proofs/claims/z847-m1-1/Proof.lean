import JvmDerived
import JvmDerived.Pilot.@@N@@Statement
import JvmDerived.Pilot.@@N@@Code
set_option linter.unusedVariables false
set_option linter.unusedSimpArgs false
@@BLOCK:NumsL.lean.txt@@
namespace Jvm.RoadKit
open Sem ClassFile Op Lib Jvm.Stand Jvm.Free Jvm.LawKit
section New
variable {p : Program} {l : Launch} {e : Env} {R : Room} {s : State} {m : MethodId} {args : Array Value} {below : List Frame} {meth : Method} {c : Code} {T : State} {locs : List Loc} {cells slots : Nat}
theorem retI (X : Stand p l e R s m args below meth c T locs cells slots) (hx : p.tables.exec = Jvm.exec) {pc : Nat} {Ls : Array Slot} {z : Int32} {rest : List Value} (hret : meth.sig.returnType = some .int) (hd : decode c.code pc = .ok (.ireturn, 1)) {fs : List Frame}
    (hl : ∀ (f : JFrame) (acts : List Action), f.method = m → f.locked = none → f.entered = [] → (doReturn e (T.setTop f) acts (some (.int z))).1 = T.setFrames fs) : Steps p.tables e below (T.setTop (mkF m pc Ls (.int z :: rest))) (T.setFrames fs) := by
  have hm' : T.vm.method? m = some meth := X.method'
  have hn : narrow .int (.int z) = .int z := rfl
  show Steps p.tables e below (T.setTop { method := m, pc := pc, locals := Ls, stack := _ :: rest, locked := none }) _
  jvm_step X.here [X.here.top, hx, hd, hm', hret, hn]
  first | (intro acts; rw [hl _ acts rfl rfl rfl]) | rw [hl _ _ rfl rfl rfl]
  exact Steps.refl _
end New
end Jvm.RoadKit
namespace Jvm.OwnFP
open Jvm.FP
/-- a double's value in units of 2^-1074 -/
def zv (a : UInt64) : Int := Core.zval Core.b64 (Core.val64 a)
/-- how many units make one -/
def U : Int := (Core.one64 : Int)
theorem U_pos : 0 < U := by have := Core.one64_pos; unfold U; omega
theorem U_pow (k : Nat) (h : k ≤ 1074) : U = 2 ^ (1074 - k) * 2 ^ k := by
  have e : (2 : Int) ^ (1074 - k) * 2 ^ k = 2 ^ 1074 := by rw [← Int.pow_add]; congr 1; omega
  rw [e]; unfold U Core.one64; rw [Int.natCast_pow]; rfl
theorem pow_pos (k : Nat) : (0 : Int) < 2 ^ k := Int.pow_pos (by decide)
theorem notNan {a : UInt64} (h : Core.DFin a) : Core.val64 a ≠ .nan := by obtain ⟨s, c, q, h⟩ := h; rw [h]; exact Core.Datum.noConfusion
theorem fin_parts {a : UInt64} (h : Core.DFin a) : ∃ (s : Bool) (c i : Nat), Core.val64 a = .fin s c ((i : Int) - 1074) ∧ Core.fits Core.b64 (.fin s c ((i : Int) - 1074)) ∧ zv a = Core.signed s (c * 2 ^ i) := by
  obtain ⟨s, c, q, h⟩ := h
  have hf := Core.val64_fits a
  rw [h] at hf
  have hq : -1074 ≤ q := by have := hf.2.1; rw [Core.qmin_b64] at this; exact this
  obtain ⟨i, hi⟩ : ∃ i : Nat, q = (i : Int) - 1074 := ⟨(q + 1074).toNat, by omega⟩
  subst hi
  refine ⟨s, c, i, h, hf, ?_⟩
  unfold zv Core.zval; rw [h]
  show Core.signed s (c * 2 ^ ((i : Int) - 1074 - Core.b64.qmin).toNat) = _
  rw [Core.qmin_b64, show ((i : Int) - 1074 - -1074).toNat = i by omega]
/-- rounding a quotient is monotone: at most a number of the format -/
theorem ratio_le {s : Bool} {A B : Nat} {e e0 : Int} {V : Core.Datum} (hB : 0 < B) (hV : Core.fits Core.b64 V) (hn : V ≠ .nan) (h0 : e0 ≤ Core.b64.qmin) (h0e : e0 ≤ e)
    (h : Core.signed s (Core.inUnits A e e0) ≤ Core.zval Core.b64 V * ((2 ^ (Core.b64.qmin - e0).toNat * B : Nat) : Int)) :
    Core.zval Core.b64 (Core.roundRatio Core.b64 s A B e) ≤ Core.zval Core.b64 V := by
  have hle := Core.zmag_roundRatio_le Core.good_b64 (s := s) (A := A) hB hV hn h0 h0e
  have hge := Core.zmag_roundRatio_ge Core.good_b64 (s := s) (A := A) hB hV h0 h0e
  have hP : 0 < 2 ^ (Core.b64.qmin - e0).toNat * B := Nat.mul_pos (Nat.two_pow_pos _) hB
  rw [Nat.mul_assoc] at hle hge
  unfold Core.zval at h ⊢
  rw [Core.sgn_roundRatio]
  rw [← Core.signed_mul] at h
  have hz : Core.zmag Core.b64 V * (2 ^ (Core.b64.qmin - e0).toNat * B) = 0 → Core.zmag Core.b64 V = 0 := fun q => by
    rcases Nat.mul_eq_zero.mp q with q | q
    · exact q
    · omega
  generalize Core.zmag Core.b64 V * (2 ^ (Core.b64.qmin - e0).toNat * B) = vP at *
  generalize Core.sgn V = t at *
  generalize Core.zmag Core.b64 V = z at *
  generalize Core.zmag Core.b64 (Core.roundRatio Core.b64 s A B e) = r at *
  generalize Core.inUnits A e e0 = x at *
  cases s <;> cases t <;> simp only [Core.signed, if_true, Bool.false_eq_true, if_false] at h ⊢
  · have := hle (by omega); omega
  · have := hle (by omega); have := hz (by omega); omega
  · omega
  · have := hge (by omega); omega
theorem ratio_ge {s : Bool} {A B : Nat} {e e0 : Int} {V : Core.Datum} (hB : 0 < B) (hV : Core.fits Core.b64 V) (hn : V ≠ .nan) (h0 : e0 ≤ Core.b64.qmin) (h0e : e0 ≤ e)
    (h : Core.zval Core.b64 V * ((2 ^ (Core.b64.qmin - e0).toNat * B : Nat) : Int) ≤ Core.signed s (Core.inUnits A e e0)) :
    Core.zval Core.b64 V ≤ Core.zval Core.b64 (Core.roundRatio Core.b64 s A B e) := by
  have h1 := ratio_le (s := !s) (V := Core.negate V) hB (Core.negate_fits hV) (Core.negate_ne_nan hn) h0 h0e (by
    rw [Core.zval_negate, Int.neg_mul, Core.signed_not]; exact Int.neg_le_neg h)
  rw [Core.zval_negate, ← Core.negate_roundRatio, Core.zval_negate] at h1
  omega
theorem signed_pos_parts {t : Bool} {n : Nat} (h : 0 < Core.signed t n) : t = false ∧ 0 < n := by
  cases t <;> simp [Core.signed] at h ⊢ <;> omega
/-- the quotient as a rounded ratio -/
theorem ddiv_parts {a b : UInt64} (ha : Core.DFin a) (hb : Core.DFin b) (pb : 0 < zv b) :
    ∃ (s : Bool) (c d i j : Nat), zv a = Core.signed s (c * 2 ^ i) ∧ zv b = ((d * 2 ^ j : Nat) : Int) ∧ 0 < d ∧ Core.val64 (FP.ddiv a b) = Core.roundRatio Core.b64 s c d ((i : Int) - (j : Int)) := by
  obtain ⟨s, c, i, h1, f1, z1⟩ := fin_parts ha
  obtain ⟨t, d, j, h2, f2, z2⟩ := fin_parts hb
  rw [z2] at pb
  obtain ⟨rfl, hd⟩ := signed_pos_parts pb
  have hd' : 0 < d := Nat.pos_of_mul_pos_right hd
  refine ⟨s, c, d, i, j, z1, z2, hd', ?_⟩
  show Core.val64 (Core.ddiv a b) = _
  rw [Core.val64_ddiv, h1, h2]
  show (if d = 0 then _ else Core.roundRatio Core.b64 (s != false) c d ((i : Int) - 1074 - ((j : Int) - 1074))) = _
  rw [if_neg (by omega), show ((i : Int) - 1074 - ((j : Int) - 1074)) = (i : Int) - j by omega]
  cases s <;> rfl
theorem div_key {s : Bool} {c d i j : Nat} : Core.signed s (Core.inUnits c ((i : Int) - j) (-1074 - (j : Int))) = Core.signed s (c * 2 ^ i) * U ∧ ((2 ^ (Core.b64.qmin - (-1074 - (j : Int))).toNat * d : Nat) : Int) = ((d * 2 ^ j : Nat) : Int) := by
  constructor
  · unfold Core.inUnits
    rw [show ((i : Int) - j - (-1074 - (j : Int))).toNat = i + 1074 by omega, Nat.pow_add, ← Nat.mul_assoc, Core.signed_mul]
    rfl
  · rw [Core.qmin_b64, show (-1074 - (-1074 - (j : Int))).toNat = j by omega, Nat.mul_comm]
theorem ddiv_le {a b V : UInt64} (ha : Core.DFin a) (hb : Core.DFin b) (pb : 0 < zv b) (hV : Core.val64 V ≠ .nan) (h : zv a * U ≤ zv V * zv b) : zv (FP.ddiv a b) ≤ zv V := by
  obtain ⟨s, c, d, i, j, z1, z2, hd, hr⟩ := ddiv_parts ha hb pb
  have e : zv (FP.ddiv a b) = Core.zval Core.b64 (Core.roundRatio Core.b64 s c d ((i : Int) - (j : Int))) := by unfold zv; rw [hr]
  rw [e]
  refine ratio_le (e0 := -1074 - (j : Int)) hd (Core.val64_fits V) hV (by rw [Core.qmin_b64]; omega) (by omega) ?_
  rw [(div_key (d := d)).1, (div_key (s := s) (c := c) (i := i)).2, ← z1, ← z2]; exact h
theorem ddiv_ge {a b V : UInt64} (ha : Core.DFin a) (hb : Core.DFin b) (pb : 0 < zv b) (hV : Core.val64 V ≠ .nan) (h : zv V * zv b ≤ zv a * U) : zv V ≤ zv (FP.ddiv a b) := by
  obtain ⟨s, c, d, i, j, z1, z2, hd, hr⟩ := ddiv_parts ha hb pb
  have e : zv (FP.ddiv a b) = Core.zval Core.b64 (Core.roundRatio Core.b64 s c d ((i : Int) - (j : Int))) := by unfold zv; rw [hr]
  rw [e]
  refine ratio_ge (e0 := -1074 - (j : Int)) hd (Core.val64_fits V) hV (by rw [Core.qmin_b64]; omega) (by omega) ?_
  rw [(div_key (d := d)).1, (div_key (s := s) (c := c) (i := i)).2, ← z1, ← z2]; exact h
theorem ddiv_nn {a b : UInt64} (ha : Core.DFin a) (hb : Core.DFin b) (pb : 0 < zv b) : Core.val64 (FP.ddiv a b) ≠ .nan := by
  obtain ⟨s, c, d, i, j, z1, z2, hd, hr⟩ := ddiv_parts ha hb pb
  rw [hr]; exact Core.roundRatio_ne_nan _ _ _ _ _
/-- two quotients of one value -/
theorem ddiv_congr {a b a' b' : UInt64} (ha : Core.DFin a) (hb : Core.DFin b) (pb : 0 < zv b) (ha' : Core.DFin a') (hb' : Core.DFin b') (pb' : 0 < zv b') (hs : Core.sgn (Core.val64 a) = Core.sgn (Core.val64 a')) (h : zv a * zv b' = zv a' * zv b) : FP.ddiv a b = FP.ddiv a' b' := by
  obtain ⟨s, c, i, h1, f1, z1⟩ := fin_parts ha
  obtain ⟨s', c', i', h1', f1', z1'⟩ := fin_parts ha'
  obtain ⟨t, d, j, h2, f2, z2⟩ := fin_parts hb
  obtain ⟨t', d', j', h2', f2', z2'⟩ := fin_parts hb'
  rw [z2] at pb; rw [z2'] at pb'
  obtain ⟨rfl, hd⟩ := signed_pos_parts pb
  obtain ⟨rfl, hd'⟩ := signed_pos_parts pb'
  have hd1 : 0 < d := Nat.pos_of_mul_pos_right hd
  have hd1' : 0 < d' := Nat.pos_of_mul_pos_right hd'
  have es : s = s' := by rw [h1, h1'] at hs; exact hs
  subst es
  show Core.of64 (Core.quotient Core.b64 (Core.val64 a) (Core.val64 b)) = Core.of64 (Core.quotient Core.b64 (Core.val64 a') (Core.val64 b'))
  congr 1
  rw [h1, h2, h1', h2']
  show (if d = 0 then _ else Core.roundRatio Core.b64 (s != false) c d ((i : Int) - 1074 - ((j : Int) - 1074))) = (if d' = 0 then _ else Core.roundRatio Core.b64 (s != false) c' d' ((i' : Int) - 1074 - ((j' : Int) - 1074)))
  rw [if_neg (by omega), if_neg (by omega)]
  apply Core.roundRatio_congr hd1 hd1'
  have hn : (c * 2 ^ i) * (d' * 2 ^ j') = (c' * 2 ^ i') * (d * 2 ^ j) := by
    rw [z1, z1', z2, z2'] at h
    have : ∀ n : Nat, Core.signed false n = (n : Int) := fun _ => rfl
    rw [this, this, ← Core.signed_mul, ← Core.signed_mul] at h
    have := congrArg Int.natAbs h
    rwa [Core.natAbs_signed, Core.natAbs_signed] at this
  generalize hE : (i : Int) - 1074 - ((j : Int) - 1074) = E
  generalize hE' : (i' : Int) - 1074 - ((j' : Int) - 1074) = E'
  have k1 : c * d' * 2 ^ (i + j') = c' * d * 2 ^ (i' + j) := by
    rw [Nat.pow_add, Nat.pow_add]
    calc c * d' * (2 ^ i * 2 ^ j') = (c * 2 ^ i) * (d' * 2 ^ j') := by ac_rfl
      _ = (c' * 2 ^ i') * (d * 2 ^ j) := hn
      _ = c' * d * (2 ^ i' * 2 ^ j) := by ac_rfl
  by_cases hle : i' + j ≤ i + j'
  · have e1 : (E - E').toNat = i + j' - (i' + j) := by omega
    have e2 : (E' - E).toNat = 0 := by omega
    rw [e1, e2]
    have : 2 ^ (i + j') = 2 ^ (i + j' - (i' + j)) * 2 ^ (i' + j) := by rw [← Nat.pow_add]; congr 1; omega
    rw [this, ← Nat.mul_assoc] at k1
    simpa using Nat.eq_of_mul_eq_mul_right (Nat.two_pow_pos _) k1
  · have e1 : (E - E').toNat = 0 := by omega
    have e2 : (E' - E).toNat = i' + j - (i + j') := by omega
    rw [e1, e2]
    have : 2 ^ (i' + j) = 2 ^ (i' + j - (i + j')) * 2 ^ (i + j') := by rw [← Nat.pow_add]; congr 1; omega
    rw [this, ← Nat.mul_assoc] at k1
    simpa using Nat.eq_of_mul_eq_mul_right (Nat.two_pow_pos _) k1
theorem dmul_parts {a b : UInt64} (ha : Core.DFin a) (hb : Core.DFin b) :
    ∃ (s : Bool) (n : Nat) (e : Int), Core.val64 (FP.dmul a b) = Core.round Core.b64 (.fin s n e) ∧ -2148 ≤ e ∧ Core.signed s (Core.inUnits n e (-2148)) = zv a * zv b := by
  obtain ⟨s, c, i, h1, f1, z1⟩ := fin_parts ha
  obtain ⟨t, d, j, h2, f2, z2⟩ := fin_parts hb
  obtain ⟨p1, p2, p3⟩ := Core.product_units f1 f2
  refine ⟨s != t, c * d, (i : Int) - 1074 + ((j : Int) - 1074), ?_, by omega, ?_⟩
  · show Core.val64 (Core.dmul a b) = _
    rw [Core.val64_dmul, h1, h2, p1]
  · rw [z1, z2]
    unfold Core.inUnits
    rw [show ((i : Int) - 1074 + ((j : Int) - 1074) - (-2148)).toNat = i + j by omega, Nat.pow_add,
      show c * d * (2 ^ i * 2 ^ j) = (c * 2 ^ i) * (d * 2 ^ j) by ac_rfl, Core.signed_xor]
theorem mul_key : ((2 ^ (Core.b64.qmin - (-2148 : Int)).toNat : Nat) : Int) = U := by
  rw [Core.qmin_b64]; rfl
theorem dmul_le {a b V : UInt64} (ha : Core.DFin a) (hb : Core.DFin b) (hV : Core.val64 V ≠ .nan) (h : zv a * zv b ≤ zv V * U) : zv (FP.dmul a b) ≤ zv V := by
  obtain ⟨s, n, e, h1, h2, h3⟩ := dmul_parts ha hb
  have e1 : zv (FP.dmul a b) = Core.zval Core.b64 (Core.round Core.b64 (.fin s n e)) := by unfold zv; rw [h1]
  rw [e1]
  refine Core.zval_round_le Core.good_b64 (e0 := -2148) (Core.val64_fits V) hV (by rw [Core.qmin_b64]; decide) h2 ?_
  rw [h3, mul_key]; exact h
theorem dmul_ge {a b V : UInt64} (ha : Core.DFin a) (hb : Core.DFin b) (hV : Core.val64 V ≠ .nan) (h : zv V * U ≤ zv a * zv b) : zv V ≤ zv (FP.dmul a b) := by
  obtain ⟨s, n, e, h1, h2, h3⟩ := dmul_parts ha hb
  have e1 : zv (FP.dmul a b) = Core.zval Core.b64 (Core.round Core.b64 (.fin s n e)) := by unfold zv; rw [h1]
  rw [e1]
  refine Core.zval_round_ge Core.good_b64 (e0 := -2148) (Core.val64_fits V) hV (by rw [Core.qmin_b64]; decide) h2 ?_
  rw [h3, mul_key]; exact h
theorem dmul_nn {a b : UInt64} (ha : Core.DFin a) (hb : Core.DFin b) : Core.val64 (FP.dmul a b) ≠ .nan := by
  obtain ⟨s, n, e, h1, h2, h3⟩ := dmul_parts ha hb
  rw [h1]; exact Core.roundRatio_ne_nan _ _ _ _ _
theorem dadd_le {a b V : UInt64} (ha : Core.DFin a) (hb : Core.DFin b) (hV : Core.val64 V ≠ .nan) (h : zv a + zv b ≤ zv V) : zv (FP.dadd a b) ≤ zv V := by
  have := Core.sum_le Core.good_b64 ha hb (Core.val64_fits a) (Core.val64_fits b) (Core.val64_fits V) hV h
  unfold zv; show Core.zval Core.b64 (Core.val64 (Core.dadd a b)) ≤ _
  rw [Core.val64_dadd]; exact this
theorem dadd_ge {a b V : UInt64} (ha : Core.DFin a) (hb : Core.DFin b) (hV : Core.val64 V ≠ .nan) (h : zv V ≤ zv a + zv b) : zv V ≤ zv (FP.dadd a b) := by
  have := Core.sum_ge Core.good_b64 ha hb (Core.val64_fits a) (Core.val64_fits b) (Core.val64_fits V) hV h
  unfold zv; show _ ≤ Core.zval Core.b64 (Core.val64 (Core.dadd a b))
  rw [Core.val64_dadd]; exact this
theorem dadd_nn {a b : UInt64} (ha : Core.DFin a) (hb : Core.DFin b) : Core.val64 (FP.dadd a b) ≠ .nan := by
  have := Core.dadd_out (notNaN_of ha) hb
  exact (Core.notNaN_iff _).mp this
where notNaN_of {a : UInt64} (h : Core.DFin a) : Core.dIsNaN a = false := (Core.notNaN_iff a).mpr (notNan h)
theorem zv_dneg (a : UInt64) : zv (FP.dneg a) = - zv a := by
  unfold zv; rw [FP.val64_dneg, Core.zval_negate]
theorem fin_dneg {a : UInt64} (h : Core.DFin a) : Core.DFin (FP.dneg a) := by
  obtain ⟨s, c, q, h⟩ := h
  refine ⟨!s, c, q, ?_⟩
  rw [FP.val64_dneg, h]; rfl
theorem dsub_dadd {a b : UInt64} (hb : Core.DFin b) : FP.dsub a b = FP.dadd a (FP.dneg b) := by
  have h1 : FP.dneg b = Core.dneg b := FP.dneg_core ((Core.notNaN_iff b).mpr (notNan hb))
  rw [h1]; exact Core.dsub_eq a b
theorem dsub_le {a b V : UInt64} (ha : Core.DFin a) (hb : Core.DFin b) (hV : Core.val64 V ≠ .nan) (h : zv a - zv b ≤ zv V) : zv (FP.dsub a b) ≤ zv V := by
  rw [dsub_dadd hb]; exact dadd_le ha (fin_dneg hb) hV (by rw [zv_dneg]; omega)
theorem dsub_ge {a b V : UInt64} (ha : Core.DFin a) (hb : Core.DFin b) (hV : Core.val64 V ≠ .nan) (h : zv V ≤ zv a - zv b) : zv V ≤ zv (FP.dsub a b) := by
  rw [dsub_dadd hb]; exact dadd_ge ha (fin_dneg hb) hV (by rw [zv_dneg]; omega)
theorem dsub_nn {a b : UInt64} (ha : Core.DFin a) (hb : Core.DFin b) : Core.val64 (FP.dsub a b) ≠ .nan := by
  rw [dsub_dadd hb]; exact dadd_nn ha (fin_dneg hb)
/-- finite, if it lies between two finite ones -/
theorem fin_between {a V W : UInt64} (n : Core.val64 a ≠ .nan) (hV : Core.DFin V) (hW : Core.DFin W) (h1 : zv V ≤ zv a) (h2 : zv a ≤ zv W) : Core.DFin a := by
  have hv := hV.zval_lt; have hw := hW.zval_lt
  unfold zv Core.zval at h1 h2
  cases e : Core.val64 a with
  | nan => exact absurd e n
  | fin s c q => exact ⟨s, c, q, e⟩
  | inf s =>
    exfalso
    rw [e] at h1 h2
    have t : Core.zmag Core.b64 (.inf s) = Core.b64.tails * 2 ^ (Core.b64.exps - 2) := rfl
    rw [t] at h1 h2
    generalize Core.b64.tails * 2 ^ (Core.b64.exps - 2) = top at *
    generalize Core.zmag Core.b64 (Core.val64 V) = v at *
    generalize Core.zmag Core.b64 (Core.val64 W) = w at *
    generalize Core.sgn (Core.val64 V) = sv at *
    generalize Core.sgn (Core.val64 W) = sw at *
    cases s <;> cases sv <;> cases sw <;> simp [Core.signed, Core.sgn] at h1 h2 <;> omega
theorem signed_of (n : Int) : Core.signed (decide (n < 0)) n.natAbs = n := by
  unfold Core.signed
  by_cases q : n < 0
  · simp [q]; omega
  · simp [q]; omega
/-- n * 2^E units are a double -/
theorem repE (n : Int) (E : Nat) (hn : n.natAbs < 2 ^ 53) (hE : E ≤ 2045) : ∃ V, Core.DFin V ∧ zv V = n * 2 ^ E := by
  have hq : Core.b64.qmax = 971 := by decide
  obtain ⟨c', q', h1, h2⟩ := Core.round_exact Core.good_b64 (decide (n < 0)) (c := n.natAbs) (q := (E : Int) - 1074) hn (by rw [Core.qmin_b64]; omega) (by rw [hq]; omega)
  have h3 : Core.val64 (Core.of64 (Core.round Core.b64 (.fin (decide (n < 0)) n.natAbs ((E : Int) - 1074)))) = .fin (decide (n < 0)) c' q' := by
    rw [Core.val64_of64 (Core.round_fits Core.good_b64 _), h1]
  refine ⟨_, ⟨_, _, _, h3⟩, ?_⟩
  unfold zv Core.zval
  rw [h3]
  show Core.signed (decide (n < 0)) (Core.inUnits c' q' Core.b64.qmin) = _
  rw [h2]
  unfold Core.inUnits
  rw [Core.qmin_b64, show ((E : Int) - 1074 - -1074).toNat = E by omega, Core.signed_mul, signed_of, Int.natCast_pow]
  rfl
/-- n / 2^k is a double -/
theorem rep (n : Int) (k : Nat) (hn : n.natAbs ≤ 2 ^ 53) (hk : k ≤ 1000) : ∃ V, Core.DFin V ∧ zv V * 2 ^ k = n * U := by
  by_cases h : n.natAbs < 2 ^ 53
  · obtain ⟨V, fV, zV⟩ := repE n (1074 - k) h (by omega)
    exact ⟨V, fV, by rw [zV, U_pow k (by omega), Int.mul_assoc]⟩
  · by_cases hs : n < 0
    · obtain ⟨V, fV, zV⟩ := repE (-1) (53 + (1074 - k)) (by decide) (by omega)
      exact ⟨V, fV, by rw [zV, U_pow k (by omega), show n = -1 * 2 ^ 53 by omega, Int.pow_add]; ac_rfl⟩
    · obtain ⟨V, fV, zV⟩ := repE 1 (53 + (1074 - k)) (by decide) (by omega)
      exact ⟨V, fV, by rw [zV, U_pow k (by omega), show n = 1 * 2 ^ 53 by omega, Int.pow_add]; ac_rfl⟩
/-- and so are, with the infinities, the numbers up to 2^53 * 2^E -/
theorem repI (n : Int) (E : Nat) (hn : n.natAbs ≤ 2 ^ 53) (hE : E ≤ 2045) : ∃ V, Core.val64 V ≠ .nan ∧ zv V = n * 2 ^ E := by
  by_cases h : n.natAbs < 2 ^ 53
  · obtain ⟨V, fV, zV⟩ := repE n E h hE; exact ⟨V, notNan fV, zV⟩
  · by_cases hE2 : E + 53 ≤ 2045
    · by_cases hs : n < 0
      · obtain ⟨V, fV, zV⟩ := repE (-1) (53 + E) (by decide) (by omega)
        exact ⟨V, notNan fV, by rw [zV, show n = -1 * 2 ^ 53 by omega, Int.pow_add, Int.mul_assoc]⟩
      · obtain ⟨V, fV, zV⟩ := repE 1 (53 + E) (by decide) (by omega)
        exact ⟨V, notNan fV, by rw [zV, show n = 1 * 2 ^ 53 by omega, Int.pow_add, Int.mul_assoc]⟩
    · by_cases hE3 : E = 2045
      · subst hE3
        have v1 : Core.val64 9218868437227405312 = .inf false := by decide +kernel
        have v2 : Core.val64 18442240474082181120 = .inf true := by decide +kernel
        have z1 : Core.zmag Core.b64 (.inf false) = 2 ^ 53 * 2 ^ 2045 := by decide +kernel
        by_cases hs : n < 0
        · refine ⟨18442240474082181120, by rw [v2]; exact Core.Datum.noConfusion, ?_⟩
          unfold zv Core.zval; rw [v2]
          show Core.signed true (Core.zmag Core.b64 (.inf false)) = _
          rw [z1, Core.signed_mul, show n = -2 ^ 53 by omega, Int.natCast_pow]; rfl
        · refine ⟨9218868437227405312, by rw [v1]; exact Core.Datum.noConfusion, ?_⟩
          unfold zv Core.zval; rw [v1]
          show Core.signed false (Core.zmag Core.b64 (.inf false)) = _
          rw [z1, Core.signed_mul, show n = 2 ^ 53 by omega, Int.natCast_pow]; rfl
      · by_cases hs : n < 0
        · obtain ⟨V, fV, zV⟩ := repE (-2 ^ 52) (1 + E) (by decide) (by omega)
          exact ⟨V, notNan fV, by rw [zV, show n = -2 ^ 52 * 2 ^ 1 by omega, Int.pow_add, Int.mul_assoc]⟩
        · obtain ⟨V, fV, zV⟩ := repE (2 ^ 52) (1 + E) (by decide) (by omega)
          exact ⟨V, notNan fV, by rw [zV, show n = 2 ^ 52 * 2 ^ 1 by omega, Int.pow_add, Int.mul_assoc]⟩
theorem dmul_eq {a b V : UInt64} (ha : Core.DFin a) (hb : Core.DFin b) (hV : Core.val64 V ≠ .nan) (h : zv a * zv b = zv V * U) : zv (FP.dmul a b) = zv V := by
  have := dmul_le ha hb hV (Int.le_of_eq h); have := dmul_ge ha hb hV (Int.le_of_eq h.symm); omega
/-! ## values n / 2^k -/
/-- finite, and worth n / 2^k -/
def DS (n : Int) (k : Nat) (a : UInt64) : Prop := Core.DFin a ∧ zv a * 2 ^ k = n * U
def Le (a : UInt64) (n : Int) (k : Nat) : Prop := zv a * 2 ^ k ≤ n * U
def Ge (a : UInt64) (n : Int) (k : Nat) : Prop := n * U ≤ zv a * 2 ^ k
theorem DS.le {n : Int} {k : Nat} {a : UInt64} (h : DS n k a) : Le a n k := Int.le_of_eq h.2
theorem DS.ge {n : Int} {k : Nat} {a : UInt64} (h : DS n k a) : Ge a n k := Int.le_of_eq h.2.symm
theorem DS.int {i : Int} {a : UInt64} (h : Core.DInt i a) : DS i 0 a := by
  refine ⟨?_, ?_⟩
  · unfold Core.DInt at h
    cases e : Core.val64 a with
    | nan => rw [e] at h; exact h.elim
    | inf => rw [e] at h; exact h.elim
    | fin s c q => exact ⟨s, c, q, e⟩
  · show zv a * 2 ^ 0 = i * U
    rw [Int.pow_zero, Int.mul_one]; exact Core.DInt_zval h
theorem DS.i2d (x : Int32) : DS x.toInt 0 (FP.i2d x) := DS.int (Core.i2d_int x)
theorem DS.l2d {x : Int64} (h : x.toInt.natAbs ≤ 2 ^ 53) : DS x.toInt 0 (FP.l2d x) := DS.int (Core.l2d_int h)
theorem mul_cancel {a b c : Int} (hc : 0 < c) (h : a * c = b * c) : a = b := Int.eq_of_mul_eq_mul_right (by omega) h
theorem le_cancel {a b c : Int} (hc : 0 < c) (h : a * c ≤ b * c) : a ≤ b := Int.le_of_mul_le_mul_right h hc
theorem DS.up {n : Int} {k : Nat} {a : UInt64} (h : DS n k a) (j : Nat) : DS (n * 2 ^ j) (k + j) a := ⟨h.1, by
  rw [Int.pow_add, ← Int.mul_assoc, h.2]; grind⟩
theorem Le.up {n : Int} {k : Nat} {a : UInt64} (h : Le a n k) (j : Nat) : Le a (n * 2 ^ j) (k + j) := by
  unfold Le at *
  have := Int.mul_le_mul_of_nonneg_right h (Int.le_of_lt (pow_pos j))
  rw [Int.pow_add]; grind
theorem Ge.up {n : Int} {k : Nat} {a : UInt64} (h : Ge a n k) (j : Nat) : Ge a (n * 2 ^ j) (k + j) := by
  unfold Ge at *
  have := Int.mul_le_mul_of_nonneg_right h (Int.le_of_lt (pow_pos j))
  rw [Int.pow_add]; grind
/-- what lies between two bounds n / 2^k is finite -/
theorem fin_of {a : UInt64} {n m : Int} {k j : Nat} (nn : Core.val64 a ≠ .nan) (h1 : Ge a n k) (h2 : Le a m j) (bn : n.natAbs ≤ 2 ^ 53) (bm : m.natAbs ≤ 2 ^ 53) (hk : k ≤ 1000) (hj : j ≤ 1000) : Core.DFin a := by
  obtain ⟨V, fV, zV⟩ := rep n k bn hk
  obtain ⟨W, fW, zW⟩ := rep m j bm hj
  refine fin_between nn fV fW ?_ ?_
  · exact le_cancel (pow_pos k) (by unfold Ge at h1; omega)
  · exact le_cancel (pow_pos j) (by unfold Le at h2; omega)
theorem DS.of {a : UInt64} {n : Int} {k : Nat} (nn : Core.val64 a ≠ .nan) (h1 : Ge a n k) (h2 : Le a n k) (bn : n.natAbs ≤ 2 ^ 53) (hk : k ≤ 1000) : DS n k a :=
  ⟨fin_of nn h1 h2 bn bn hk hk, by unfold Ge at h1; unfold Le at h2; omega⟩
/-! the operations against bounds -/
theorem add_Le {a b : UInt64} {n m q : Int} {k : Nat} (fa : Core.DFin a) (fb : Core.DFin b) (ha : Le a n k) (hb : Le b m k) (h : n + m ≤ q) (bq : q.natAbs ≤ 2 ^ 53) (hk : k ≤ 1000) : Le (FP.dadd a b) q k := by
  obtain ⟨V, fV, zV⟩ := rep q k bq hk
  have h1 : zv (FP.dadd a b) ≤ zv V := dadd_le fa fb (notNan fV) (le_cancel (pow_pos k) (by
    unfold Le at ha hb
    rw [Int.add_mul, zV]
    have := Int.mul_le_mul_of_nonneg_right h (Int.le_of_lt U_pos)
    rw [Int.add_mul] at this; omega))
  unfold Le; rw [← zV]; exact Int.mul_le_mul_of_nonneg_right h1 (Int.le_of_lt (pow_pos k))
theorem add_Ge {a b : UInt64} {n m q : Int} {k : Nat} (fa : Core.DFin a) (fb : Core.DFin b) (ha : Ge a n k) (hb : Ge b m k) (h : q ≤ n + m) (bq : q.natAbs ≤ 2 ^ 53) (hk : k ≤ 1000) : Ge (FP.dadd a b) q k := by
  obtain ⟨V, fV, zV⟩ := rep q k bq hk
  have h1 : zv V ≤ zv (FP.dadd a b) := dadd_ge fa fb (notNan fV) (le_cancel (pow_pos k) (by
    unfold Ge at ha hb
    rw [Int.add_mul, zV]
    have := Int.mul_le_mul_of_nonneg_right h (Int.le_of_lt U_pos)
    rw [Int.add_mul] at this; omega))
  unfold Ge; rw [← zV]; exact Int.mul_le_mul_of_nonneg_right h1 (Int.le_of_lt (pow_pos k))
theorem DS.add {a b : UInt64} {n m : Int} {k : Nat} (ha : DS n k a) (hb : DS m k b) (bq : (n + m).natAbs ≤ 2 ^ 53) (hk : k ≤ 1000) : DS (n + m) k (FP.dadd a b) :=
  DS.of (dadd_nn ha.1 hb.1) (add_Ge ha.1 hb.1 ha.ge hb.ge (Int.le_refl _) bq hk) (add_Le ha.1 hb.1 ha.le hb.le (Int.le_refl _) bq hk) bq hk
theorem DS.neg {a : UInt64} {n : Int} {k : Nat} (ha : DS n k a) : DS (-n) k (FP.dneg a) := ⟨fin_dneg ha.1, by rw [zv_dneg, Int.neg_mul, ha.2, Int.neg_mul]⟩
theorem DS.sub {a b : UInt64} {n m : Int} {k : Nat} (ha : DS n k a) (hb : DS m k b) (bq : (n - m).natAbs ≤ 2 ^ 53) (hk : k ≤ 1000) : DS (n - m) k (FP.dsub a b) := by
  rw [dsub_dadd hb.1, show n - m = n + -m by omega]; exact ha.add hb.neg (by rw [← Int.sub_eq_add_neg]; exact bq) hk
theorem DS.mul {a b : UInt64} {n m : Int} {k j : Nat} (ha : DS n k a) (hb : DS m j b) (bq : (n * m).natAbs ≤ 2 ^ 53) (hk : k + j ≤ 1000) : DS (n * m) (k + j) (FP.dmul a b) := by
  obtain ⟨V, fV, zV⟩ := rep (n * m) (k + j) bq hk
  have e : zv a * zv b = zv V * U := by
    have h1 := ha.2; have h2 := hb.2
    refine mul_cancel (pow_pos (k + j)) ?_
    calc zv a * zv b * 2 ^ (k + j) = (zv a * 2 ^ k) * (zv b * 2 ^ j) := by rw [Int.pow_add]; grind
      _ = (n * U) * (m * U) := by rw [h1, h2]
      _ = (n * m * U) * U := by grind
      _ = zv V * U * 2 ^ (k + j) := by rw [← zV]; grind
  have g1 := dmul_le ha.1 hb.1 (notNan fV) (Int.le_of_eq e)
  have g2 := dmul_ge ha.1 hb.1 (notNan fV) (Int.le_of_eq e.symm)
  have g : zv (FP.dmul a b) = zv V := by omega
  exact ⟨fin_between (dmul_nn ha.1 hb.1) fV fV (by omega) (by omega), by rw [g, zV]⟩
theorem DS.pos {b : UInt64} {m : Int} {j : Nat} (hb : DS m j b) (hm : 0 < m) : 0 < zv b := by
  have h1 : 0 < zv b * 2 ^ j := by rw [hb.2]; exact Int.mul_pos hm U_pos
  exact Int.pos_of_mul_pos_left h1 (pow_pos j)
/-- a quotient against a bound q / 2^l -/
theorem div_Le {a b : UInt64} {n m q : Int} {k j l : Nat} (ha : DS n k a) (hb : DS m j b) (hm : 0 < m) (h : n * 2 ^ j * 2 ^ l ≤ q * m * 2 ^ k) (bq : q.natAbs ≤ 2 ^ 53) (hl : l ≤ 1000) : Le (FP.ddiv a b) q l := by
  obtain ⟨V, fV, zV⟩ := rep q l bq hl
  have h1 : zv (FP.ddiv a b) ≤ zv V := ddiv_le ha.1 hb.1 (hb.pos hm) (notNan fV) (by
    refine le_cancel (pow_pos (k + j + l)) ?_
    have e1 : zv a * U * 2 ^ (k + j + l) = (n * 2 ^ j * 2 ^ l) * (U * U) := by
      calc zv a * U * 2 ^ (k + j + l) = (zv a * 2 ^ k) * U * 2 ^ j * 2 ^ l := by rw [Int.pow_add, Int.pow_add]; grind
        _ = _ := by rw [ha.2]; grind
    have e2 : zv V * zv b * 2 ^ (k + j + l) = (q * m * 2 ^ k) * (U * U) := by
      calc zv V * zv b * 2 ^ (k + j + l) = (zv V * 2 ^ l) * (zv b * 2 ^ j) * 2 ^ k := by rw [Int.pow_add, Int.pow_add]; grind
        _ = _ := by rw [zV, hb.2]; grind
    rw [e1, e2]
    exact Int.mul_le_mul_of_nonneg_right h (Int.le_of_lt (Int.mul_pos U_pos U_pos)))
  unfold Le; rw [← zV]; exact Int.mul_le_mul_of_nonneg_right h1 (Int.le_of_lt (pow_pos l))
theorem div_Ge {a b : UInt64} {n m q : Int} {k j l : Nat} (ha : DS n k a) (hb : DS m j b) (hm : 0 < m) (h : q * m * 2 ^ k ≤ n * 2 ^ j * 2 ^ l) (bq : q.natAbs ≤ 2 ^ 53) (hl : l ≤ 1000) : Ge (FP.ddiv a b) q l := by
  obtain ⟨V, fV, zV⟩ := rep q l bq hl
  have h1 : zv V ≤ zv (FP.ddiv a b) := ddiv_ge ha.1 hb.1 (hb.pos hm) (notNan fV) (by
    refine le_cancel (pow_pos (k + j + l)) ?_
    have e1 : zv a * U * 2 ^ (k + j + l) = (n * 2 ^ j * 2 ^ l) * (U * U) := by
      calc zv a * U * 2 ^ (k + j + l) = (zv a * 2 ^ k) * U * 2 ^ j * 2 ^ l := by rw [Int.pow_add, Int.pow_add]; grind
        _ = _ := by rw [ha.2]; grind
    have e2 : zv V * zv b * 2 ^ (k + j + l) = (q * m * 2 ^ k) * (U * U) := by
      calc zv V * zv b * 2 ^ (k + j + l) = (zv V * 2 ^ l) * (zv b * 2 ^ j) * 2 ^ k := by rw [Int.pow_add, Int.pow_add]; grind
        _ = _ := by rw [zV, hb.2]; grind
    rw [e1, e2]
    exact Int.mul_le_mul_of_nonneg_right h (Int.le_of_lt (Int.mul_pos U_pos U_pos)))
  unfold Ge; rw [← zV]; exact Int.mul_le_mul_of_nonneg_right h1 (Int.le_of_lt (pow_pos l))
theorem DS.div {a b : UInt64} {n m q : Int} {k j l : Nat} (ha : DS n k a) (hb : DS m j b) (hm : 0 < m) (h : n * 2 ^ j * 2 ^ l = q * m * 2 ^ k) (bq : q.natAbs ≤ 2 ^ 53) (hl : l ≤ 1000) : DS q l (FP.ddiv a b) :=
  DS.of (ddiv_nn ha.1 hb.1 (hb.pos hm)) (div_Ge ha hb hm (Int.le_of_eq h.symm) bq hl) (div_Le ha hb hm (Int.le_of_eq h) bq hl) bq hl
/-! comparisons -/
theorem cmp_zv {a b : UInt64} (ha : Core.val64 a ≠ .nan) (hb : Core.val64 b ≠ .nan) : FP.dcmp a b = some (compare (zv a) (zv b)) := Core.dcmp_zval ha hb
theorem cmpV_of {a b : UInt64} (ha : Core.val64 a ≠ .nan) (hb : Core.val64 b ≠ .nan) (o : ClassFile.CmpOp) : Op.cmpValue (FP.dcmp a b) o = if zv a < zv b then -1 else if zv a = zv b then 0 else 1 := by
  rw [cmp_zv ha hb, Core.compare_ite]
  split
  · rfl
  · split <;> rfl
theorem cmp_gt {a b : UInt64} (ha : Core.val64 a ≠ .nan) (hb : Core.val64 b ≠ .nan) (h : zv b < zv a) (o : ClassFile.CmpOp) : Op.cmpValue (FP.dcmp a b) o = 1 := by
  rw [cmpV_of ha hb, if_neg (by omega), if_neg (by omega)]
theorem cmp_lt {a b : UInt64} (ha : Core.val64 a ≠ .nan) (hb : Core.val64 b ≠ .nan) (h : zv a < zv b) (o : ClassFile.CmpOp) : Op.cmpValue (FP.dcmp a b) o = -1 := by
  rw [cmpV_of ha hb, if_pos h]
theorem cmp_eq {a b : UInt64} (ha : Core.val64 a ≠ .nan) (hb : Core.val64 b ≠ .nan) (h : zv a = zv b) (o : ClassFile.CmpOp) : Op.cmpValue (FP.dcmp a b) o = 0 := by
  rw [cmpV_of ha hb, if_neg (by omega), if_pos h]
theorem zv_zero : zv FP.dconst0 = 0 := Core.zval64_zero
theorem cmp_neg {a b : UInt64} {k : Int32} {o : ClassFile.CmpOp} (h : Op.cmpValue (FP.dcmp a b) o = k) (ha : Core.val64 a ≠ .nan) (hb : Core.val64 b ≠ .nan) : k < 0 ↔ zv a < zv b := by
  rw [← h, cmpV_of ha hb]; split
  · exact ⟨fun _ => by assumption, fun _ => by decide⟩
  · split
    · exact ⟨fun h => absurd h (by decide), fun h => absurd h (by assumption)⟩
    · exact ⟨fun h => absurd h (by decide), fun h => absurd h (by assumption)⟩
theorem cmp_pos {a b : UInt64} {k : Int32} {o : ClassFile.CmpOp} (h : Op.cmpValue (FP.dcmp a b) o = k) (ha : Core.val64 a ≠ .nan) (hb : Core.val64 b ≠ .nan) : 0 < k ↔ zv b < zv a := by
  rw [← h, cmpV_of ha hb]; split
  · exact ⟨fun h => absurd h (by decide), fun h => by omega⟩
  · split
    · exact ⟨fun h => absurd h (by decide), fun h => by omega⟩
    · exact ⟨fun h => by omega, fun _ => by decide⟩
theorem cmp_nul {a b : UInt64} {k : Int32} {o : ClassFile.CmpOp} (h : Op.cmpValue (FP.dcmp a b) o = k) (ha : Core.val64 a ≠ .nan) (hb : Core.val64 b ≠ .nan) : k = 0 ↔ zv a = zv b := by
  rw [← h, cmpV_of ha hb]; split
  · exact ⟨fun h => absurd h (by decide), fun h => by omega⟩
  · split
    · exact ⟨fun _ => by assumption, fun _ => rfl⟩
    · exact ⟨fun h => absurd h (by decide), fun h => by omega⟩
theorem lt_of {a b : UInt64} {n m : Int} {k : Nat} (h1 : Le a n k) (h2 : Ge b m k) (h : n < m) : zv a < zv b := by
  unfold Le at h1; unfold Ge at h2
  have : n * U < m * U := Int.mul_lt_mul_of_pos_right h U_pos
  exact Int.lt_of_mul_lt_mul_right (a := 2 ^ k) (by omega) (Int.le_of_lt (pow_pos k))
theorem le_of {a b : UInt64} {n m : Int} {k : Nat} (h1 : Le a n k) (h2 : Ge b m k) (h : n ≤ m) : zv a ≤ zv b := by
  unfold Le at h1; unfold Ge at h2
  have : n * U ≤ m * U := Int.mul_le_mul_of_nonneg_right h (Int.le_of_lt U_pos)
  exact Int.le_of_mul_le_mul_right (a := 2 ^ k) (by omega) (pow_pos k)
theorem DS.cmp {a b : UInt64} {n m : Int} {k : Nat} (ha : DS n k a) (hb : DS m k b) (o : ClassFile.CmpOp) : Op.cmpValue (FP.dcmp a b) o = if n < m then -1 else if n = m then 0 else 1 := by
  rw [cmpV_of (notNan ha.1) (notNan hb.1)]
  by_cases h1 : n < m
  · rw [if_pos h1, if_pos (lt_of ha.le hb.ge h1)]
  · by_cases h2 : n = m
    · have e : zv a = zv b := by
        subst h2; have := le_of ha.le hb.ge (Int.le_refl _); have := le_of hb.le ha.ge (Int.le_refl _); omega
      rw [if_neg h1, if_pos h2, if_neg (by omega), if_pos e]
    · have := lt_of hb.le ha.ge (show m < n by omega)
      rw [if_neg h1, if_neg h2, if_neg (by omega), if_neg (by omega)]
theorem DS.zero : DS 0 0 FP.dconst0 := ⟨⟨false, 0, _, Core.val64_dconst0⟩, by
  have : zv FP.dconst0 = 0 := Core.zval64_zero
  rw [this]; simp⟩
theorem DS.one : DS 1 0 FP.dconst1 := DS.int Core.dint_one
theorem zv_one : zv FP.dconst1 = U := by have := DS.one.2; rwa [Int.pow_zero, Int.mul_one, Int.one_mul] at this
theorem DS.noNaN {n : Int} {k : Nat} {a : UInt64} (h : DS n k a) : Jvm.Free.Fl.NoNaN64 a := (Jvm.Free.Fl.fin64_core.mpr h.1).noNaN
theorem noNaN_of {a : UInt64} (h : Core.val64 a ≠ .nan) : Jvm.Free.Fl.NoNaN64 a := Jvm.Free.Fl.noNaN64_no.mpr ((Core.notNaN_iff a).mpr h)
end Jvm.OwnFP
namespace Jvm.OwnFP
open Jvm.FP
theorem sgn_pos {a : UInt64} (h : 0 < zv a) : Core.sgn (Core.val64 a) = false := by
  unfold zv Core.zval at h
  cases e : Core.sgn (Core.val64 a) with
  | false => rfl
  | true => rw [e] at h; simp only [Core.signed, if_true] at h; omega
/-- one quotient by two roads -/
theorem DS.div_same {a a' b b' : UInt64} {n d : Int} {k j : Nat} (ha : DS n k a) (ha' : DS n k a') (hb : DS d j b) (hb' : DS d j b') (hn : 0 < n) (hd : 0 < d) : FP.ddiv a b = FP.ddiv a' b' := by
  have e1 : zv a = zv a' := mul_cancel (pow_pos k) (by rw [ha.2, ha'.2])
  have e2 : zv b = zv b' := mul_cancel (pow_pos j) (by rw [hb.2, hb'.2])
  refine ddiv_congr ha.1 hb.1 (hb.pos hd) ha'.1 hb'.1 (hb'.pos hd) ?_ (by rw [e1, e2])
  rw [sgn_pos (ha.pos hn), sgn_pos (ha'.pos hn)]
end Jvm.OwnFP
namespace Jvm.OwnFP
open Jvm.FP
theorem Le.neg {a : UInt64} {n : Int} {k : Nat} (h : Le a n k) : Ge (FP.dneg a) (-n) k := by unfold Le at h; unfold Ge; rw [zv_dneg, Int.neg_mul, Int.neg_mul]; omega
theorem Ge.neg {a : UInt64} {n : Int} {k : Nat} (h : Ge a n k) : Le (FP.dneg a) (-n) k := by unfold Ge at h; unfold Le; rw [zv_dneg, Int.neg_mul, Int.neg_mul]; omega
theorem sub_Le {a b : UInt64} {n m q : Int} {k : Nat} (fa : Core.DFin a) (fb : Core.DFin b) (ha : Le a n k) (hb : Ge b m k) (h : n - m ≤ q) (bq : q.natAbs ≤ 2 ^ 53) (hk : k ≤ 1000) : Le (FP.dsub a b) q k := by
  rw [dsub_dadd fb]; exact add_Le fa (fin_dneg fb) ha hb.neg (by omega) bq hk
theorem sub_Ge {a b : UInt64} {n m q : Int} {k : Nat} (fa : Core.DFin a) (fb : Core.DFin b) (ha : Ge a n k) (hb : Le b m k) (h : q ≤ n - m) (bq : q.natAbs ≤ 2 ^ 53) (hk : k ≤ 1000) : Ge (FP.dsub a b) q k := by
  rw [dsub_dadd fb]; exact add_Ge fa (fin_dneg fb) ha hb.neg (by omega) bq hk
/-- one quotient at two scales -/
theorem DS.div_scale {a a' b b' : UInt64} {n d : Int} {k k' : Nat} (ha : DS n k a) (ha' : DS n k' a') (hb : DS d k b) (hb' : DS d k' b') (hn : 0 < n) (hd : 0 < d) : FP.ddiv a b = FP.ddiv a' b' := by
  refine ddiv_congr ha.1 hb.1 (hb.pos hd) ha'.1 hb'.1 (hb'.pos hd) ?_ ?_
  · rw [sgn_pos (ha.pos hn), sgn_pos (ha'.pos hn)]
  · refine mul_cancel (pow_pos (k + k')) ?_
    calc zv a * zv b' * 2 ^ (k + k') = (zv a * 2 ^ k) * (zv b' * 2 ^ k') := by rw [Int.pow_add]; ac_rfl
      _ = (zv a' * 2 ^ k') * (zv b * 2 ^ k) := by rw [ha.2, hb'.2, ha'.2, hb.2]
      _ = zv a' * zv b * 2 ^ (k + k') := by rw [Int.pow_add]; ac_rfl
end Jvm.OwnFP
namespace Jvm.OwnArr
open Jvm Jvm.ClassFile Sem Op Lib Jvm.Free Jvm.Stand Jvm.LawKit Jvm.RoadKit
section
variable {p : Program} {l : Launch} {e : Env} {R : Room} {s : State} {m : MethodId} {args : Array Value} {below : List Frame} {meth : Method} {c : Code} {T : State} {locs : List Loc} {cells slots : Nat} {Z : State} {h h' : Heap} {a b : Addr} {ty : FieldType} {n : Nat} {f : Nat → Value}
/-- the array at a has n places of the kind ty; place j holds f j -/
def Ag (Z : State) (h : Heap) (a : Addr) (ty : FieldType) (n : Nat) (f : Nat → Value) : Prop := ∃ cl : Cell, Arr Z h a cl ty ∧ cl.slots.size = n ∧ ∀ j, j < n → cl.slots[j]? = some (f j)
theorem Ag.lt (F : Ag Z h a ty n f) : a < h.size := by obtain ⟨c, A, -⟩ := F; exact A.lt
theorem Ag.ext (F : Ag Z h a ty n f) (E : Ext h h') : Ag Z h' a ty n f := by obtain ⟨c, A, r⟩ := F; exact ⟨c, A.ext E, r⟩
theorem Ag.other {sl : Nat} {v : Value} (F : Ag Z h b ty n f) (W : Wr h h' a sl v) (q : b ≠ a) : Ag Z h' b ty n f := by obtain ⟨c, A, r⟩ := F; exact ⟨c, A.other W q, r⟩
theorem Ag.keep {ws : List Addr} (F : Ag Z h a ty n f) (K : Keep h h' ws) (q : a ∉ ws) : Ag Z h' a ty n f := by obtain ⟨c, A, r⟩ := F; exact ⟨c, ⟨K.2.1 a c A.1 q, A.2⟩, r⟩
theorem Ag.congr {g : Nat → Value} (F : Ag Z h a ty n f) (q : ∀ j, j < n → f j = g j) : Ag Z h a ty n g := by obtain ⟨c, A, S, H⟩ := F; exact ⟨c, A, S, fun j hj => by rw [H j hj, q j hj]⟩
theorem Ag.set {j : Nat} {v : Value} (F : Ag Z h a ty n f) (W : Wr h h' a j v) : Ag Z h' a ty n (fun i => if i = j then v else f i) := by
  obtain ⟨c, A, S, H⟩ := F
  refine ⟨c.setSlot j v, A.same W, by rw [sz_set]; exact S, fun i hi => ?_⟩
  show (c.slots.setIfInBounds j v)[i]? = some (if i = j then v else f i)
  by_cases q : i = j
  · subst q; rw [if_pos rfl, Array.getElem?_setIfInBounds_self_of_lt (by omega)]
  · rw [if_neg q, Array.getElem?_setIfInBounds_ne (Ne.symm q)]; exact H i hi
theorem Ag.new {k : ClassId} {z : Int32} (A : Arr Z h a (newA k ty z) ty) {N : Nat} (hz : z.toInt = (N : Int)) : Ag Z h a ty N (fun _ => defaultValue ty) := by
  have e : z.toNatClampNeg = N := by rw [Int32.toNatClampNeg]; omega
  refine ⟨_, A, by rw [sz_new, e], fun j hj => ?_⟩
  show (Array.replicate z.toNatClampNeg (defaultValue ty))[j]? = _
  rw [e]; simp [hj]
theorem nat32 {j : Int32} {J : Nat} (hj : j.toInt = (J : Int)) : j.toNatClampNeg = J := by rw [Int32.toNatClampNeg]; omega
theorem inb {cl : Cell} {j : Int32} {J : Nat} (hj : j.toInt = (J : Int)) (S : cl.slots.size = n) (hn : J < n) : ¬ (j < 0 ∨ cl.slots.size ≤ j.toNatClampNeg) := by
  rw [nat32 hj, S]
  rintro (q | q)
  · have := Int32.lt_iff_toInt_lt.mp q; rw [Int32.toInt_zero] at this; omega
  · omega
theorem ldD (X : Stand p l e R s m args below meth c T locs cells slots) (hx : p.tables.exec = Jvm.exec) (hZ : Z.Warmed39 s.vm) (eT : T.heap = h) (F : Ag Z h a .double n f) {j : Int32} {J : Nat} (hj : j.toInt = (J : Int)) (hn : J < n) {x : UInt64} (hv : f J = .double x) {g : JFrame} (hg : g.method = m) {rest : List Value} (hs : g.stack = .int j :: .ref a :: rest) (hd : decode c.code g.pc = .ok (.daload, 1)) {target : State}
    (hr : Steps p.tables e below (T.setTop { g with pc := g.pc + 1, stack := .double x :: rest }) target) : Steps p.tables e below (T.setTop g) target := by
  obtain ⟨cl, A, S, H⟩ := F
  exact X.daload hx (by rw [eT]; exact A.1) (State.isArrayOf_alike hZ.alike A.2.1) A.2.2 (inb hj S hn) (by rw [nat32 hj, H J hn, hv]) hg hs hd _ hr
theorem ldI (X : Stand p l e R s m args below meth c T locs cells slots) (hx : p.tables.exec = Jvm.exec) (hZ : Z.Warmed39 s.vm) (eT : T.heap = h) (F : Ag Z h a .int n f) {j : Int32} {J : Nat} (hj : j.toInt = (J : Int)) (hn : J < n) {x : Int32} (hv : f J = .int x) {g : JFrame} (hg : g.method = m) {rest : List Value} (hs : g.stack = .int j :: .ref a :: rest) (hd : decode c.code g.pc = .ok (.iaload, 1)) {target : State}
    (hr : Steps p.tables e below (T.setTop { g with pc := g.pc + 1, stack := .int x :: rest }) target) : Steps p.tables e below (T.setTop g) target := by
  obtain ⟨cl, A, S, H⟩ := F
  exact X.iaload hx (by rw [eT]; exact A.1) (State.isArrayOf_alike hZ.alike A.2.1) A.2.2 (inb hj S hn) (by rw [nat32 hj, H J hn, hv]) hg hs hd _ hr
theorem ldJ (X : Stand p l e R s m args below meth c T locs cells slots) (hx : p.tables.exec = Jvm.exec) (hZ : Z.Warmed39 s.vm) (eT : T.heap = h) (F : Ag Z h a .long n f) {j : Int32} {J : Nat} (hj : j.toInt = (J : Int)) (hn : J < n) {x : Int64} (hv : f J = .long x) {g : JFrame} (hg : g.method = m) {rest : List Value} (hs : g.stack = .int j :: .ref a :: rest) (hd : decode c.code g.pc = .ok (.laload, 1)) {target : State}
    (hr : Steps p.tables e below (T.setTop { g with pc := g.pc + 1, stack := .long x :: rest }) target) : Steps p.tables e below (T.setTop g) target := by
  obtain ⟨cl, A, S, H⟩ := F
  exact X.laload hx (by rw [eT]; exact A.1) (State.isArrayOf_alike hZ.alike A.2.1) A.2.2 (inb hj S hn) (by rw [nat32 hj, H J hn, hv]) hg hs hd _ hr
theorem lenA (X : Stand p l e R s m args below meth c T locs cells slots) (hx : p.tables.exec = Jvm.exec) (hZ : Z.Warmed39 s.vm) (eT : T.heap = h) (F : Ag Z h a ty n f) {z : Int32} (hz : z.toInt = (n : Int)) {g : JFrame} (hg : g.method = m) {rest : List Value} (hs : g.stack = .ref a :: rest) (hd : decode c.code g.pc = .ok (.arraylength, 1)) {target : State}
    (hr : Steps p.tables e below (T.setTop { g with pc := g.pc + 1, stack := .int z :: rest }) target) : Steps p.tables e below (T.setTop g) target := by
  obtain ⟨cl, A, S, H⟩ := F
  have q : cl.slots.size.toInt32 = z := by
    have h1 := Int32.toInt_lt z
    apply Int32.toInt_inj.mp
    rw [S, hz]; exact Int32.toInt_ofNat_small (by omega)
  exact X.arraylength hx (by rw [eT]; exact A.1) (State.isArrayOf_alike hZ.alike A.2.1) hg hs hd _ (by rw [q]; exact hr)
theorem stDA (X : Stand p l e R s m args below meth c T locs cells slots) (hx : p.tables.exec = Jvm.exec) (hZ : Z.Warmed39 s.vm) (eT : T.heap = h) (F : Ag Z h a .double n f) {j : Int32} {J : Nat} (hj : j.toInt = (J : Int)) (hn : J < n) {x : UInt64} {g : JFrame} (hg : g.method = m) {rest : List Value} (hs : g.stack = .double x :: .int j :: .ref a :: rest) (hd : decode c.code g.pc = .ok (.dastore, 1)) :
    ∃ T' h', Stand p l e R s m args below meth c T' (locs ++ [⟨a, J⟩]) cells slots ∧ T'.heap = h' ∧ Wr h h' a J (.double x) ∧ ∀ target, Steps p.tables e below (T'.setTop { g with pc := g.pc + 1, stack := rest }) target → Steps p.tables e below (T.setTop g) target := by
  obtain ⟨cl, A, S, H⟩ := F
  have q := stD X hx hZ eT A (inb hj S hn) hg hs hd
  rw [nat32 hj] at q; exact q
theorem stIA (X : Stand p l e R s m args below meth c T locs cells slots) (hx : p.tables.exec = Jvm.exec) (hZ : Z.Warmed39 s.vm) (eT : T.heap = h) (F : Ag Z h a .int n f) {j : Int32} {J : Nat} (hj : j.toInt = (J : Int)) (hn : J < n) {x : Int32} {g : JFrame} (hg : g.method = m) {rest : List Value} (hs : g.stack = .int x :: .int j :: .ref a :: rest) (hd : decode c.code g.pc = .ok (.iastore, 1)) :
    ∃ T' h', Stand p l e R s m args below meth c T' (locs ++ [⟨a, J⟩]) cells slots ∧ T'.heap = h' ∧ Wr h h' a J (.int x) ∧ ∀ target, Steps p.tables e below (T'.setTop { g with pc := g.pc + 1, stack := rest }) target → Steps p.tables e below (T.setTop g) target := by
  obtain ⟨cl, A, S, H⟩ := F
  have q := stI X hx hZ eT A (inb hj S hn) hg hs hd
  rw [nat32 hj] at q; exact q
theorem stJA (X : Stand p l e R s m args below meth c T locs cells slots) (hx : p.tables.exec = Jvm.exec) (hZ : Z.Warmed39 s.vm) (eT : T.heap = h) (F : Ag Z h a .long n f) {j : Int32} {J : Nat} (hj : j.toInt = (J : Int)) (hn : J < n) {x : Int64} {g : JFrame} (hg : g.method = m) {rest : List Value} (hs : g.stack = .long x :: .int j :: .ref a :: rest) (hd : decode c.code g.pc = .ok (.lastore, 1)) :
    ∃ T' h', Stand p l e R s m args below meth c T' (locs ++ [⟨a, J⟩]) cells slots ∧ T'.heap = h' ∧ Wr h h' a J (.long x) ∧ ∀ target, Steps p.tables e below (T'.setTop { g with pc := g.pc + 1, stack := rest }) target → Steps p.tables e below (T.setTop g) target := by
  obtain ⟨cl, A, S, H⟩ := F
  have q := stJ X hx hZ eT A (inb hj S hn) hg hs hd
  rw [nat32 hj] at q; exact q
end
end Jvm.OwnArr
namespace Jvm.Pilot.@@N@@
open Jvm Jvm.ClassFile Sem Op Lib Jvm.Free Jvm.Stand Jvm.LawKit Jvm.RoadKit Bundle Jvm.Pilot.@@N@@.Jvm.D
open Jvm.OwnFP Jvm.FP
theorem pn_com_example_knotline_knotline_KnotVectorRunLengthPinLaw : plainName "com/example/knotline/knotline/KnotVectorRunLengthPinLaw" = true := by first | (simp [plainName, overriddenIn]; done) | decide +kernel
theorem pn_com_example_knotline_knotline_KnotVector : plainName "com/example/knotline/knotline/KnotVector" = true := by first | (simp [plainName, overriddenIn]; done) | decide +kernel
theorem pd__I_I : parseMethodDescriptor "(I)I" = some ⟨[.int], some .int⟩ := by decide +kernel
theorem pd___DI_I : parseMethodDescriptor "([DI)I" = some ⟨[(.array .double), .int], some .int⟩ := by decide +kernel
def tzv (x : Int32) : Int32 := if x &&& 1 = 0 then (if x &&& 2 = 0 then (if x &&& 4 = 0 then (if x &&& 8 = 0 then 4 else 3) else 2) else 1) else 0
/-- how many equal neighbours follow place F -/
def run (z0 z1 z2 z3 : Bool) (F : Nat) : Nat :=
  let r3 := if z3 then 1 else 0
  let r2 := if z2 then 1 + r3 else 0
  let r1 := if z1 then 1 + r2 else 0
  let r0 := if z0 then 1 + r1 else 0
  match F with | 0 => r0 | 1 => r1 | 2 => r2 | 3 => r3 | _ => 0
theorem tz_run : ∀ (z0 z1 z2 z3 : Bool) (F : Fin 5), tzv (XT.ushr ((((((if z0 = true then (0 : Int32) else 1) ||| (if z1 = true then (0 : Int32) else 2)) ||| (if z2 = true then (0 : Int32) else 4)) ||| (if z3 = true then (0 : Int32) else 8)) ||| 16)) (Int32.ofNat F.val)) = Int32.ofNat (run z0 z1 z2 z3 F.val) := by decide +kernel
theorem run_le : ∀ (z0 z1 z2 z3 : Bool) (F : Fin 5), F.val + run z0 z1 z2 z3 F.val < 5 := by decide
/-- the places F + 1 .. F + run hold what place F holds, the next one doesn't -/
theorem run_eq {s : Nat → Int} {g0 g1 g2 g3 : Int} (h0 : 0 ≤ g0) (h1 : 0 ≤ g1) (h2 : 0 ≤ g2) (h3 : 0 ≤ g3) (e1 : s 1 = s 0 + g0) (e2 : s 2 = s 1 + g1) (e3 : s 3 = s 2 + g2) (e4 : s 4 = s 3 + g3) (F : Nat) (hF : F < 5) :
    (∀ i, i < run (decide (g0 = 0)) (decide (g1 = 0)) (decide (g2 = 0)) (decide (g3 = 0)) F → s (F + i + 1) = s F) ∧ (F + run (decide (g0 = 0)) (decide (g1 = 0)) (decide (g2 = 0)) (decide (g3 = 0)) F + 1 < 5 → s (F + run (decide (g0 = 0)) (decide (g1 = 0)) (decide (g2 = 0)) (decide (g3 = 0)) F + 1) ≠ s F) := by
  by_cases q0 : g0 = 0 <;> by_cases q1 : g1 = 0 <;> by_cases q2 : g2 = 0 <;> by_cases q3 : g3 = 0 <;>
  (simp only [q0, q1, q2, q3, decide_true, decide_false]
   match F, hF with
   | 0, _ => exact ⟨fun i hi => by simp [run] at hi <;> first | omega | (match i, hi with | 0, _ => simp; omega | 1, _ => simp; omega | 2, _ => simp; omega | 3, _ => simp; omega), by simp [run]; try omega⟩
   | 1, _ => exact ⟨fun i hi => by simp [run] at hi <;> first | omega | (match i, hi with | 0, _ => simp; omega | 1, _ => simp; omega | 2, _ => simp; omega), by simp [run]; try omega⟩
   | 2, _ => exact ⟨fun i hi => by simp [run] at hi <;> first | omega | (match i, hi with | 0, _ => simp; omega | 1, _ => simp; omega), by simp [run]; try omega⟩
   | 3, _ => exact ⟨fun i hi => by simp [run] at hi <;> first | omega | (match i, hi with | 0, _ => simp; omega), by simp [run]; try omega⟩
   | 4, _ => exact ⟨fun i hi => by simp [run] at hi, by simp [run]⟩)
theorem d1_0 : decode method_2_code 0 = .ok (.iload_n 0, 1) := by decide +kernel
theorem d1_1 : decode method_2_code 1 = .ok (.iconst 1, 1) := by decide +kernel
theorem d1_2 : decode method_2_code 2 = .ok (.iand, 1) := by decide +kernel
theorem d1_3 : decode method_2_code 3 = .ok (.ifCond .eq 5, 3) := by decide +kernel
theorem d1_6 : decode method_2_code 6 = .ok (.iconst 0, 1) := by decide +kernel
theorem d1_7 : decode method_2_code 7 = .ok (.ireturn, 1) := by decide +kernel
theorem d1_8 : decode method_2_code 8 = .ok (.iload_n 0, 1) := by decide +kernel
theorem d1_9 : decode method_2_code 9 = .ok (.iconst 2, 1) := by decide +kernel
theorem d1_10 : decode method_2_code 10 = .ok (.iand, 1) := by decide +kernel
theorem d1_11 : decode method_2_code 11 = .ok (.ifCond .eq 5, 3) := by decide +kernel
theorem d1_14 : decode method_2_code 14 = .ok (.iconst 1, 1) := by decide +kernel
theorem d1_15 : decode method_2_code 15 = .ok (.ireturn, 1) := by decide +kernel
theorem d1_16 : decode method_2_code 16 = .ok (.iload_n 0, 1) := by decide +kernel
theorem d1_17 : decode method_2_code 17 = .ok (.iconst 4, 1) := by decide +kernel
theorem d1_18 : decode method_2_code 18 = .ok (.iand, 1) := by decide +kernel
theorem d1_19 : decode method_2_code 19 = .ok (.ifCond .eq 5, 3) := by decide +kernel
theorem d1_22 : decode method_2_code 22 = .ok (.iconst 2, 1) := by decide +kernel
theorem d1_23 : decode method_2_code 23 = .ok (.ireturn, 1) := by decide +kernel
theorem d1_24 : decode method_2_code 24 = .ok (.iload_n 0, 1) := by decide +kernel
theorem d1_25 : decode method_2_code 25 = .ok (.bipush 8, 2) := by decide +kernel
theorem d1_27 : decode method_2_code 27 = .ok (.iand, 1) := by decide +kernel
theorem d1_28 : decode method_2_code 28 = .ok (.ifCond .eq 5, 3) := by decide +kernel
theorem d1_31 : decode method_2_code 31 = .ok (.iconst 3, 1) := by decide +kernel
theorem d1_32 : decode method_2_code 32 = .ok (.ireturn, 1) := by decide +kernel
theorem d1_33 : decode method_2_code 33 = .ok (.iconst 4, 1) := by decide +kernel
theorem d1_34 : decode method_2_code 34 = .ok (.ireturn, 1) := by decide +kernel
theorem ef_1 (m : MethodId) (px : Int32) : entryFrame m #[(.int px)] 1 = (mkF m 0 #[.val (.int px)] []) := by first | (simp [entryFrame, mkF, argsToLocals, Value.category]; done) | rfl
def Q_1 (Z : State) (px : Int32) (h0 : Heap) (n0 : Nat) (v : Option Value) (h : Heap) (L : List Loc) : Prop := v = some (.int (tzv px)) ∧ Fr n0 L ∧ h = h0
set_option maxRecDepth 65536 in
set_option maxHeartbeats 2000000 in
theorem rm_1 (l : Launch) (Z : State) (a0 : Array Value) (hw : ∀ d ∈ tables_1, d.before a0 Z = true) (ws : List Jvm.Cond) (px : Int32) (h0 : Heap) (n0 : Nat) (Z0 : n0 ≤ h0.size)  :
    MetFree l (⟨"com/example/knotline/knotline/KnotVectorRunLengthPinLaw", "tz", "(I)I"⟩ : MethodName) (head1 (Jvm.Cond.code (⟨"com/example/knotline/knotline/KnotVectorRunLengthPinLaw", "tz", "(I)I"⟩ : MethodName) method_2_code 1 (some .int) :: ws) ({ frames := 0, cells := 0, slots := 0, locals := 0 } : Room)) (fun aa UU => aa = #[(.int px)] ∧ Z.Warmed39 UU.vm ∧ UU.heap = h0) (fun _ _ _ _ _ => True) (fun _ UU oo UU' => ∃ v L, oo = .returned v ∧ Q_1 Z px h0 n0 v UU'.heap L ∧ FrameEnd UU oo UU' L ({ frames := 0, cells := 0, slots := 0, locals := 0 } : Room).cells ({ frames := 0, cells := 0, slots := 0, locals := 0 } : Room).slots) := by
  refine MetFree.of_bodySF (plainFor_of_name pn_com_example_knotline_knotline_KnotVectorRunLengthPinLaw) hisR ?_
  intro p e s m args below meth c s₁ Bd hml0 hP hK
  obtain ⟨rfl, hZ, hh⟩ := hP
  have hx := Bd.exec
  have hby := Bd.bytes
  have hml : c.maxLocals = 1 := hml0
  have hown : s.vm.findClass "com/example/knotline/knotline/KnotVectorRunLengthPinLaw" = some m.cls := findClass_of_methodNamed Bd.named
  have hnaM := (name_of_methodNamed Bd.named Bd.method).1
  have X0 : Stand p l e ({ frames := 0, cells := 0, slots := 0, locals := 0 } : Room) s m #[(.int px)] below meth c s₁ [] 0 0 := Stand.of_body Bd
  have e0 : s₁.heap = h0 := by rw [← hh, Bd.state]; rfl
  have N0 := Fr.nil n0
  have pre0 : ∀ t, Steps p.tables e below (s₁.setTop (entryFrame m #[(.int px)] 1)) t → Steps p.tables e below (s₁.setTop (entryFrame m #[(.int px)] 1)) t := fun t k => k
  have c0 : ∀ t, Steps p.tables e below (s₁.setTop (mkF m 0 #[.val (.int px)] [])) t → Steps p.tables e below (s₁.setTop (entryFrame m #[(.int px)] 1)) t := fun t k => castTop (ef_1 m px) k
  have c1 : ∀ t, Steps p.tables e below (s₁.setTop (mkF m 3 #[.val (.int px)] [(.int (px &&& (1 : Int32)))])) t → Steps p.tables e below (s₁.setTop (entryFrame m #[(.int px)] 1)) t := fun t k => c0 t (by
    show Steps p.tables e below (s₁.setTop (mkF m 0 #[.val (.int px)] [])) _
    refine XS.iloadN X0.here hx rfl (hb hby d1_0) rfl ?_
    show Steps p.tables e below (s₁.setTop (mkF m 1 #[.val (.int px)] [(.int px)])) _
    refine XS.iconst X0.here hx rfl (hb hby d1_1) ?_
    show Steps p.tables e below (s₁.setTop (mkF m 2 #[.val (.int px)] [(.int (1 : Int32)), (.int px)])) _
    refine XS.iand X0.here hx rfl (hb hby d1_2) rfl ?_
    show Steps p.tables e below (s₁.setTop (mkF m 3 #[.val (.int px)] [(.int (px &&& (1 : Int32)))])) _
    exact k)
  by_cases q1 : (px &&& (1 : Int32)) = 0
  · skip
    have c2 : ∀ t, Steps p.tables e below (s₁.setTop (mkF m 11 #[.val (.int px)] [(.int (px &&& (2 : Int32)))])) t → Steps p.tables e below (s₁.setTop (entryFrame m #[(.int px)] 1)) t := fun t k => c1 t (by
      show Steps p.tables e below (s₁.setTop (mkF m 3 #[.val (.int px)] [(.int (px &&& (1 : Int32)))])) _
      refine XS.ifYes X0.here hx rfl (pc0 := 3) (pc' := 8) rfl (hb hby d1_3) rfl (XT.i0_eq_t q1) (by decide) (by decide) ?_
      show Steps p.tables e below (s₁.setTop (mkF m 8 #[.val (.int px)] [])) _
      refine XS.iloadN X0.here hx rfl (hb hby d1_8) rfl ?_
      show Steps p.tables e below (s₁.setTop (mkF m 9 #[.val (.int px)] [(.int px)])) _
      refine XS.iconst X0.here hx rfl (hb hby d1_9) ?_
      show Steps p.tables e below (s₁.setTop (mkF m 10 #[.val (.int px)] [(.int (2 : Int32)), (.int px)])) _
      refine XS.iand X0.here hx rfl (hb hby d1_10) rfl ?_
      show Steps p.tables e below (s₁.setTop (mkF m 11 #[.val (.int px)] [(.int (px &&& (2 : Int32)))])) _
      exact k)
    by_cases q2 : (px &&& (2 : Int32)) = 0
    · skip
      have c3 : ∀ t, Steps p.tables e below (s₁.setTop (mkF m 19 #[.val (.int px)] [(.int (px &&& (4 : Int32)))])) t → Steps p.tables e below (s₁.setTop (entryFrame m #[(.int px)] 1)) t := fun t k => c2 t (by
        show Steps p.tables e below (s₁.setTop (mkF m 11 #[.val (.int px)] [(.int (px &&& (2 : Int32)))])) _
        refine XS.ifYes X0.here hx rfl (pc0 := 11) (pc' := 16) rfl (hb hby d1_11) rfl (XT.i0_eq_t q2) (by decide) (by decide) ?_
        show Steps p.tables e below (s₁.setTop (mkF m 16 #[.val (.int px)] [])) _
        refine XS.iloadN X0.here hx rfl (hb hby d1_16) rfl ?_
        show Steps p.tables e below (s₁.setTop (mkF m 17 #[.val (.int px)] [(.int px)])) _
        refine XS.iconst X0.here hx rfl (hb hby d1_17) ?_
        show Steps p.tables e below (s₁.setTop (mkF m 18 #[.val (.int px)] [(.int (4 : Int32)), (.int px)])) _
        refine XS.iand X0.here hx rfl (hb hby d1_18) rfl ?_
        show Steps p.tables e below (s₁.setTop (mkF m 19 #[.val (.int px)] [(.int (px &&& (4 : Int32)))])) _
        exact k)
      by_cases q4 : (px &&& (4 : Int32)) = 0
      · skip
        have c4 : ∀ t, Steps p.tables e below (s₁.setTop (mkF m 28 #[.val (.int px)] [(.int (px &&& (8 : Int32)))])) t → Steps p.tables e below (s₁.setTop (entryFrame m #[(.int px)] 1)) t := fun t k => c3 t (by
          show Steps p.tables e below (s₁.setTop (mkF m 19 #[.val (.int px)] [(.int (px &&& (4 : Int32)))])) _
          refine XS.ifYes X0.here hx rfl (pc0 := 19) (pc' := 24) rfl (hb hby d1_19) rfl (XT.i0_eq_t q4) (by decide) (by decide) ?_
          show Steps p.tables e below (s₁.setTop (mkF m 24 #[.val (.int px)] [])) _
          refine XS.iloadN X0.here hx rfl (hb hby d1_24) rfl ?_
          show Steps p.tables e below (s₁.setTop (mkF m 25 #[.val (.int px)] [(.int px)])) _
          refine XS.bipush X0.here hx rfl (hb hby d1_25) ?_
          show Steps p.tables e below (s₁.setTop (mkF m 27 #[.val (.int px)] [(.int (8 : Int32)), (.int px)])) _
          refine XS.iand X0.here hx rfl (hb hby d1_27) rfl ?_
          show Steps p.tables e below (s₁.setTop (mkF m 28 #[.val (.int px)] [(.int (px &&& (8 : Int32)))])) _
          exact k)
        by_cases q8 : (px &&& (8 : Int32)) = 0
        · skip
          have c5 : ∀ t, Steps p.tables e below (s₁.setTop (mkF m 34 #[.val (.int px)] [(.int (4 : Int32))])) t → Steps p.tables e below (s₁.setTop (entryFrame m #[(.int px)] 1)) t := fun t k => c4 t (by
            show Steps p.tables e below (s₁.setTop (mkF m 28 #[.val (.int px)] [(.int (px &&& (8 : Int32)))])) _
            refine XS.ifYes X0.here hx rfl (pc0 := 28) (pc' := 33) rfl (hb hby d1_28) rfl (XT.i0_eq_t q8) (by decide) (by decide) ?_
            show Steps p.tables e below (s₁.setTop (mkF m 33 #[.val (.int px)] [])) _
            refine XS.iconst X0.here hx rfl (hb hby d1_33) ?_
            show Steps p.tables e below (s₁.setTop (mkF m 34 #[.val (.int px)] [(.int (4 : Int32))])) _
            exact k)
          obtain ⟨fs, hr, hrun, hended, hW, hsame⟩ := X0.leave (v := (some (.int (4 : Int32)))) (fun h => by rw [Bd.returns] at h; cases h)
          refine ⟨_, _, pre0 _ (c5 _ (retI X0 hx Bd.returns (hb hby d1_34) hr)), hrun, hended, _, _, rfl, ?_, ⟨_, rfl⟩, hW, hsame.mono (by decide) (by decide)⟩
          show Q_1 Z px h0 n0 _ s₁.heap _
          rw [e0]
          exact ⟨by unfold tzv; simp [q1, q2, q4, q8], N0, rfl⟩
        · skip
          have c6 : ∀ t, Steps p.tables e below (s₁.setTop (mkF m 32 #[.val (.int px)] [(.int (3 : Int32))])) t → Steps p.tables e below (s₁.setTop (entryFrame m #[(.int px)] 1)) t := fun t k => c4 t (by
            show Steps p.tables e below (s₁.setTop (mkF m 28 #[.val (.int px)] [(.int (px &&& (8 : Int32)))])) _
            refine XS.ifNo X0.here hx rfl (hb hby d1_28) rfl (XT.i0_eq_f q8) ?_
            show Steps p.tables e below (s₁.setTop (mkF m 31 #[.val (.int px)] [])) _
            refine XS.iconst X0.here hx rfl (hb hby d1_31) ?_
            show Steps p.tables e below (s₁.setTop (mkF m 32 #[.val (.int px)] [(.int (3 : Int32))])) _
            exact k)
          obtain ⟨fs, hr, hrun, hended, hW, hsame⟩ := X0.leave (v := (some (.int (3 : Int32)))) (fun h => by rw [Bd.returns] at h; cases h)
          refine ⟨_, _, pre0 _ (c6 _ (retI X0 hx Bd.returns (hb hby d1_32) hr)), hrun, hended, _, _, rfl, ?_, ⟨_, rfl⟩, hW, hsame.mono (by decide) (by decide)⟩
          show Q_1 Z px h0 n0 _ s₁.heap _
          rw [e0]
          exact ⟨by unfold tzv; simp [q1, q2, q4, q8], N0, rfl⟩
      · skip
        have c7 : ∀ t, Steps p.tables e below (s₁.setTop (mkF m 23 #[.val (.int px)] [(.int (2 : Int32))])) t → Steps p.tables e below (s₁.setTop (entryFrame m #[(.int px)] 1)) t := fun t k => c3 t (by
          show Steps p.tables e below (s₁.setTop (mkF m 19 #[.val (.int px)] [(.int (px &&& (4 : Int32)))])) _
          refine XS.ifNo X0.here hx rfl (hb hby d1_19) rfl (XT.i0_eq_f q4) ?_
          show Steps p.tables e below (s₁.setTop (mkF m 22 #[.val (.int px)] [])) _
          refine XS.iconst X0.here hx rfl (hb hby d1_22) ?_
          show Steps p.tables e below (s₁.setTop (mkF m 23 #[.val (.int px)] [(.int (2 : Int32))])) _
          exact k)
        obtain ⟨fs, hr, hrun, hended, hW, hsame⟩ := X0.leave (v := (some (.int (2 : Int32)))) (fun h => by rw [Bd.returns] at h; cases h)
        refine ⟨_, _, pre0 _ (c7 _ (retI X0 hx Bd.returns (hb hby d1_23) hr)), hrun, hended, _, _, rfl, ?_, ⟨_, rfl⟩, hW, hsame.mono (by decide) (by decide)⟩
        show Q_1 Z px h0 n0 _ s₁.heap _
        rw [e0]
        exact ⟨by unfold tzv; simp [q1, q2, q4], N0, rfl⟩
    · skip
      have c8 : ∀ t, Steps p.tables e below (s₁.setTop (mkF m 15 #[.val (.int px)] [(.int (1 : Int32))])) t → Steps p.tables e below (s₁.setTop (entryFrame m #[(.int px)] 1)) t := fun t k => c2 t (by
        show Steps p.tables e below (s₁.setTop (mkF m 11 #[.val (.int px)] [(.int (px &&& (2 : Int32)))])) _
        refine XS.ifNo X0.here hx rfl (hb hby d1_11) rfl (XT.i0_eq_f q2) ?_
        show Steps p.tables e below (s₁.setTop (mkF m 14 #[.val (.int px)] [])) _
        refine XS.iconst X0.here hx rfl (hb hby d1_14) ?_
        show Steps p.tables e below (s₁.setTop (mkF m 15 #[.val (.int px)] [(.int (1 : Int32))])) _
        exact k)
      obtain ⟨fs, hr, hrun, hended, hW, hsame⟩ := X0.leave (v := (some (.int (1 : Int32)))) (fun h => by rw [Bd.returns] at h; cases h)
      refine ⟨_, _, pre0 _ (c8 _ (retI X0 hx Bd.returns (hb hby d1_15) hr)), hrun, hended, _, _, rfl, ?_, ⟨_, rfl⟩, hW, hsame.mono (by decide) (by decide)⟩
      show Q_1 Z px h0 n0 _ s₁.heap _
      rw [e0]
      exact ⟨by unfold tzv; simp [q1, q2], N0, rfl⟩
  · skip
    have c9 : ∀ t, Steps p.tables e below (s₁.setTop (mkF m 7 #[.val (.int px)] [(.int (0 : Int32))])) t → Steps p.tables e below (s₁.setTop (entryFrame m #[(.int px)] 1)) t := fun t k => c1 t (by
      show Steps p.tables e below (s₁.setTop (mkF m 3 #[.val (.int px)] [(.int (px &&& (1 : Int32)))])) _
      refine XS.ifNo X0.here hx rfl (hb hby d1_3) rfl (XT.i0_eq_f q1) ?_
      show Steps p.tables e below (s₁.setTop (mkF m 6 #[.val (.int px)] [])) _
      refine XS.iconst X0.here hx rfl (hb hby d1_6) ?_
      show Steps p.tables e below (s₁.setTop (mkF m 7 #[.val (.int px)] [(.int (0 : Int32))])) _
      exact k)
    obtain ⟨fs, hr, hrun, hended, hW, hsame⟩ := X0.leave (v := (some (.int (0 : Int32)))) (fun h => by rw [Bd.returns] at h; cases h)
    refine ⟨_, _, pre0 _ (c9 _ (retI X0 hx Bd.returns (hb hby d1_7) hr)), hrun, hended, _, _, rfl, ?_, ⟨_, rfl⟩, hW, hsame.mono (by decide) (by decide)⟩
    show Q_1 Z px h0 n0 _ s₁.heap _
    rw [e0]
    exact ⟨by unfold tzv; simp [q1], N0, rfl⟩
theorem d2_0 : decode prog_16_method_4_code 0 = .ok (.iload_n 1, 1) := by decide +kernel
theorem d2_1 : decode prog_16_method_4_code 1 = .ok (.istore_n 2, 1) := by decide +kernel
theorem d2_2 : decode prog_16_method_4_code 2 = .ok (.iload_n 2, 1) := by decide +kernel
theorem d2_3 : decode prog_16_method_4_code 3 = .ok (.iconst 1, 1) := by decide +kernel
theorem d2_4 : decode prog_16_method_4_code 4 = .ok (.iadd, 1) := by decide +kernel
theorem d2_5 : decode prog_16_method_4_code 5 = .ok (.aload_n 0, 1) := by decide +kernel
theorem d2_6 : decode prog_16_method_4_code 6 = .ok (.arraylength, 1) := by decide +kernel
theorem d2_7 : decode prog_16_method_4_code 7 = .ok (.if_icmp .ge 21, 3) := by decide +kernel
theorem d2_10 : decode prog_16_method_4_code 10 = .ok (.aload_n 0, 1) := by decide +kernel
theorem d2_11 : decode prog_16_method_4_code 11 = .ok (.iload_n 2, 1) := by decide +kernel
theorem d2_12 : decode prog_16_method_4_code 12 = .ok (.iconst 1, 1) := by decide +kernel
theorem d2_13 : decode prog_16_method_4_code 13 = .ok (.iadd, 1) := by decide +kernel
theorem d2_14 : decode prog_16_method_4_code 14 = .ok (.daload, 1) := by decide +kernel
theorem d2_15 : decode prog_16_method_4_code 15 = .ok (.aload_n 0, 1) := by decide +kernel
theorem d2_16 : decode prog_16_method_4_code 16 = .ok (.iload_n 1, 1) := by decide +kernel
theorem d2_17 : decode prog_16_method_4_code 17 = .ok (.daload, 1) := by decide +kernel
theorem d2_18 : decode prog_16_method_4_code 18 = .ok (.dcmp .l, 1) := by decide +kernel
theorem d2_19 : decode prog_16_method_4_code 19 = .ok (.ifCond .ne 9, 3) := by decide +kernel
theorem d2_22 : decode prog_16_method_4_code 22 = .ok (.iinc 2 1, 3) := by decide +kernel
theorem d2_25 : decode prog_16_method_4_code 25 = .ok (.goto (-23), 3) := by decide +kernel
theorem d2_28 : decode prog_16_method_4_code 28 = .ok (.iload_n 2, 1) := by decide +kernel
theorem d2_29 : decode prog_16_method_4_code 29 = .ok (.iload_n 1, 1) := by decide +kernel
theorem d2_30 : decode prog_16_method_4_code 30 = .ok (.isub, 1) := by decide +kernel
theorem d2_31 : decode prog_16_method_4_code 31 = .ok (.iconst 1, 1) := by decide +kernel
theorem d2_32 : decode prog_16_method_4_code 32 = .ok (.iadd, 1) := by decide +kernel
theorem d2_33 : decode prog_16_method_4_code 33 = .ok (.ireturn, 1) := by decide +kernel
theorem ef_2 (m : MethodId) (ar : Addr) (pf : Int32) (pr : Int32) (xs : Nat → UInt64) (F r : Nat) : entryFrame m #[(.ref ar), (.int pf)] 3 = (mkF m 0 #[.val (.ref ar), .val (.int pf), .unset] []) := by first | (simp [entryFrame, mkF, argsToLocals, Value.category]; done) | rfl
def Q_2 (Z : State) (ar : Addr) (pf : Int32) (pr : Int32) (xs : Nat → UInt64) (F r : Nat) (h0 : Heap) (n0 : Nat) (v : Option Value) (h : Heap) (L : List Loc) : Prop := v = some (.int pr) ∧ Fr n0 L ∧ h = h0
set_option maxRecDepth 65536 in
set_option maxHeartbeats 2000000 in
theorem rm_2 (l : Launch) (Z : State) (a0 : Array Value) (hw : ∀ d ∈ tables_1, d.before a0 Z = true) (ws : List Jvm.Cond) (ar : Addr) (pf : Int32) (pr : Int32) (xs : Nat → UInt64) (F r : Nat) (h0 : Heap) (n0 : Nat) (Z0 : n0 ≤ h0.size) (A_0 : OwnArr.Ag Z h0 ar .double 5 (fun i => .double (xs i))) (hf : pf.toInt = (F : Int)) (hp : pr.toInt = (r : Int) + 1) (hr_ : F + r < 5) (fin_ : ∀ i, i < 5 → Core.DFin (xs i)) (heq : ∀ i, i < r → zv (xs (F + i + 1)) = zv (xs F)) (hne : F + r + 1 < 5 → zv (xs (F + r + 1)) ≠ zv (xs F)) :
    MetFree l (⟨"com/example/knotline/knotline/KnotVector", "runLength", "([DI)I"⟩ : MethodName) (head1 (Jvm.Cond.code (⟨"com/example/knotline/knotline/KnotVector", "runLength", "([DI)I"⟩ : MethodName) prog_16_method_4_code 3 (some .int) :: ws) ({ frames := 0, cells := 0, slots := 0, locals := 0 } : Room)) (fun aa UU => aa = #[(.ref ar), (.int pf)] ∧ Z.Warmed39 UU.vm ∧ UU.heap = h0) (fun _ _ _ _ _ => True) (fun _ UU oo UU' => ∃ v L, oo = .returned v ∧ Q_2 Z ar pf pr xs F r h0 n0 v UU'.heap L ∧ FrameEnd UU oo UU' L ({ frames := 0, cells := 0, slots := 0, locals := 0 } : Room).cells ({ frames := 0, cells := 0, slots := 0, locals := 0 } : Room).slots) := by
  refine MetFree.of_bodySF (plainFor_of_name pn_com_example_knotline_knotline_KnotVector) hisR ?_
  intro p e s m args below meth c s₁ Bd hml0 hP hK
  obtain ⟨rfl, hZ, hh⟩ := hP
  have hx := Bd.exec
  have hby := Bd.bytes
  have hml : c.maxLocals = 3 := hml0
  have hown : s.vm.findClass "com/example/knotline/knotline/KnotVector" = some m.cls := findClass_of_methodNamed Bd.named
  have hnaM := (name_of_methodNamed Bd.named Bd.method).1
  have X0 : Stand p l e ({ frames := 0, cells := 0, slots := 0, locals := 0 } : Room) s m #[(.ref ar), (.int pf)] below meth c s₁ [] 0 0 := Stand.of_body Bd
  have e0 : s₁.heap = h0 := by rw [← hh, Bd.state]; rfl
  have N0 := Fr.nil n0
  have pre0 : ∀ t, Steps p.tables e below (s₁.setTop (entryFrame m #[(.ref ar), (.int pf)] 3)) t → Steps p.tables e below (s₁.setTop (entryFrame m #[(.ref ar), (.int pf)] 3)) t := fun t k => k
  have c0 : ∀ t, Steps p.tables e below (s₁.setTop (mkF m 0 #[.val (.ref ar), .val (.int pf), .unset] [])) t → Steps p.tables e below (s₁.setTop (entryFrame m #[(.ref ar), (.int pf)] 3)) t := fun t k => castTop (ef_2 m ar pf pr xs F r) k
  have c1 : ∀ t, Steps p.tables e below (s₁.setTop (mkF m 2 #[.val (.ref ar), .val (.int pf), .val (.int pf)] [])) t → Steps p.tables e below (s₁.setTop (entryFrame m #[(.ref ar), (.int pf)] 3)) t := fun t k => c0 t (by
    show Steps p.tables e below (s₁.setTop (mkF m 0 #[.val (.ref ar), .val (.int pf), .unset] [])) _
    refine XS.iloadN X0.here hx rfl (hb hby d2_0) rfl ?_
    show Steps p.tables e below (s₁.setTop (mkF m 1 #[.val (.ref ar), .val (.int pf), .unset] [(.int pf)])) _
    refine XS.istoreN X0.here hx rfl (hb hby d2_1) rfl (l' := #[.val (.ref ar), .val (.int pf), .val (.int pf)]) rfl ?_
    show Steps p.tables e below (s₁.setTop (mkF m 2 #[.val (.ref ar), .val (.int pf), .val (.int pf)] [])) _
    exact k)
  have LP : ∀ i : Nat, i ≤ r → ∃ lx : Int32, lx.toInt = (F : Int) + (i : Int) ∧ ∀ t, Steps p.tables e below (s₁.setTop (mkF m 2 #[.val (.ref ar), .val (.int pf), .val (.int lx)] [])) t → Steps p.tables e below (s₁.setTop (entryFrame m #[(.ref ar), (.int pf)] 3)) t := by
    intro i
    induction i with
    | zero => exact fun _ => ⟨pf, by omega, c1⟩
    | succ i ih =>
      intro hi
      obtain ⟨lx, hlx, cx⟩ := ih (by omega)
      have o1 : (lx + (1 : Int32)).toInt = (F : Int) + (i : Int) + 1 := by
        have q : (1 : Int32).toInt = 1 := by decide
        rw [Kit.i32_add (by omega) (by omega)]; omega
      obtain ⟨k18, hk18⟩ : ∃ v : Int32, cmpValue (FP.dcmp (xs (F + i + 1)) (xs F)) .l = v := ⟨_, rfl⟩
      have e18 : k18 = 0 := hk18 ▸ cmp_eq (notNan (fin_ _ (by omega))) (notNan (fin_ _ (by omega))) (heq i (by omega)) .l
      have c2 : ∀ t, Steps p.tables e below (s₁.setTop (mkF m 2 #[.val (.ref ar), .val (.int pf), .val (.int (lx + (1 : Int32)))] [])) t → Steps p.tables e below (s₁.setTop (entryFrame m #[(.ref ar), (.int pf)] 3)) t := fun t k => cx t (by
        show Steps p.tables e below (s₁.setTop (mkF m 2 #[.val (.ref ar), .val (.int pf), .val (.int lx)] [])) _
        refine XS.iloadN X0.here hx rfl (hb hby d2_2) rfl ?_
        show Steps p.tables e below (s₁.setTop (mkF m 3 #[.val (.ref ar), .val (.int pf), .val (.int lx)] [(.int lx)])) _
        refine XS.iconst X0.here hx rfl (hb hby d2_3) ?_
        show Steps p.tables e below (s₁.setTop (mkF m 4 #[.val (.ref ar), .val (.int pf), .val (.int lx)] [(.int (1 : Int32)), (.int lx)])) _
        refine XS.iadd X0.here hx rfl (hb hby d2_4) rfl ?_
        show Steps p.tables e below (s₁.setTop (mkF m 5 #[.val (.ref ar), .val (.int pf), .val (.int lx)] [(.int (lx + (1 : Int32)))])) _
        refine XS.aloadN X0.here hx rfl (hb hby d2_5) rfl rfl ?_
        show Steps p.tables e below (s₁.setTop (mkF m 6 #[.val (.ref ar), .val (.int pf), .val (.int lx)] [(.ref ar), (.int (lx + (1 : Int32)))])) _
        refine OwnArr.lenA X0 hx hZ e0 A_0 (z := (5 : Int32)) (by decide) (g := (mkF m 6 #[.val (.ref ar), .val (.int pf), .val (.int lx)] [(.ref ar), (.int (lx + (1 : Int32)))])) rfl rfl (hb hby d2_6) ?_
        show Steps p.tables e below (s₁.setTop (mkF m 7 #[.val (.ref ar), .val (.int pf), .val (.int lx)] [(.int (5 : Int32)), (.int (lx + (1 : Int32)))])) _
        refine XS.icmpNo X0.here hx rfl (hb hby d2_7) rfl (XT.ii_ge_f (by rw [Int32.lt_iff_toInt_lt, o1, show (5 : Int32).toInt = 5 by decide]; omega)) ?_
        show Steps p.tables e below (s₁.setTop (mkF m 10 #[.val (.ref ar), .val (.int pf), .val (.int lx)] [])) _
        refine XS.aloadN X0.here hx rfl (hb hby d2_10) rfl rfl ?_
        show Steps p.tables e below (s₁.setTop (mkF m 11 #[.val (.ref ar), .val (.int pf), .val (.int lx)] [(.ref ar)])) _
        refine XS.iloadN X0.here hx rfl (hb hby d2_11) rfl ?_
        show Steps p.tables e below (s₁.setTop (mkF m 12 #[.val (.ref ar), .val (.int pf), .val (.int lx)] [(.int lx), (.ref ar)])) _
        refine XS.iconst X0.here hx rfl (hb hby d2_12) ?_
        show Steps p.tables e below (s₁.setTop (mkF m 13 #[.val (.ref ar), .val (.int pf), .val (.int lx)] [(.int (1 : Int32)), (.int lx), (.ref ar)])) _
        refine XS.iadd X0.here hx rfl (hb hby d2_13) rfl ?_
        show Steps p.tables e below (s₁.setTop (mkF m 14 #[.val (.ref ar), .val (.int pf), .val (.int lx)] [(.int (lx + (1 : Int32))), (.ref ar)])) _
        refine OwnArr.ldD X0 hx hZ e0 A_0 (j := (lx + (1 : Int32))) (J := (F + i + 1)) (by rw [o1]; omega) (by omega) (x := (xs (F + i + 1))) rfl (g := (mkF m 14 #[.val (.ref ar), .val (.int pf), .val (.int lx)] [(.int (lx + (1 : Int32))), (.ref ar)])) rfl rfl (hb hby d2_14) ?_
        show Steps p.tables e below (s₁.setTop (mkF m 15 #[.val (.ref ar), .val (.int pf), .val (.int lx)] [(.double (xs (F + i + 1)))])) _
        refine XS.aloadN X0.here hx rfl (hb hby d2_15) rfl rfl ?_
        show Steps p.tables e below (s₁.setTop (mkF m 16 #[.val (.ref ar), .val (.int pf), .val (.int lx)] [(.ref ar), (.double (xs (F + i + 1)))])) _
        refine XS.iloadN X0.here hx rfl (hb hby d2_16) rfl ?_
        show Steps p.tables e below (s₁.setTop (mkF m 17 #[.val (.ref ar), .val (.int pf), .val (.int lx)] [(.int pf), (.ref ar), (.double (xs (F + i + 1)))])) _
        refine OwnArr.ldD X0 hx hZ e0 A_0 (j := pf) (J := F) hf (by omega) (x := (xs F)) rfl (g := (mkF m 17 #[.val (.ref ar), .val (.int pf), .val (.int lx)] [(.int pf), (.ref ar), (.double (xs (F + i + 1)))])) rfl rfl (hb hby d2_17) ?_
        show Steps p.tables e below (s₁.setTop (mkF m 18 #[.val (.ref ar), .val (.int pf), .val (.int lx)] [(.double (xs F)), (.double (xs (F + i + 1)))])) _
        refine XS.dcmpS X0.here hx rfl (hb hby d2_18) rfl hk18 ?_
        show Steps p.tables e below (s₁.setTop (mkF m 19 #[.val (.ref ar), .val (.int pf), .val (.int lx)] [(.int k18)])) _
        refine XS.ifNo X0.here hx rfl (hb hby d2_19) rfl (XT.i0_ne_f e18) ?_
        show Steps p.tables e below (s₁.setTop (mkF m 22 #[.val (.ref ar), .val (.int pf), .val (.int lx)] [])) _
        refine XS.iinc X0.here hx rfl (hb hby d2_22) rfl (l' := #[.val (.ref ar), .val (.int pf), .val (.int (lx + (1 : Int32)))]) rfl ?_
        show Steps p.tables e below (s₁.setTop (mkF m 25 #[.val (.ref ar), .val (.int pf), .val (.int (lx + (1 : Int32)))] [])) _
        refine XS.goto X0.here hx rfl (pc0 := 25) (pc' := 2) rfl (hb hby d2_25) (by decide) (by decide) ?_
        show Steps p.tables e below (s₁.setTop (mkF m 2 #[.val (.ref ar), .val (.int pf), .val (.int (lx + (1 : Int32)))] [])) _
        exact k)
      exact ⟨_, by rw [o1]; omega, c2⟩
  obtain ⟨lx, hlx, cx⟩ := LP r (Nat.le_refl _)
  have o1 : (lx + (1 : Int32)).toInt = (F : Int) + (r : Int) + 1 := by
    have q : (1 : Int32).toInt = 1 := by decide
    rw [Kit.i32_add (by omega) (by omega)]; omega
  have rv : lx - pf + (1 : Int32) = pr := by
    have q : (1 : Int32).toInt = 1 := by decide
    have e1 := Kit.i32_sub (p := lx) (q := pf) (by omega) (by omega)
    apply Int32.toInt_inj.mp
    rw [Kit.i32_add (by omega) (by omega)]; omega
  have c3 : ∀ t, Steps p.tables e below (s₁.setTop (mkF m 7 #[.val (.ref ar), .val (.int pf), .val (.int lx)] [(.int (5 : Int32)), (.int (lx + (1 : Int32)))])) t → Steps p.tables e below (s₁.setTop (entryFrame m #[(.ref ar), (.int pf)] 3)) t := fun t k => cx t (by
    show Steps p.tables e below (s₁.setTop (mkF m 2 #[.val (.ref ar), .val (.int pf), .val (.int lx)] [])) _
    refine XS.iloadN X0.here hx rfl (hb hby d2_2) rfl ?_
    show Steps p.tables e below (s₁.setTop (mkF m 3 #[.val (.ref ar), .val (.int pf), .val (.int lx)] [(.int lx)])) _
    refine XS.iconst X0.here hx rfl (hb hby d2_3) ?_
    show Steps p.tables e below (s₁.setTop (mkF m 4 #[.val (.ref ar), .val (.int pf), .val (.int lx)] [(.int (1 : Int32)), (.int lx)])) _
    refine XS.iadd X0.here hx rfl (hb hby d2_4) rfl ?_
    show Steps p.tables e below (s₁.setTop (mkF m 5 #[.val (.ref ar), .val (.int pf), .val (.int lx)] [(.int (lx + (1 : Int32)))])) _
    refine XS.aloadN X0.here hx rfl (hb hby d2_5) rfl rfl ?_
    show Steps p.tables e below (s₁.setTop (mkF m 6 #[.val (.ref ar), .val (.int pf), .val (.int lx)] [(.ref ar), (.int (lx + (1 : Int32)))])) _
    refine OwnArr.lenA X0 hx hZ e0 A_0 (z := (5 : Int32)) (by decide) (g := (mkF m 6 #[.val (.ref ar), .val (.int pf), .val (.int lx)] [(.ref ar), (.int (lx + (1 : Int32)))])) rfl rfl (hb hby d2_6) ?_
    show Steps p.tables e below (s₁.setTop (mkF m 7 #[.val (.ref ar), .val (.int pf), .val (.int lx)] [(.int (5 : Int32)), (.int (lx + (1 : Int32)))])) _
    exact k)
  by_cases q7 : (lx + (1 : Int32)) < (5 : Int32)
  · skip
    have q7' : F + r + 1 < 5 := by rw [Int32.lt_iff_toInt_lt, o1, show (5 : Int32).toInt = 5 by decide] at q7; omega
    obtain ⟨k18, hk18⟩ : ∃ v : Int32, cmpValue (FP.dcmp (xs (F + r + 1)) (xs F)) .l = v := ⟨_, rfl⟩
    have e18 : ¬ k18 = 0 := by
      rw [← hk18, cmpV_of (notNan (fin_ _ (by omega))) (notNan (fin_ _ (by omega)))]
      have := hne q7'
      split
      · decide
      · first | decide | (rw [if_neg this]; decide)
    have c4 : ∀ t, Steps p.tables e below (s₁.setTop (mkF m 33 #[.val (.ref ar), .val (.int pf), .val (.int lx)] [(.int ((lx - pf) + (1 : Int32)))])) t → Steps p.tables e below (s₁.setTop (entryFrame m #[(.ref ar), (.int pf)] 3)) t := fun t k => c3 t (by
      show Steps p.tables e below (s₁.setTop (mkF m 7 #[.val (.ref ar), .val (.int pf), .val (.int lx)] [(.int (5 : Int32)), (.int (lx + (1 : Int32)))])) _
      refine XS.icmpNo X0.here hx rfl (hb hby d2_7) rfl (XT.ii_ge_f q7) ?_
      show Steps p.tables e below (s₁.setTop (mkF m 10 #[.val (.ref ar), .val (.int pf), .val (.int lx)] [])) _
      refine XS.aloadN X0.here hx rfl (hb hby d2_10) rfl rfl ?_
      show Steps p.tables e below (s₁.setTop (mkF m 11 #[.val (.ref ar), .val (.int pf), .val (.int lx)] [(.ref ar)])) _
      refine XS.iloadN X0.here hx rfl (hb hby d2_11) rfl ?_
      show Steps p.tables e below (s₁.setTop (mkF m 12 #[.val (.ref ar), .val (.int pf), .val (.int lx)] [(.int lx), (.ref ar)])) _
      refine XS.iconst X0.here hx rfl (hb hby d2_12) ?_
      show Steps p.tables e below (s₁.setTop (mkF m 13 #[.val (.ref ar), .val (.int pf), .val (.int lx)] [(.int (1 : Int32)), (.int lx), (.ref ar)])) _
      refine XS.iadd X0.here hx rfl (hb hby d2_13) rfl ?_
      show Steps p.tables e below (s₁.setTop (mkF m 14 #[.val (.ref ar), .val (.int pf), .val (.int lx)] [(.int (lx + (1 : Int32))), (.ref ar)])) _
      refine OwnArr.ldD X0 hx hZ e0 A_0 (j := (lx + (1 : Int32))) (J := (F + r + 1)) (by rw [o1]; omega) (by omega) (x := (xs (F + r + 1))) rfl (g := (mkF m 14 #[.val (.ref ar), .val (.int pf), .val (.int lx)] [(.int (lx + (1 : Int32))), (.ref ar)])) rfl rfl (hb hby d2_14) ?_
      show Steps p.tables e below (s₁.setTop (mkF m 15 #[.val (.ref ar), .val (.int pf), .val (.int lx)] [(.double (xs (F + r + 1)))])) _
      refine XS.aloadN X0.here hx rfl (hb hby d2_15) rfl rfl ?_
      show Steps p.tables e below (s₁.setTop (mkF m 16 #[.val (.ref ar), .val (.int pf), .val (.int lx)] [(.ref ar), (.double (xs (F + r + 1)))])) _
      refine XS.iloadN X0.here hx rfl (hb hby d2_16) rfl ?_
      show Steps p.tables e below (s₁.setTop (mkF m 17 #[.val (.ref ar), .val (.int pf), .val (.int lx)] [(.int pf), (.ref ar), (.double (xs (F + r + 1)))])) _
      refine OwnArr.ldD X0 hx hZ e0 A_0 (j := pf) (J := F) hf (by omega) (x := (xs F)) rfl (g := (mkF m 17 #[.val (.ref ar), .val (.int pf), .val (.int lx)] [(.int pf), (.ref ar), (.double (xs (F + r + 1)))])) rfl rfl (hb hby d2_17) ?_
      show Steps p.tables e below (s₁.setTop (mkF m 18 #[.val (.ref ar), .val (.int pf), .val (.int lx)] [(.double (xs F)), (.double (xs (F + r + 1)))])) _
      refine XS.dcmpS X0.here hx rfl (hb hby d2_18) rfl hk18 ?_
      show Steps p.tables e below (s₁.setTop (mkF m 19 #[.val (.ref ar), .val (.int pf), .val (.int lx)] [(.int k18)])) _
      refine XS.ifYes X0.here hx rfl (pc0 := 19) (pc' := 28) rfl (hb hby d2_19) rfl (XT.i0_ne_t e18) (by decide) (by decide) ?_
      show Steps p.tables e below (s₁.setTop (mkF m 28 #[.val (.ref ar), .val (.int pf), .val (.int lx)] [])) _
      refine XS.iloadN X0.here hx rfl (hb hby d2_28) rfl ?_
      show Steps p.tables e below (s₁.setTop (mkF m 29 #[.val (.ref ar), .val (.int pf), .val (.int lx)] [(.int lx)])) _
      refine XS.iloadN X0.here hx rfl (hb hby d2_29) rfl ?_
      show Steps p.tables e below (s₁.setTop (mkF m 30 #[.val (.ref ar), .val (.int pf), .val (.int lx)] [(.int pf), (.int lx)])) _
      refine XS.isub X0.here hx rfl (hb hby d2_30) rfl ?_
      show Steps p.tables e below (s₁.setTop (mkF m 31 #[.val (.ref ar), .val (.int pf), .val (.int lx)] [(.int (lx - pf))])) _
      refine XS.iconst X0.here hx rfl (hb hby d2_31) ?_
      show Steps p.tables e below (s₁.setTop (mkF m 32 #[.val (.ref ar), .val (.int pf), .val (.int lx)] [(.int (1 : Int32)), (.int (lx - pf))])) _
      refine XS.iadd X0.here hx rfl (hb hby d2_32) rfl ?_
      show Steps p.tables e below (s₁.setTop (mkF m 33 #[.val (.ref ar), .val (.int pf), .val (.int lx)] [(.int ((lx - pf) + (1 : Int32)))])) _
      exact k)
    obtain ⟨fs, hr, hrun, hended, hW, hsame⟩ := X0.leave (v := (some (.int ((lx - pf) + (1 : Int32))))) (fun h => by rw [Bd.returns] at h; cases h)
    refine ⟨_, _, pre0 _ (c4 _ (retI X0 hx Bd.returns (hb hby d2_33) hr)), hrun, hended, _, _, rfl, ?_, ⟨_, rfl⟩, hW, hsame.mono (by decide) (by decide)⟩
    show Q_2 Z ar pf pr xs F r h0 n0 _ s₁.heap _
    rw [e0]
    exact ⟨by rw [rv], N0, rfl⟩
  · skip
    have c5 : ∀ t, Steps p.tables e below (s₁.setTop (mkF m 33 #[.val (.ref ar), .val (.int pf), .val (.int lx)] [(.int ((lx - pf) + (1 : Int32)))])) t → Steps p.tables e below (s₁.setTop (entryFrame m #[(.ref ar), (.int pf)] 3)) t := fun t k => c3 t (by
      show Steps p.tables e below (s₁.setTop (mkF m 7 #[.val (.ref ar), .val (.int pf), .val (.int lx)] [(.int (5 : Int32)), (.int (lx + (1 : Int32)))])) _
      refine XS.icmpYes X0.here hx rfl (pc0 := 7) (pc' := 28) rfl (hb hby d2_7) rfl (XT.ii_ge_t q7) (by decide) (by decide) ?_
      show Steps p.tables e below (s₁.setTop (mkF m 28 #[.val (.ref ar), .val (.int pf), .val (.int lx)] [])) _
      refine XS.iloadN X0.here hx rfl (hb hby d2_28) rfl ?_
      show Steps p.tables e below (s₁.setTop (mkF m 29 #[.val (.ref ar), .val (.int pf), .val (.int lx)] [(.int lx)])) _
      refine XS.iloadN X0.here hx rfl (hb hby d2_29) rfl ?_
      show Steps p.tables e below (s₁.setTop (mkF m 30 #[.val (.ref ar), .val (.int pf), .val (.int lx)] [(.int pf), (.int lx)])) _
      refine XS.isub X0.here hx rfl (hb hby d2_30) rfl ?_
      show Steps p.tables e below (s₁.setTop (mkF m 31 #[.val (.ref ar), .val (.int pf), .val (.int lx)] [(.int (lx - pf))])) _
      refine XS.iconst X0.here hx rfl (hb hby d2_31) ?_
      show Steps p.tables e below (s₁.setTop (mkF m 32 #[.val (.ref ar), .val (.int pf), .val (.int lx)] [(.int (1 : Int32)), (.int (lx - pf))])) _
      refine XS.iadd X0.here hx rfl (hb hby d2_32) rfl ?_
      show Steps p.tables e below (s₁.setTop (mkF m 33 #[.val (.ref ar), .val (.int pf), .val (.int lx)] [(.int ((lx - pf) + (1 : Int32)))])) _
      exact k)
    obtain ⟨fs, hr, hrun, hended, hW, hsame⟩ := X0.leave (v := (some (.int ((lx - pf) + (1 : Int32))))) (fun h => by rw [Bd.returns] at h; cases h)
    refine ⟨_, _, pre0 _ (c5 _ (retI X0 hx Bd.returns (hb hby d2_33) hr)), hrun, hended, _, _, rfl, ?_, ⟨_, rfl⟩, hW, hsame.mono (by decide) (by decide)⟩
    show Q_2 Z ar pf pr xs F r h0 n0 _ s₁.heap _
    rw [e0]
    exact ⟨by rw [rv], N0, rfl⟩
theorem byte_k (x : Int32) : 0 ≤ (x &&& (255 : Int32)).toInt ∧ (x &&& (255 : Int32)).toInt ≤ 255 := by
  have := Kit.i32_mask x 255 (k := 8) (by decide) (by decide); omega
theorem first_k (x : Int32) {v : Int32} (h : v = (x &&& (2147483647 : Int32)) % (5 : Int32)) : ∃ F : Fin 5, v = Int32.ofNat F.val ∧ v.toInt = (F.val : Int) := by
  have h1 := Kit.i32_mask x 2147483647 (k := 31) (by decide) (by decide)
  have h2 := Kit.i32_rem_nonneg (x := x &&& (2147483647 : Int32)) (y := 5) (by omega)
  rw [show (5 : Int32).toInt = 5 by decide] at h2
  have h3 : v.toInt = (x &&& (2147483647 : Int32)).toInt % 5 := by rw [h]; exact h2
  refine ⟨⟨v.toInt.toNat, by omega⟩, ?_, by show v.toInt = ((v.toInt.toNat : Nat) : Int); omega⟩
  apply Int32.toInt_inj.mp
  show v.toInt = (Int32.ofNat v.toInt.toNat).toInt
  rw [Int32.toInt_ofNat_small (by omega)]; omega
theorem zero_k {g : Int32} : (g = 0) = (decide (g.toInt = 0) = true) := by
  rw [decide_eq_true_eq]; exact propext ⟨fun h => by rw [h]; rfl, fun h => Int32.toInt_inj.mp (by rw [h]; rfl)⟩
theorem ef_0 (m : MethodId) (pb : Int32) (pg : Int32) (pf : Int32) : entryFrame m #[(.int pb), (.int pg), (.int pf)] maxLocals = (mkF m 0 #[.val (.int pb), .val (.int pg), .val (.int pf), .unset, .unset, .unset, .unset, .unset, .unset, .unset, .unset] []) := by first | (simp [entryFrame, mkF, argsToLocals, Value.category, maxLocals]; done) | rfl
def Q_0 (Z : State) (pb : Int32) (pg : Int32) (pf : Int32) (h0 : Heap) (n0 : Nat) (v : Option Value) (h : Heap) (L : List Loc) : Prop := v = some (.int 1) ∧ Fr n0 L
set_option maxRecDepth 65536 in
set_option maxHeartbeats 2000000 in
theorem rm_0 (l : Launch) (Z : State) (a0 : Array Value) (hw : ∀ d ∈ tables_1, d.before a0 Z = true) (ws : List Jvm.Cond) (pb : Int32) (pg : Int32) (pf : Int32) (h0 : Heap) (n0 : Nat) (Z0 : n0 ≤ h0.size)  :
    MetFree l x (head1 (Jvm.Cond.code x code maxLocals ret :: ws) room_1) (fun aa UU => aa = #[(.int pb), (.int pg), (.int pf)] ∧ Z.Warmed39 UU.vm ∧ UU.heap = h0) (fun _ _ _ _ _ => True) (fun _ UU oo UU' => ∃ v L, oo = .returned v ∧ Q_0 Z pb pg pf h0 n0 v UU'.heap L ∧ FrameEnd UU oo UU' L 16 128) := by
  refine MetFree.of_bodySF (plainFor_of_name pn_com_example_knotline_knotline_KnotVectorRunLengthPinLaw) hisR ?_
  intro p e s m args below meth c s₁ Bd hml0 hP hK
  obtain ⟨rfl, hZ, hh⟩ := hP
  have hx := Bd.exec
  have hby := Bd.bytes
  have hml : c.maxLocals = 11 := hml0
  have hown : s.vm.findClass "com/example/knotline/knotline/KnotVectorRunLengthPinLaw" = some m.cls := findClass_of_methodNamed Bd.named
  have hnaM := (name_of_methodNamed Bd.named Bd.method).1
  have X0 : Stand p l e room_1 s m #[(.int pb), (.int pg), (.int pf)] below meth c s₁ [] 0 0 := Stand.of_body Bd
  have e0 : s₁.heap = h0 := by rw [← hh, Bd.state]; rfl
  have N0 := Fr.nil n0
  have pre0 : ∀ t, Steps p.tables e below (s₁.setTop (entryFrame m #[(.int pb), (.int pg), (.int pf)] maxLocals)) t → Steps p.tables e below (s₁.setTop (entryFrame m #[(.int pb), (.int pg), (.int pf)] maxLocals)) t := fun t k => k
  have c0 : ∀ t, Steps p.tables e below (s₁.setTop (mkF m 0 #[.val (.int pb), .val (.int pg), .val (.int pf), .unset, .unset, .unset, .unset, .unset, .unset, .unset, .unset] [])) t → Steps p.tables e below (s₁.setTop (entryFrame m #[(.int pb), (.int pg), (.int pf)] maxLocals)) t := fun t k => castTop (ef_0 m pb pg pf) k
  obtain ⟨g0, hg0⟩ : ∃ v : Int32, v = (pg &&& (255 : Int32)) := ⟨_, rfl⟩
  have c1 : ∀ t, Steps p.tables e below (s₁.setTop (mkF m 6 #[.val (.int pb), .val (.int pg), .val (.int pf), .val (.int g0), .unset, .unset, .unset, .unset, .unset, .unset, .unset] [])) t → Steps p.tables e below (s₁.setTop (entryFrame m #[(.int pb), (.int pg), (.int pf)] maxLocals)) t := fun t k => c0 t (by
    rw [hg0] at k
    show Steps p.tables e below (s₁.setTop (mkF m 0 #[.val (.int pb), .val (.int pg), .val (.int pf), .unset, .unset, .unset, .unset, .unset, .unset, .unset, .unset] [])) _
    refine XS.iloadN X0.here hx rfl (hb hby at_0) rfl ?_
    show Steps p.tables e below (s₁.setTop (mkF m 1 #[.val (.int pb), .val (.int pg), .val (.int pf), .unset, .unset, .unset, .unset, .unset, .unset, .unset, .unset] [(.int pg)])) _
    refine XS.sipush X0.here hx rfl (hb hby at_1) ?_
    show Steps p.tables e below (s₁.setTop (mkF m 4 #[.val (.int pb), .val (.int pg), .val (.int pf), .unset, .unset, .unset, .unset, .unset, .unset, .unset, .unset] [(.int (255 : Int32)), (.int pg)])) _
    refine XS.iand X0.here hx rfl (hb hby at_4) rfl ?_
    show Steps p.tables e below (s₁.setTop (mkF m 5 #[.val (.int pb), .val (.int pg), .val (.int pf), .unset, .unset, .unset, .unset, .unset, .unset, .unset, .unset] [(.int (pg &&& (255 : Int32)))])) _
    refine XS.istoreN X0.here hx rfl (hb hby at_5) rfl (l' := #[.val (.int pb), .val (.int pg), .val (.int pf), .val (.int (pg &&& (255 : Int32))), .unset, .unset, .unset, .unset, .unset, .unset, .unset]) rfl ?_
    show Steps p.tables e below (s₁.setTop (mkF m 6 #[.val (.int pb), .val (.int pg), .val (.int pf), .val (.int (pg &&& (255 : Int32))), .unset, .unset, .unset, .unset, .unset, .unset, .unset] [])) _
    exact k)
  obtain ⟨g1, hg1⟩ : ∃ v : Int32, v = ((XT.ushr pg (8 : Int32)) &&& (255 : Int32)) := ⟨_, rfl⟩
  have c2 : ∀ t, Steps p.tables e below (s₁.setTop (mkF m 16 #[.val (.int pb), .val (.int pg), .val (.int pf), .val (.int g0), .val (.int g1), .unset, .unset, .unset, .unset, .unset, .unset] [])) t → Steps p.tables e below (s₁.setTop (entryFrame m #[(.int pb), (.int pg), (.int pf)] maxLocals)) t := fun t k => c1 t (by
    rw [hg1] at k
    show Steps p.tables e below (s₁.setTop (mkF m 6 #[.val (.int pb), .val (.int pg), .val (.int pf), .val (.int g0), .unset, .unset, .unset, .unset, .unset, .unset, .unset] [])) _
    refine XS.iloadN X0.here hx rfl (hb hby at_6) rfl ?_
    show Steps p.tables e below (s₁.setTop (mkF m 7 #[.val (.int pb), .val (.int pg), .val (.int pf), .val (.int g0), .unset, .unset, .unset, .unset, .unset, .unset, .unset] [(.int pg)])) _
    refine XS.bipush X0.here hx rfl (hb hby at_7) ?_
    show Steps p.tables e below (s₁.setTop (mkF m 9 #[.val (.int pb), .val (.int pg), .val (.int pf), .val (.int g0), .unset, .unset, .unset, .unset, .unset, .unset, .unset] [(.int (8 : Int32)), (.int pg)])) _
    refine XT.iushr X0.here hx rfl (hb hby at_9) rfl ?_
    show Steps p.tables e below (s₁.setTop (mkF m 10 #[.val (.int pb), .val (.int pg), .val (.int pf), .val (.int g0), .unset, .unset, .unset, .unset, .unset, .unset, .unset] [(.int (XT.ushr pg (8 : Int32)))])) _
    refine XS.sipush X0.here hx rfl (hb hby at_10) ?_
    show Steps p.tables e below (s₁.setTop (mkF m 13 #[.val (.int pb), .val (.int pg), .val (.int pf), .val (.int g0), .unset, .unset, .unset, .unset, .unset, .unset, .unset] [(.int (255 : Int32)), (.int (XT.ushr pg (8 : Int32)))])) _
    refine XS.iand X0.here hx rfl (hb hby at_13) rfl ?_
    show Steps p.tables e below (s₁.setTop (mkF m 14 #[.val (.int pb), .val (.int pg), .val (.int pf), .val (.int g0), .unset, .unset, .unset, .unset, .unset, .unset, .unset] [(.int ((XT.ushr pg (8 : Int32)) &&& (255 : Int32)))])) _
    refine XS.istore X0.here hx rfl (hb hby at_14) rfl (l' := #[.val (.int pb), .val (.int pg), .val (.int pf), .val (.int g0), .val (.int ((XT.ushr pg (8 : Int32)) &&& (255 : Int32))), .unset, .unset, .unset, .unset, .unset, .unset]) rfl ?_
    show Steps p.tables e below (s₁.setTop (mkF m 16 #[.val (.int pb), .val (.int pg), .val (.int pf), .val (.int g0), .val (.int ((XT.ushr pg (8 : Int32)) &&& (255 : Int32))), .unset, .unset, .unset, .unset, .unset, .unset] [])) _
    exact k)
  obtain ⟨g2, hg2⟩ : ∃ v : Int32, v = ((XT.ushr pg (16 : Int32)) &&& (255 : Int32)) := ⟨_, rfl⟩
  have c3 : ∀ t, Steps p.tables e below (s₁.setTop (mkF m 26 #[.val (.int pb), .val (.int pg), .val (.int pf), .val (.int g0), .val (.int g1), .val (.int g2), .unset, .unset, .unset, .unset, .unset] [])) t → Steps p.tables e below (s₁.setTop (entryFrame m #[(.int pb), (.int pg), (.int pf)] maxLocals)) t := fun t k => c2 t (by
    rw [hg2] at k
    show Steps p.tables e below (s₁.setTop (mkF m 16 #[.val (.int pb), .val (.int pg), .val (.int pf), .val (.int g0), .val (.int g1), .unset, .unset, .unset, .unset, .unset, .unset] [])) _
    refine XS.iloadN X0.here hx rfl (hb hby at_16) rfl ?_
    show Steps p.tables e below (s₁.setTop (mkF m 17 #[.val (.int pb), .val (.int pg), .val (.int pf), .val (.int g0), .val (.int g1), .unset, .unset, .unset, .unset, .unset, .unset] [(.int pg)])) _
    refine XS.bipush X0.here hx rfl (hb hby at_17) ?_
    show Steps p.tables e below (s₁.setTop (mkF m 19 #[.val (.int pb), .val (.int pg), .val (.int pf), .val (.int g0), .val (.int g1), .unset, .unset, .unset, .unset, .unset, .unset] [(.int (16 : Int32)), (.int pg)])) _
    refine XT.iushr X0.here hx rfl (hb hby at_19) rfl ?_
    show Steps p.tables e below (s₁.setTop (mkF m 20 #[.val (.int pb), .val (.int pg), .val (.int pf), .val (.int g0), .val (.int g1), .unset, .unset, .unset, .unset, .unset, .unset] [(.int (XT.ushr pg (16 : Int32)))])) _
    refine XS.sipush X0.here hx rfl (hb hby at_20) ?_
    show Steps p.tables e below (s₁.setTop (mkF m 23 #[.val (.int pb), .val (.int pg), .val (.int pf), .val (.int g0), .val (.int g1), .unset, .unset, .unset, .unset, .unset, .unset] [(.int (255 : Int32)), (.int (XT.ushr pg (16 : Int32)))])) _
    refine XS.iand X0.here hx rfl (hb hby at_23) rfl ?_
    show Steps p.tables e below (s₁.setTop (mkF m 24 #[.val (.int pb), .val (.int pg), .val (.int pf), .val (.int g0), .val (.int g1), .unset, .unset, .unset, .unset, .unset, .unset] [(.int ((XT.ushr pg (16 : Int32)) &&& (255 : Int32)))])) _
    refine XS.istore X0.here hx rfl (hb hby at_24) rfl (l' := #[.val (.int pb), .val (.int pg), .val (.int pf), .val (.int g0), .val (.int g1), .val (.int ((XT.ushr pg (16 : Int32)) &&& (255 : Int32))), .unset, .unset, .unset, .unset, .unset]) rfl ?_
    show Steps p.tables e below (s₁.setTop (mkF m 26 #[.val (.int pb), .val (.int pg), .val (.int pf), .val (.int g0), .val (.int g1), .val (.int ((XT.ushr pg (16 : Int32)) &&& (255 : Int32))), .unset, .unset, .unset, .unset, .unset] [])) _
    exact k)
  obtain ⟨g3, hg3⟩ : ∃ v : Int32, v = ((XT.ushr pg (24 : Int32)) &&& (255 : Int32)) := ⟨_, rfl⟩
  have c4 : ∀ t, Steps p.tables e below (s₁.setTop (mkF m 36 #[.val (.int pb), .val (.int pg), .val (.int pf), .val (.int g0), .val (.int g1), .val (.int g2), .val (.int g3), .unset, .unset, .unset, .unset] [])) t → Steps p.tables e below (s₁.setTop (entryFrame m #[(.int pb), (.int pg), (.int pf)] maxLocals)) t := fun t k => c3 t (by
    rw [hg3] at k
    show Steps p.tables e below (s₁.setTop (mkF m 26 #[.val (.int pb), .val (.int pg), .val (.int pf), .val (.int g0), .val (.int g1), .val (.int g2), .unset, .unset, .unset, .unset, .unset] [])) _
    refine XS.iloadN X0.here hx rfl (hb hby at_26) rfl ?_
    show Steps p.tables e below (s₁.setTop (mkF m 27 #[.val (.int pb), .val (.int pg), .val (.int pf), .val (.int g0), .val (.int g1), .val (.int g2), .unset, .unset, .unset, .unset, .unset] [(.int pg)])) _
    refine XS.bipush X0.here hx rfl (hb hby at_27) ?_
    show Steps p.tables e below (s₁.setTop (mkF m 29 #[.val (.int pb), .val (.int pg), .val (.int pf), .val (.int g0), .val (.int g1), .val (.int g2), .unset, .unset, .unset, .unset, .unset] [(.int (24 : Int32)), (.int pg)])) _
    refine XT.iushr X0.here hx rfl (hb hby at_29) rfl ?_
    show Steps p.tables e below (s₁.setTop (mkF m 30 #[.val (.int pb), .val (.int pg), .val (.int pf), .val (.int g0), .val (.int g1), .val (.int g2), .unset, .unset, .unset, .unset, .unset] [(.int (XT.ushr pg (24 : Int32)))])) _
    refine XS.sipush X0.here hx rfl (hb hby at_30) ?_
    show Steps p.tables e below (s₁.setTop (mkF m 33 #[.val (.int pb), .val (.int pg), .val (.int pf), .val (.int g0), .val (.int g1), .val (.int g2), .unset, .unset, .unset, .unset, .unset] [(.int (255 : Int32)), (.int (XT.ushr pg (24 : Int32)))])) _
    refine XS.iand X0.here hx rfl (hb hby at_33) rfl ?_
    show Steps p.tables e below (s₁.setTop (mkF m 34 #[.val (.int pb), .val (.int pg), .val (.int pf), .val (.int g0), .val (.int g1), .val (.int g2), .unset, .unset, .unset, .unset, .unset] [(.int ((XT.ushr pg (24 : Int32)) &&& (255 : Int32)))])) _
    refine XS.istore X0.here hx rfl (hb hby at_34) rfl (l' := #[.val (.int pb), .val (.int pg), .val (.int pf), .val (.int g0), .val (.int g1), .val (.int g2), .val (.int ((XT.ushr pg (24 : Int32)) &&& (255 : Int32))), .unset, .unset, .unset, .unset]) rfl ?_
    show Steps p.tables e below (s₁.setTop (mkF m 36 #[.val (.int pb), .val (.int pg), .val (.int pf), .val (.int g0), .val (.int g1), .val (.int g2), .val (.int ((XT.ushr pg (24 : Int32)) &&& (255 : Int32))), .unset, .unset, .unset, .unset] [])) _
    exact k)
  have G0 : 0 ≤ g0.toInt ∧ g0.toInt ≤ 255 := hg0 ▸ byte_k _
  have G1 : 0 ≤ g1.toInt ∧ g1.toInt ≤ 255 := hg1 ▸ byte_k _
  have G2 : 0 ≤ g2.toInt ∧ g2.toInt ≤ 255 := hg2 ▸ byte_k _
  have G3 : 0 ≤ g3.toInt ∧ g3.toInt ≤ 255 := hg3 ▸ byte_k _
  have B1 := Int32.le_toInt pb
  have B2 := Int32.toInt_lt pb
  have c5 : ∀ t, Steps p.tables e below (s₁.setTop (mkF m 37 #[.val (.int pb), .val (.int pg), .val (.int pf), .val (.int g0), .val (.int g1), .val (.int g2), .val (.int g3), .unset, .unset, .unset, .unset] [(.int (5 : Int32))])) t → Steps p.tables e below (s₁.setTop (entryFrame m #[(.int pb), (.int pg), (.int pf)] maxLocals)) t := fun t k => c4 t (by
    show Steps p.tables e below (s₁.setTop (mkF m 36 #[.val (.int pb), .val (.int pg), .val (.int pf), .val (.int g0), .val (.int g1), .val (.int g2), .val (.int g3), .unset, .unset, .unset, .unset] [])) _
    refine XS.iconst X0.here hx rfl (hb hby at_36) ?_
    show Steps p.tables e below (s₁.setTop (mkF m 37 #[.val (.int pb), .val (.int pg), .val (.int pf), .val (.int g0), .val (.int g1), .val (.int g2), .val (.int g3), .unset, .unset, .unset, .unset] [(.int (5 : Int32))])) _
    exact k)
  obtain ⟨T6, h6, kA6, X6, e6, E6, A6, st6⟩ := newP X0 hx hZ (hw _ (List.mem_of_getElem? (i := 0) rfl)) e0 (g := (mkF m 37 #[.val (.int pb), .val (.int pg), .val (.int pf), .val (.int g0), .val (.int g1), .val (.int g2), .val (.int g3), .unset, .unset, .unset, .unset] [(.int (5 : Int32))])) rfl (hb hby at_37) rfl (by decide) (cap := 5) (by decide) (by decide) (by decide) (by decide)
  obtain ⟨ar, g6⟩ : ∃ z, z = h0.size := ⟨_, rfl⟩
  rw [← g6] at A6 st6
  have F7 : OwnArr.Ag Z h6 ar .double 5 (fun _ => (.double (0 : UInt64))) := (OwnArr.Ag.new A6 (by decide))
  have c8 : ∀ t, Steps p.tables e below (T6.setTop (mkF m 39 #[.val (.int pb), .val (.int pg), .val (.int pf), .val (.int g0), .val (.int g1), .val (.int g2), .val (.int g3), .unset, .unset, .unset, .unset] [(.ref ar)])) t → Steps p.tables e below (s₁.setTop (entryFrame m #[(.int pb), (.int pg), (.int pf)] maxLocals)) t := fun t k => c5 t (st6 _ k)
  obtain ⟨x0, hx0⟩ : ∃ v : UInt64, FP.i2d pb = v := ⟨_, rfl⟩
  have D0 : DS pb.toInt 0 x0 := hx0 ▸ DS.i2d pb
  have c9 : ∀ t, Steps p.tables e below (T6.setTop (mkF m 46 #[.val (.int pb), .val (.int pg), .val (.int pf), .val (.int g0), .val (.int g1), .val (.int g2), .val (.int g3), .val (.ref ar), .unset, .unset, .unset] [(.double x0), (.int (0 : Int32)), (.ref ar)])) t → Steps p.tables e below (s₁.setTop (entryFrame m #[(.int pb), (.int pg), (.int pf)] maxLocals)) t := fun t k => c8 t (by
    show Steps p.tables e below (T6.setTop (mkF m 39 #[.val (.int pb), .val (.int pg), .val (.int pf), .val (.int g0), .val (.int g1), .val (.int g2), .val (.int g3), .unset, .unset, .unset, .unset] [(.ref ar)])) _
    refine XS.astore X6.here hx rfl (hb hby at_39) rfl rfl (l' := #[.val (.int pb), .val (.int pg), .val (.int pf), .val (.int g0), .val (.int g1), .val (.int g2), .val (.int g3), .val (.ref ar), .unset, .unset, .unset]) rfl ?_
    show Steps p.tables e below (T6.setTop (mkF m 41 #[.val (.int pb), .val (.int pg), .val (.int pf), .val (.int g0), .val (.int g1), .val (.int g2), .val (.int g3), .val (.ref ar), .unset, .unset, .unset] [])) _
    refine XS.aload X6.here hx rfl (hb hby at_41) rfl rfl ?_
    show Steps p.tables e below (T6.setTop (mkF m 43 #[.val (.int pb), .val (.int pg), .val (.int pf), .val (.int g0), .val (.int g1), .val (.int g2), .val (.int g3), .val (.ref ar), .unset, .unset, .unset] [(.ref ar)])) _
    refine XS.iconst X6.here hx rfl (hb hby at_43) ?_
    show Steps p.tables e below (T6.setTop (mkF m 44 #[.val (.int pb), .val (.int pg), .val (.int pf), .val (.int g0), .val (.int g1), .val (.int g2), .val (.int g3), .val (.ref ar), .unset, .unset, .unset] [(.int (0 : Int32)), (.ref ar)])) _
    refine XS.iloadN X6.here hx rfl (hb hby at_44) rfl ?_
    show Steps p.tables e below (T6.setTop (mkF m 45 #[.val (.int pb), .val (.int pg), .val (.int pf), .val (.int g0), .val (.int g1), .val (.int g2), .val (.int g3), .val (.ref ar), .unset, .unset, .unset] [(.int pb), (.int (0 : Int32)), (.ref ar)])) _
    refine XS.i2dS X6.here hx rfl (hb hby at_45) rfl hx0 ?_
    show Steps p.tables e below (T6.setTop (mkF m 46 #[.val (.int pb), .val (.int pg), .val (.int pf), .val (.int g0), .val (.int g1), .val (.int g2), .val (.int g3), .val (.ref ar), .unset, .unset, .unset] [(.double x0), (.int (0 : Int32)), (.ref ar)])) _
    exact k)
  obtain ⟨T10, h10, X10, e10, W10, st10⟩ := OwnArr.stDA X6 hx hZ e6 F7 (j := (0 : Int32)) (J := 0) (by decide) (by decide) (g := (mkF m 46 #[.val (.int pb), .val (.int pg), .val (.int pf), .val (.int g0), .val (.int g1), .val (.int g2), .val (.int g3), .val (.ref ar), .unset, .unset, .unset] [(.double x0), (.int (0 : Int32)), (.ref ar)])) rfl rfl (hb hby at_46)
  have F11 : OwnArr.Ag Z h10 ar .double 5 (fun i => if i = 0 then (.double x0) else (fun _ => (.double (0 : UInt64))) i) := (F7.set W10)
  have N10 := Fr.snoc X10 N0 (Nat.le_trans Z0 (Nat.le_of_eq g6.symm))
  have c12 : ∀ t, Steps p.tables e below (T10.setTop (mkF m 47 #[.val (.int pb), .val (.int pg), .val (.int pf), .val (.int g0), .val (.int g1), .val (.int g2), .val (.int g3), .val (.ref ar), .unset, .unset, .unset] [])) t → Steps p.tables e below (s₁.setTop (entryFrame m #[(.int pb), (.int pg), (.int pf)] maxLocals)) t := fun t k => c9 t (st10 _ k)
  obtain ⟨y0, hy0⟩ : ∃ v : UInt64, FP.i2d g0 = v := ⟨_, rfl⟩
  obtain ⟨x1, hx1⟩ : ∃ v : UInt64, FP.dadd x0 y0 = v := ⟨_, rfl⟩
  have D1 : DS (pb.toInt + g0.toInt) 0 x1 := hx1 ▸ D0.add (hy0 ▸ DS.i2d g0) (by omega) (by decide)
  have c13 : ∀ t, Steps p.tables e below (T10.setTop (mkF m 57 #[.val (.int pb), .val (.int pg), .val (.int pf), .val (.int g0), .val (.int g1), .val (.int g2), .val (.int g3), .val (.ref ar), .unset, .unset, .unset] [(.double x1), (.int (1 : Int32)), (.ref ar)])) t → Steps p.tables e below (s₁.setTop (entryFrame m #[(.int pb), (.int pg), (.int pf)] maxLocals)) t := fun t k => c12 t (by
    show Steps p.tables e below (T10.setTop (mkF m 47 #[.val (.int pb), .val (.int pg), .val (.int pf), .val (.int g0), .val (.int g1), .val (.int g2), .val (.int g3), .val (.ref ar), .unset, .unset, .unset] [])) _
    refine XS.aload X10.here hx rfl (hb hby at_47) rfl rfl ?_
    show Steps p.tables e below (T10.setTop (mkF m 49 #[.val (.int pb), .val (.int pg), .val (.int pf), .val (.int g0), .val (.int g1), .val (.int g2), .val (.int g3), .val (.ref ar), .unset, .unset, .unset] [(.ref ar)])) _
    refine XS.iconst X10.here hx rfl (hb hby at_49) ?_
    show Steps p.tables e below (T10.setTop (mkF m 50 #[.val (.int pb), .val (.int pg), .val (.int pf), .val (.int g0), .val (.int g1), .val (.int g2), .val (.int g3), .val (.ref ar), .unset, .unset, .unset] [(.int (1 : Int32)), (.ref ar)])) _
    refine XS.aload X10.here hx rfl (hb hby at_50) rfl rfl ?_
    show Steps p.tables e below (T10.setTop (mkF m 52 #[.val (.int pb), .val (.int pg), .val (.int pf), .val (.int g0), .val (.int g1), .val (.int g2), .val (.int g3), .val (.ref ar), .unset, .unset, .unset] [(.ref ar), (.int (1 : Int32)), (.ref ar)])) _
    refine XS.iconst X10.here hx rfl (hb hby at_52) ?_
    show Steps p.tables e below (T10.setTop (mkF m 53 #[.val (.int pb), .val (.int pg), .val (.int pf), .val (.int g0), .val (.int g1), .val (.int g2), .val (.int g3), .val (.ref ar), .unset, .unset, .unset] [(.int (0 : Int32)), (.ref ar), (.int (1 : Int32)), (.ref ar)])) _
    refine OwnArr.ldD X10 hx hZ e10 F11 (j := (0 : Int32)) (J := 0) (by decide) (by decide) (x := x0) rfl (g := (mkF m 53 #[.val (.int pb), .val (.int pg), .val (.int pf), .val (.int g0), .val (.int g1), .val (.int g2), .val (.int g3), .val (.ref ar), .unset, .unset, .unset] [(.int (0 : Int32)), (.ref ar), (.int (1 : Int32)), (.ref ar)])) rfl rfl (hb hby at_53) ?_
    show Steps p.tables e below (T10.setTop (mkF m 54 #[.val (.int pb), .val (.int pg), .val (.int pf), .val (.int g0), .val (.int g1), .val (.int g2), .val (.int g3), .val (.ref ar), .unset, .unset, .unset] [(.double x0), (.int (1 : Int32)), (.ref ar)])) _
    refine XS.iloadN X10.here hx rfl (hb hby at_54) rfl ?_
    show Steps p.tables e below (T10.setTop (mkF m 55 #[.val (.int pb), .val (.int pg), .val (.int pf), .val (.int g0), .val (.int g1), .val (.int g2), .val (.int g3), .val (.ref ar), .unset, .unset, .unset] [(.int g0), (.double x0), (.int (1 : Int32)), (.ref ar)])) _
    refine XS.i2dS X10.here hx rfl (hb hby at_55) rfl hy0 ?_
    show Steps p.tables e below (T10.setTop (mkF m 56 #[.val (.int pb), .val (.int pg), .val (.int pf), .val (.int g0), .val (.int g1), .val (.int g2), .val (.int g3), .val (.ref ar), .unset, .unset, .unset] [(.double y0), (.double x0), (.int (1 : Int32)), (.ref ar)])) _
    refine XS.daddS X10.here hx rfl (hb hby at_56) rfl (hx1 ▸ D1.noNaN) hx1 ?_
    show Steps p.tables e below (T10.setTop (mkF m 57 #[.val (.int pb), .val (.int pg), .val (.int pf), .val (.int g0), .val (.int g1), .val (.int g2), .val (.int g3), .val (.ref ar), .unset, .unset, .unset] [(.double x1), (.int (1 : Int32)), (.ref ar)])) _
    exact k)
  obtain ⟨T14, h14, X14, e14, W14, st14⟩ := OwnArr.stDA X10 hx hZ e10 F11 (j := (1 : Int32)) (J := 1) (by decide) (by decide) (g := (mkF m 57 #[.val (.int pb), .val (.int pg), .val (.int pf), .val (.int g0), .val (.int g1), .val (.int g2), .val (.int g3), .val (.ref ar), .unset, .unset, .unset] [(.double x1), (.int (1 : Int32)), (.ref ar)])) rfl rfl (hb hby at_57)
  have F15 : OwnArr.Ag Z h14 ar .double 5 (fun i => if i = 1 then (.double x1) else (fun i => if i = 0 then (.double x0) else (fun _ => (.double (0 : UInt64))) i) i) := (F11.set W14)
  have N14 := Fr.snoc X14 N10 (Nat.le_trans Z0 (Nat.le_of_eq g6.symm))
  have c16 : ∀ t, Steps p.tables e below (T14.setTop (mkF m 58 #[.val (.int pb), .val (.int pg), .val (.int pf), .val (.int g0), .val (.int g1), .val (.int g2), .val (.int g3), .val (.ref ar), .unset, .unset, .unset] [])) t → Steps p.tables e below (s₁.setTop (entryFrame m #[(.int pb), (.int pg), (.int pf)] maxLocals)) t := fun t k => c13 t (st14 _ k)
  obtain ⟨y1, hy1⟩ : ∃ v : UInt64, FP.i2d g1 = v := ⟨_, rfl⟩
  obtain ⟨x2, hx2⟩ : ∃ v : UInt64, FP.dadd x1 y1 = v := ⟨_, rfl⟩
  have D2 : DS ((pb.toInt + g0.toInt) + g1.toInt) 0 x2 := hx2 ▸ D1.add (hy1 ▸ DS.i2d g1) (by omega) (by decide)
  have c17 : ∀ t, Steps p.tables e below (T14.setTop (mkF m 69 #[.val (.int pb), .val (.int pg), .val (.int pf), .val (.int g0), .val (.int g1), .val (.int g2), .val (.int g3), .val (.ref ar), .unset, .unset, .unset] [(.double x2), (.int (2 : Int32)), (.ref ar)])) t → Steps p.tables e below (s₁.setTop (entryFrame m #[(.int pb), (.int pg), (.int pf)] maxLocals)) t := fun t k => c16 t (by
    show Steps p.tables e below (T14.setTop (mkF m 58 #[.val (.int pb), .val (.int pg), .val (.int pf), .val (.int g0), .val (.int g1), .val (.int g2), .val (.int g3), .val (.ref ar), .unset, .unset, .unset] [])) _
    refine XS.aload X14.here hx rfl (hb hby at_58) rfl rfl ?_
    show Steps p.tables e below (T14.setTop (mkF m 60 #[.val (.int pb), .val (.int pg), .val (.int pf), .val (.int g0), .val (.int g1), .val (.int g2), .val (.int g3), .val (.ref ar), .unset, .unset, .unset] [(.ref ar)])) _
    refine XS.iconst X14.here hx rfl (hb hby at_60) ?_
    show Steps p.tables e below (T14.setTop (mkF m 61 #[.val (.int pb), .val (.int pg), .val (.int pf), .val (.int g0), .val (.int g1), .val (.int g2), .val (.int g3), .val (.ref ar), .unset, .unset, .unset] [(.int (2 : Int32)), (.ref ar)])) _
    refine XS.aload X14.here hx rfl (hb hby at_61) rfl rfl ?_
    show Steps p.tables e below (T14.setTop (mkF m 63 #[.val (.int pb), .val (.int pg), .val (.int pf), .val (.int g0), .val (.int g1), .val (.int g2), .val (.int g3), .val (.ref ar), .unset, .unset, .unset] [(.ref ar), (.int (2 : Int32)), (.ref ar)])) _
    refine XS.iconst X14.here hx rfl (hb hby at_63) ?_
    show Steps p.tables e below (T14.setTop (mkF m 64 #[.val (.int pb), .val (.int pg), .val (.int pf), .val (.int g0), .val (.int g1), .val (.int g2), .val (.int g3), .val (.ref ar), .unset, .unset, .unset] [(.int (1 : Int32)), (.ref ar), (.int (2 : Int32)), (.ref ar)])) _
    refine OwnArr.ldD X14 hx hZ e14 F15 (j := (1 : Int32)) (J := 1) (by decide) (by decide) (x := x1) rfl (g := (mkF m 64 #[.val (.int pb), .val (.int pg), .val (.int pf), .val (.int g0), .val (.int g1), .val (.int g2), .val (.int g3), .val (.ref ar), .unset, .unset, .unset] [(.int (1 : Int32)), (.ref ar), (.int (2 : Int32)), (.ref ar)])) rfl rfl (hb hby at_64) ?_
    show Steps p.tables e below (T14.setTop (mkF m 65 #[.val (.int pb), .val (.int pg), .val (.int pf), .val (.int g0), .val (.int g1), .val (.int g2), .val (.int g3), .val (.ref ar), .unset, .unset, .unset] [(.double x1), (.int (2 : Int32)), (.ref ar)])) _
    refine XS.iload X14.here hx rfl (hb hby at_65) rfl ?_
    show Steps p.tables e below (T14.setTop (mkF m 67 #[.val (.int pb), .val (.int pg), .val (.int pf), .val (.int g0), .val (.int g1), .val (.int g2), .val (.int g3), .val (.ref ar), .unset, .unset, .unset] [(.int g1), (.double x1), (.int (2 : Int32)), (.ref ar)])) _
    refine XS.i2dS X14.here hx rfl (hb hby at_67) rfl hy1 ?_
    show Steps p.tables e below (T14.setTop (mkF m 68 #[.val (.int pb), .val (.int pg), .val (.int pf), .val (.int g0), .val (.int g1), .val (.int g2), .val (.int g3), .val (.ref ar), .unset, .unset, .unset] [(.double y1), (.double x1), (.int (2 : Int32)), (.ref ar)])) _
    refine XS.daddS X14.here hx rfl (hb hby at_68) rfl (hx2 ▸ D2.noNaN) hx2 ?_
    show Steps p.tables e below (T14.setTop (mkF m 69 #[.val (.int pb), .val (.int pg), .val (.int pf), .val (.int g0), .val (.int g1), .val (.int g2), .val (.int g3), .val (.ref ar), .unset, .unset, .unset] [(.double x2), (.int (2 : Int32)), (.ref ar)])) _
    exact k)
  obtain ⟨T18, h18, X18, e18, W18, st18⟩ := OwnArr.stDA X14 hx hZ e14 F15 (j := (2 : Int32)) (J := 2) (by decide) (by decide) (g := (mkF m 69 #[.val (.int pb), .val (.int pg), .val (.int pf), .val (.int g0), .val (.int g1), .val (.int g2), .val (.int g3), .val (.ref ar), .unset, .unset, .unset] [(.double x2), (.int (2 : Int32)), (.ref ar)])) rfl rfl (hb hby at_69)
  have F19 : OwnArr.Ag Z h18 ar .double 5 (fun i => if i = 2 then (.double x2) else (fun i => if i = 1 then (.double x1) else (fun i => if i = 0 then (.double x0) else (fun _ => (.double (0 : UInt64))) i) i) i) := (F15.set W18)
  have N18 := Fr.snoc X18 N14 (Nat.le_trans Z0 (Nat.le_of_eq g6.symm))
  have c20 : ∀ t, Steps p.tables e below (T18.setTop (mkF m 70 #[.val (.int pb), .val (.int pg), .val (.int pf), .val (.int g0), .val (.int g1), .val (.int g2), .val (.int g3), .val (.ref ar), .unset, .unset, .unset] [])) t → Steps p.tables e below (s₁.setTop (entryFrame m #[(.int pb), (.int pg), (.int pf)] maxLocals)) t := fun t k => c17 t (st18 _ k)
  obtain ⟨y2, hy2⟩ : ∃ v : UInt64, FP.i2d g2 = v := ⟨_, rfl⟩
  obtain ⟨x3, hx3⟩ : ∃ v : UInt64, FP.dadd x2 y2 = v := ⟨_, rfl⟩
  have D3 : DS (((pb.toInt + g0.toInt) + g1.toInt) + g2.toInt) 0 x3 := hx3 ▸ D2.add (hy2 ▸ DS.i2d g2) (by omega) (by decide)
  have c21 : ∀ t, Steps p.tables e below (T18.setTop (mkF m 81 #[.val (.int pb), .val (.int pg), .val (.int pf), .val (.int g0), .val (.int g1), .val (.int g2), .val (.int g3), .val (.ref ar), .unset, .unset, .unset] [(.double x3), (.int (3 : Int32)), (.ref ar)])) t → Steps p.tables e below (s₁.setTop (entryFrame m #[(.int pb), (.int pg), (.int pf)] maxLocals)) t := fun t k => c20 t (by
    show Steps p.tables e below (T18.setTop (mkF m 70 #[.val (.int pb), .val (.int pg), .val (.int pf), .val (.int g0), .val (.int g1), .val (.int g2), .val (.int g3), .val (.ref ar), .unset, .unset, .unset] [])) _
    refine XS.aload X18.here hx rfl (hb hby at_70) rfl rfl ?_
    show Steps p.tables e below (T18.setTop (mkF m 72 #[.val (.int pb), .val (.int pg), .val (.int pf), .val (.int g0), .val (.int g1), .val (.int g2), .val (.int g3), .val (.ref ar), .unset, .unset, .unset] [(.ref ar)])) _
    refine XS.iconst X18.here hx rfl (hb hby at_72) ?_
    show Steps p.tables e below (T18.setTop (mkF m 73 #[.val (.int pb), .val (.int pg), .val (.int pf), .val (.int g0), .val (.int g1), .val (.int g2), .val (.int g3), .val (.ref ar), .unset, .unset, .unset] [(.int (3 : Int32)), (.ref ar)])) _
    refine XS.aload X18.here hx rfl (hb hby at_73) rfl rfl ?_
    show Steps p.tables e below (T18.setTop (mkF m 75 #[.val (.int pb), .val (.int pg), .val (.int pf), .val (.int g0), .val (.int g1), .val (.int g2), .val (.int g3), .val (.ref ar), .unset, .unset, .unset] [(.ref ar), (.int (3 : Int32)), (.ref ar)])) _
    refine XS.iconst X18.here hx rfl (hb hby at_75) ?_
    show Steps p.tables e below (T18.setTop (mkF m 76 #[.val (.int pb), .val (.int pg), .val (.int pf), .val (.int g0), .val (.int g1), .val (.int g2), .val (.int g3), .val (.ref ar), .unset, .unset, .unset] [(.int (2 : Int32)), (.ref ar), (.int (3 : Int32)), (.ref ar)])) _
    refine OwnArr.ldD X18 hx hZ e18 F19 (j := (2 : Int32)) (J := 2) (by decide) (by decide) (x := x2) rfl (g := (mkF m 76 #[.val (.int pb), .val (.int pg), .val (.int pf), .val (.int g0), .val (.int g1), .val (.int g2), .val (.int g3), .val (.ref ar), .unset, .unset, .unset] [(.int (2 : Int32)), (.ref ar), (.int (3 : Int32)), (.ref ar)])) rfl rfl (hb hby at_76) ?_
    show Steps p.tables e below (T18.setTop (mkF m 77 #[.val (.int pb), .val (.int pg), .val (.int pf), .val (.int g0), .val (.int g1), .val (.int g2), .val (.int g3), .val (.ref ar), .unset, .unset, .unset] [(.double x2), (.int (3 : Int32)), (.ref ar)])) _
    refine XS.iload X18.here hx rfl (hb hby at_77) rfl ?_
    show Steps p.tables e below (T18.setTop (mkF m 79 #[.val (.int pb), .val (.int pg), .val (.int pf), .val (.int g0), .val (.int g1), .val (.int g2), .val (.int g3), .val (.ref ar), .unset, .unset, .unset] [(.int g2), (.double x2), (.int (3 : Int32)), (.ref ar)])) _
    refine XS.i2dS X18.here hx rfl (hb hby at_79) rfl hy2 ?_
    show Steps p.tables e below (T18.setTop (mkF m 80 #[.val (.int pb), .val (.int pg), .val (.int pf), .val (.int g0), .val (.int g1), .val (.int g2), .val (.int g3), .val (.ref ar), .unset, .unset, .unset] [(.double y2), (.double x2), (.int (3 : Int32)), (.ref ar)])) _
    refine XS.daddS X18.here hx rfl (hb hby at_80) rfl (hx3 ▸ D3.noNaN) hx3 ?_
    show Steps p.tables e below (T18.setTop (mkF m 81 #[.val (.int pb), .val (.int pg), .val (.int pf), .val (.int g0), .val (.int g1), .val (.int g2), .val (.int g3), .val (.ref ar), .unset, .unset, .unset] [(.double x3), (.int (3 : Int32)), (.ref ar)])) _
    exact k)
  obtain ⟨T22, h22, X22, e22, W22, st22⟩ := OwnArr.stDA X18 hx hZ e18 F19 (j := (3 : Int32)) (J := 3) (by decide) (by decide) (g := (mkF m 81 #[.val (.int pb), .val (.int pg), .val (.int pf), .val (.int g0), .val (.int g1), .val (.int g2), .val (.int g3), .val (.ref ar), .unset, .unset, .unset] [(.double x3), (.int (3 : Int32)), (.ref ar)])) rfl rfl (hb hby at_81)
  have F23 : OwnArr.Ag Z h22 ar .double 5 (fun i => if i = 3 then (.double x3) else (fun i => if i = 2 then (.double x2) else (fun i => if i = 1 then (.double x1) else (fun i => if i = 0 then (.double x0) else (fun _ => (.double (0 : UInt64))) i) i) i) i) := (F19.set W22)
  have N22 := Fr.snoc X22 N18 (Nat.le_trans Z0 (Nat.le_of_eq g6.symm))
  have c24 : ∀ t, Steps p.tables e below (T22.setTop (mkF m 82 #[.val (.int pb), .val (.int pg), .val (.int pf), .val (.int g0), .val (.int g1), .val (.int g2), .val (.int g3), .val (.ref ar), .unset, .unset, .unset] [])) t → Steps p.tables e below (s₁.setTop (entryFrame m #[(.int pb), (.int pg), (.int pf)] maxLocals)) t := fun t k => c21 t (st22 _ k)
  obtain ⟨y3, hy3⟩ : ∃ v : UInt64, FP.i2d g3 = v := ⟨_, rfl⟩
  obtain ⟨x4, hx4⟩ : ∃ v : UInt64, FP.dadd x3 y3 = v := ⟨_, rfl⟩
  have D4 : DS ((((pb.toInt + g0.toInt) + g1.toInt) + g2.toInt) + g3.toInt) 0 x4 := hx4 ▸ D3.add (hy3 ▸ DS.i2d g3) (by omega) (by decide)
  have c25 : ∀ t, Steps p.tables e below (T22.setTop (mkF m 93 #[.val (.int pb), .val (.int pg), .val (.int pf), .val (.int g0), .val (.int g1), .val (.int g2), .val (.int g3), .val (.ref ar), .unset, .unset, .unset] [(.double x4), (.int (4 : Int32)), (.ref ar)])) t → Steps p.tables e below (s₁.setTop (entryFrame m #[(.int pb), (.int pg), (.int pf)] maxLocals)) t := fun t k => c24 t (by
    show Steps p.tables e below (T22.setTop (mkF m 82 #[.val (.int pb), .val (.int pg), .val (.int pf), .val (.int g0), .val (.int g1), .val (.int g2), .val (.int g3), .val (.ref ar), .unset, .unset, .unset] [])) _
    refine XS.aload X22.here hx rfl (hb hby at_82) rfl rfl ?_
    show Steps p.tables e below (T22.setTop (mkF m 84 #[.val (.int pb), .val (.int pg), .val (.int pf), .val (.int g0), .val (.int g1), .val (.int g2), .val (.int g3), .val (.ref ar), .unset, .unset, .unset] [(.ref ar)])) _
    refine XS.iconst X22.here hx rfl (hb hby at_84) ?_
    show Steps p.tables e below (T22.setTop (mkF m 85 #[.val (.int pb), .val (.int pg), .val (.int pf), .val (.int g0), .val (.int g1), .val (.int g2), .val (.int g3), .val (.ref ar), .unset, .unset, .unset] [(.int (4 : Int32)), (.ref ar)])) _
    refine XS.aload X22.here hx rfl (hb hby at_85) rfl rfl ?_
    show Steps p.tables e below (T22.setTop (mkF m 87 #[.val (.int pb), .val (.int pg), .val (.int pf), .val (.int g0), .val (.int g1), .val (.int g2), .val (.int g3), .val (.ref ar), .unset, .unset, .unset] [(.ref ar), (.int (4 : Int32)), (.ref ar)])) _
    refine XS.iconst X22.here hx rfl (hb hby at_87) ?_
    show Steps p.tables e below (T22.setTop (mkF m 88 #[.val (.int pb), .val (.int pg), .val (.int pf), .val (.int g0), .val (.int g1), .val (.int g2), .val (.int g3), .val (.ref ar), .unset, .unset, .unset] [(.int (3 : Int32)), (.ref ar), (.int (4 : Int32)), (.ref ar)])) _
    refine OwnArr.ldD X22 hx hZ e22 F23 (j := (3 : Int32)) (J := 3) (by decide) (by decide) (x := x3) rfl (g := (mkF m 88 #[.val (.int pb), .val (.int pg), .val (.int pf), .val (.int g0), .val (.int g1), .val (.int g2), .val (.int g3), .val (.ref ar), .unset, .unset, .unset] [(.int (3 : Int32)), (.ref ar), (.int (4 : Int32)), (.ref ar)])) rfl rfl (hb hby at_88) ?_
    show Steps p.tables e below (T22.setTop (mkF m 89 #[.val (.int pb), .val (.int pg), .val (.int pf), .val (.int g0), .val (.int g1), .val (.int g2), .val (.int g3), .val (.ref ar), .unset, .unset, .unset] [(.double x3), (.int (4 : Int32)), (.ref ar)])) _
    refine XS.iload X22.here hx rfl (hb hby at_89) rfl ?_
    show Steps p.tables e below (T22.setTop (mkF m 91 #[.val (.int pb), .val (.int pg), .val (.int pf), .val (.int g0), .val (.int g1), .val (.int g2), .val (.int g3), .val (.ref ar), .unset, .unset, .unset] [(.int g3), (.double x3), (.int (4 : Int32)), (.ref ar)])) _
    refine XS.i2dS X22.here hx rfl (hb hby at_91) rfl hy3 ?_
    show Steps p.tables e below (T22.setTop (mkF m 92 #[.val (.int pb), .val (.int pg), .val (.int pf), .val (.int g0), .val (.int g1), .val (.int g2), .val (.int g3), .val (.ref ar), .unset, .unset, .unset] [(.double y3), (.double x3), (.int (4 : Int32)), (.ref ar)])) _
    refine XS.daddS X22.here hx rfl (hb hby at_92) rfl (hx4 ▸ D4.noNaN) hx4 ?_
    show Steps p.tables e below (T22.setTop (mkF m 93 #[.val (.int pb), .val (.int pg), .val (.int pf), .val (.int g0), .val (.int g1), .val (.int g2), .val (.int g3), .val (.ref ar), .unset, .unset, .unset] [(.double x4), (.int (4 : Int32)), (.ref ar)])) _
    exact k)
  obtain ⟨T26, h26, X26, e26, W26, st26⟩ := OwnArr.stDA X22 hx hZ e22 F23 (j := (4 : Int32)) (J := 4) (by decide) (by decide) (g := (mkF m 93 #[.val (.int pb), .val (.int pg), .val (.int pf), .val (.int g0), .val (.int g1), .val (.int g2), .val (.int g3), .val (.ref ar), .unset, .unset, .unset] [(.double x4), (.int (4 : Int32)), (.ref ar)])) rfl rfl (hb hby at_93)
  have F27 : OwnArr.Ag Z h26 ar .double 5 (fun i => if i = 4 then (.double x4) else (fun i => if i = 3 then (.double x3) else (fun i => if i = 2 then (.double x2) else (fun i => if i = 1 then (.double x1) else (fun i => if i = 0 then (.double x0) else (fun _ => (.double (0 : UInt64))) i) i) i) i) i) := (F23.set W26)
  have N26 := Fr.snoc X26 N22 (Nat.le_trans Z0 (Nat.le_of_eq g6.symm))
  have c28 : ∀ t, Steps p.tables e below (T26.setTop (mkF m 94 #[.val (.int pb), .val (.int pg), .val (.int pf), .val (.int g0), .val (.int g1), .val (.int g2), .val (.int g3), .val (.ref ar), .unset, .unset, .unset] [])) t → Steps p.tables e below (s₁.setTop (entryFrame m #[(.int pb), (.int pg), (.int pf)] maxLocals)) t := fun t k => c25 t (st26 _ k)
  obtain ⟨ff, hff⟩ : ∃ v : Int32, v = ((pf &&& (2147483647 : Int32)) % (5 : Int32)) := ⟨_, rfl⟩
  have c29 : ∀ t, Steps p.tables e below (T26.setTop (mkF m 102 #[.val (.int pb), .val (.int pg), .val (.int pf), .val (.int g0), .val (.int g1), .val (.int g2), .val (.int g3), .val (.ref ar), .val (.int ff), .unset, .unset] [])) t → Steps p.tables e below (s₁.setTop (entryFrame m #[(.int pb), (.int pg), (.int pf)] maxLocals)) t := fun t k => c28 t (by
    rw [hff] at k
    show Steps p.tables e below (T26.setTop (mkF m 94 #[.val (.int pb), .val (.int pg), .val (.int pf), .val (.int g0), .val (.int g1), .val (.int g2), .val (.int g3), .val (.ref ar), .unset, .unset, .unset] [])) _
    refine XS.iloadN X26.here hx rfl (hb hby at_94) rfl ?_
    show Steps p.tables e below (T26.setTop (mkF m 95 #[.val (.int pb), .val (.int pg), .val (.int pf), .val (.int g0), .val (.int g1), .val (.int g2), .val (.int g3), .val (.ref ar), .unset, .unset, .unset] [(.int pf)])) _
    refine Jvm.Stand.ldcI X26 hx hown (mvT hZ (hw _ (List.mem_of_getElem? (i := 1) rfl))) rfl (hb hby at_95) ?_
    show Steps p.tables e below (T26.setTop (mkF m 97 #[.val (.int pb), .val (.int pg), .val (.int pf), .val (.int g0), .val (.int g1), .val (.int g2), .val (.int g3), .val (.ref ar), .unset, .unset, .unset] [(.int (2147483647 : Int32)), (.int pf)])) _
    refine XS.iand X26.here hx rfl (hb hby at_97) rfl ?_
    show Steps p.tables e below (T26.setTop (mkF m 98 #[.val (.int pb), .val (.int pg), .val (.int pf), .val (.int g0), .val (.int g1), .val (.int g2), .val (.int g3), .val (.ref ar), .unset, .unset, .unset] [(.int (pf &&& (2147483647 : Int32)))])) _
    refine XS.iconst X26.here hx rfl (hb hby at_98) ?_
    show Steps p.tables e below (T26.setTop (mkF m 99 #[.val (.int pb), .val (.int pg), .val (.int pf), .val (.int g0), .val (.int g1), .val (.int g2), .val (.int g3), .val (.ref ar), .unset, .unset, .unset] [(.int (5 : Int32)), (.int (pf &&& (2147483647 : Int32)))])) _
    refine iremM X26 hx rfl (hb hby at_99) rfl (by decide) ?_
    show Steps p.tables e below (T26.setTop (mkF m 100 #[.val (.int pb), .val (.int pg), .val (.int pf), .val (.int g0), .val (.int g1), .val (.int g2), .val (.int g3), .val (.ref ar), .unset, .unset, .unset] [(.int ((pf &&& (2147483647 : Int32)) % (5 : Int32)))])) _
    refine XS.istore X26.here hx rfl (hb hby at_100) rfl (l' := #[.val (.int pb), .val (.int pg), .val (.int pf), .val (.int g0), .val (.int g1), .val (.int g2), .val (.int g3), .val (.ref ar), .val (.int ((pf &&& (2147483647 : Int32)) % (5 : Int32))), .unset, .unset]) rfl ?_
    show Steps p.tables e below (T26.setTop (mkF m 102 #[.val (.int pb), .val (.int pg), .val (.int pf), .val (.int g0), .val (.int g1), .val (.int g2), .val (.int g3), .val (.ref ar), .val (.int ((pf &&& (2147483647 : Int32)) % (5 : Int32))), .unset, .unset] [])) _
    exact k)
  obtain ⟨F, hF1, hF2⟩ := first_k pf hff
  have c30 : ∀ t, Steps p.tables e below (T26.setTop (mkF m 103 #[.val (.int pb), .val (.int pg), .val (.int pf), .val (.int g0), .val (.int g1), .val (.int g2), .val (.int g3), .val (.ref ar), .val (.int ff), .unset, .unset] [(.int g0)])) t → Steps p.tables e below (s₁.setTop (entryFrame m #[(.int pb), (.int pg), (.int pf)] maxLocals)) t := fun t k => c29 t (by
    show Steps p.tables e below (T26.setTop (mkF m 102 #[.val (.int pb), .val (.int pg), .val (.int pf), .val (.int g0), .val (.int g1), .val (.int g2), .val (.int g3), .val (.ref ar), .val (.int ff), .unset, .unset] [])) _
    refine XS.iloadN X26.here hx rfl (hb hby at_102) rfl ?_
    show Steps p.tables e below (T26.setTop (mkF m 103 #[.val (.int pb), .val (.int pg), .val (.int pf), .val (.int g0), .val (.int g1), .val (.int g2), .val (.int g3), .val (.ref ar), .val (.int ff), .unset, .unset] [(.int g0)])) _
    exact k)
  obtain ⟨b103, hb103⟩ : ∃ v : Int32, v = (if g0 = 0 then (0 : Int32) else (1 : Int32)) := ⟨_, rfl⟩
  have c31 : ∀ t, Steps p.tables e below (T26.setTop (mkF m 111 #[.val (.int pb), .val (.int pg), .val (.int pf), .val (.int g0), .val (.int g1), .val (.int g2), .val (.int g3), .val (.ref ar), .val (.int ff), .unset, .unset] [(.int b103)])) t → Steps p.tables e below (s₁.setTop (entryFrame m #[(.int pb), (.int pg), (.int pf)] maxLocals)) t := fun t k => c30 t (by
    rw [hb103] at k
    show Steps p.tables e below (T26.setTop (mkF m 103 #[.val (.int pb), .val (.int pg), .val (.int pf), .val (.int g0), .val (.int g1), .val (.int g2), .val (.int g3), .val (.ref ar), .val (.int ff), .unset, .unset] [(.int g0)])) _
    by_cases q103_0 : g0 = 0
    · try simp only [if_pos q103_0] at k
      refine XS.ifYes X26.here hx rfl (pc0 := 103) (pc' := 110) rfl (hb hby at_103) rfl (XT.i0_eq_t q103_0) (by decide) (by decide) ?_
      show Steps p.tables e below (T26.setTop (mkF m 110 #[.val (.int pb), .val (.int pg), .val (.int pf), .val (.int g0), .val (.int g1), .val (.int g2), .val (.int g3), .val (.ref ar), .val (.int ff), .unset, .unset] [])) _
      refine XS.iconst X26.here hx rfl (hb hby at_110) ?_
      show Steps p.tables e below (T26.setTop (mkF m 111 #[.val (.int pb), .val (.int pg), .val (.int pf), .val (.int g0), .val (.int g1), .val (.int g2), .val (.int g3), .val (.ref ar), .val (.int ff), .unset, .unset] [(.int (0 : Int32))])) _
      exact k
    · try simp only [if_neg q103_0] at k
      refine XS.ifNo X26.here hx rfl (hb hby at_103) rfl (XT.i0_eq_f q103_0) ?_
      show Steps p.tables e below (T26.setTop (mkF m 106 #[.val (.int pb), .val (.int pg), .val (.int pf), .val (.int g0), .val (.int g1), .val (.int g2), .val (.int g3), .val (.ref ar), .val (.int ff), .unset, .unset] [])) _
      refine XS.iconst X26.here hx rfl (hb hby at_106) ?_
      show Steps p.tables e below (T26.setTop (mkF m 107 #[.val (.int pb), .val (.int pg), .val (.int pf), .val (.int g0), .val (.int g1), .val (.int g2), .val (.int g3), .val (.ref ar), .val (.int ff), .unset, .unset] [(.int (1 : Int32))])) _
      refine XS.goto X26.here hx rfl (pc0 := 107) (pc' := 111) rfl (hb hby at_107) (by decide) (by decide) ?_
      show Steps p.tables e below (T26.setTop (mkF m 111 #[.val (.int pb), .val (.int pg), .val (.int pf), .val (.int g0), .val (.int g1), .val (.int g2), .val (.int g3), .val (.ref ar), .val (.int ff), .unset, .unset] [(.int (1 : Int32))])) _
      exact k)
  have c32 : ∀ t, Steps p.tables e below (T26.setTop (mkF m 113 #[.val (.int pb), .val (.int pg), .val (.int pf), .val (.int g0), .val (.int g1), .val (.int g2), .val (.int g3), .val (.ref ar), .val (.int ff), .unset, .unset] [(.int g1), (.int b103)])) t → Steps p.tables e below (s₁.setTop (entryFrame m #[(.int pb), (.int pg), (.int pf)] maxLocals)) t := fun t k => c31 t (by
    show Steps p.tables e below (T26.setTop (mkF m 111 #[.val (.int pb), .val (.int pg), .val (.int pf), .val (.int g0), .val (.int g1), .val (.int g2), .val (.int g3), .val (.ref ar), .val (.int ff), .unset, .unset] [(.int b103)])) _
    refine XS.iload X26.here hx rfl (hb hby at_111) rfl ?_
    show Steps p.tables e below (T26.setTop (mkF m 113 #[.val (.int pb), .val (.int pg), .val (.int pf), .val (.int g0), .val (.int g1), .val (.int g2), .val (.int g3), .val (.ref ar), .val (.int ff), .unset, .unset] [(.int g1), (.int b103)])) _
    exact k)
  obtain ⟨b113, hb113⟩ : ∃ v : Int32, v = (if g1 = 0 then (0 : Int32) else (2 : Int32)) := ⟨_, rfl⟩
  have c33 : ∀ t, Steps p.tables e below (T26.setTop (mkF m 121 #[.val (.int pb), .val (.int pg), .val (.int pf), .val (.int g0), .val (.int g1), .val (.int g2), .val (.int g3), .val (.ref ar), .val (.int ff), .unset, .unset] [(.int b113), (.int b103)])) t → Steps p.tables e below (s₁.setTop (entryFrame m #[(.int pb), (.int pg), (.int pf)] maxLocals)) t := fun t k => c32 t (by
    rw [hb113] at k
    show Steps p.tables e below (T26.setTop (mkF m 113 #[.val (.int pb), .val (.int pg), .val (.int pf), .val (.int g0), .val (.int g1), .val (.int g2), .val (.int g3), .val (.ref ar), .val (.int ff), .unset, .unset] [(.int g1), (.int b103)])) _
    by_cases q113_0 : g1 = 0
    · try simp only [if_pos q113_0] at k
      refine XS.ifYes X26.here hx rfl (pc0 := 113) (pc' := 120) rfl (hb hby at_113) rfl (XT.i0_eq_t q113_0) (by decide) (by decide) ?_
      show Steps p.tables e below (T26.setTop (mkF m 120 #[.val (.int pb), .val (.int pg), .val (.int pf), .val (.int g0), .val (.int g1), .val (.int g2), .val (.int g3), .val (.ref ar), .val (.int ff), .unset, .unset] [(.int b103)])) _
      refine XS.iconst X26.here hx rfl (hb hby at_120) ?_
      show Steps p.tables e below (T26.setTop (mkF m 121 #[.val (.int pb), .val (.int pg), .val (.int pf), .val (.int g0), .val (.int g1), .val (.int g2), .val (.int g3), .val (.ref ar), .val (.int ff), .unset, .unset] [(.int (0 : Int32)), (.int b103)])) _
      exact k
    · try simp only [if_neg q113_0] at k
      refine XS.ifNo X26.here hx rfl (hb hby at_113) rfl (XT.i0_eq_f q113_0) ?_
      show Steps p.tables e below (T26.setTop (mkF m 116 #[.val (.int pb), .val (.int pg), .val (.int pf), .val (.int g0), .val (.int g1), .val (.int g2), .val (.int g3), .val (.ref ar), .val (.int ff), .unset, .unset] [(.int b103)])) _
      refine XS.iconst X26.here hx rfl (hb hby at_116) ?_
      show Steps p.tables e below (T26.setTop (mkF m 117 #[.val (.int pb), .val (.int pg), .val (.int pf), .val (.int g0), .val (.int g1), .val (.int g2), .val (.int g3), .val (.ref ar), .val (.int ff), .unset, .unset] [(.int (2 : Int32)), (.int b103)])) _
      refine XS.goto X26.here hx rfl (pc0 := 117) (pc' := 121) rfl (hb hby at_117) (by decide) (by decide) ?_
      show Steps p.tables e below (T26.setTop (mkF m 121 #[.val (.int pb), .val (.int pg), .val (.int pf), .val (.int g0), .val (.int g1), .val (.int g2), .val (.int g3), .val (.ref ar), .val (.int ff), .unset, .unset] [(.int (2 : Int32)), (.int b103)])) _
      exact k)
  have c34 : ∀ t, Steps p.tables e below (T26.setTop (mkF m 124 #[.val (.int pb), .val (.int pg), .val (.int pf), .val (.int g0), .val (.int g1), .val (.int g2), .val (.int g3), .val (.ref ar), .val (.int ff), .unset, .unset] [(.int g2), (.int (b103 ||| b113))])) t → Steps p.tables e below (s₁.setTop (entryFrame m #[(.int pb), (.int pg), (.int pf)] maxLocals)) t := fun t k => c33 t (by
    show Steps p.tables e below (T26.setTop (mkF m 121 #[.val (.int pb), .val (.int pg), .val (.int pf), .val (.int g0), .val (.int g1), .val (.int g2), .val (.int g3), .val (.ref ar), .val (.int ff), .unset, .unset] [(.int b113), (.int b103)])) _
    refine XT.ior X26.here hx rfl (hb hby at_121) rfl ?_
    show Steps p.tables e below (T26.setTop (mkF m 122 #[.val (.int pb), .val (.int pg), .val (.int pf), .val (.int g0), .val (.int g1), .val (.int g2), .val (.int g3), .val (.ref ar), .val (.int ff), .unset, .unset] [(.int (b103 ||| b113))])) _
    refine XS.iload X26.here hx rfl (hb hby at_122) rfl ?_
    show Steps p.tables e below (T26.setTop (mkF m 124 #[.val (.int pb), .val (.int pg), .val (.int pf), .val (.int g0), .val (.int g1), .val (.int g2), .val (.int g3), .val (.ref ar), .val (.int ff), .unset, .unset] [(.int g2), (.int (b103 ||| b113))])) _
    exact k)
  obtain ⟨b124, hb124⟩ : ∃ v : Int32, v = (if g2 = 0 then (0 : Int32) else (4 : Int32)) := ⟨_, rfl⟩
  have c35 : ∀ t, Steps p.tables e below (T26.setTop (mkF m 132 #[.val (.int pb), .val (.int pg), .val (.int pf), .val (.int g0), .val (.int g1), .val (.int g2), .val (.int g3), .val (.ref ar), .val (.int ff), .unset, .unset] [(.int b124), (.int (b103 ||| b113))])) t → Steps p.tables e below (s₁.setTop (entryFrame m #[(.int pb), (.int pg), (.int pf)] maxLocals)) t := fun t k => c34 t (by
    rw [hb124] at k
    show Steps p.tables e below (T26.setTop (mkF m 124 #[.val (.int pb), .val (.int pg), .val (.int pf), .val (.int g0), .val (.int g1), .val (.int g2), .val (.int g3), .val (.ref ar), .val (.int ff), .unset, .unset] [(.int g2), (.int (b103 ||| b113))])) _
    by_cases q124_0 : g2 = 0
    · try simp only [if_pos q124_0] at k
      refine XS.ifYes X26.here hx rfl (pc0 := 124) (pc' := 131) rfl (hb hby at_124) rfl (XT.i0_eq_t q124_0) (by decide) (by decide) ?_
      show Steps p.tables e below (T26.setTop (mkF m 131 #[.val (.int pb), .val (.int pg), .val (.int pf), .val (.int g0), .val (.int g1), .val (.int g2), .val (.int g3), .val (.ref ar), .val (.int ff), .unset, .unset] [(.int (b103 ||| b113))])) _
      refine XS.iconst X26.here hx rfl (hb hby at_131) ?_
      show Steps p.tables e below (T26.setTop (mkF m 132 #[.val (.int pb), .val (.int pg), .val (.int pf), .val (.int g0), .val (.int g1), .val (.int g2), .val (.int g3), .val (.ref ar), .val (.int ff), .unset, .unset] [(.int (0 : Int32)), (.int (b103 ||| b113))])) _
      exact k
    · try simp only [if_neg q124_0] at k
      refine XS.ifNo X26.here hx rfl (hb hby at_124) rfl (XT.i0_eq_f q124_0) ?_
      show Steps p.tables e below (T26.setTop (mkF m 127 #[.val (.int pb), .val (.int pg), .val (.int pf), .val (.int g0), .val (.int g1), .val (.int g2), .val (.int g3), .val (.ref ar), .val (.int ff), .unset, .unset] [(.int (b103 ||| b113))])) _
      refine XS.iconst X26.here hx rfl (hb hby at_127) ?_
      show Steps p.tables e below (T26.setTop (mkF m 128 #[.val (.int pb), .val (.int pg), .val (.int pf), .val (.int g0), .val (.int g1), .val (.int g2), .val (.int g3), .val (.ref ar), .val (.int ff), .unset, .unset] [(.int (4 : Int32)), (.int (b103 ||| b113))])) _
      refine XS.goto X26.here hx rfl (pc0 := 128) (pc' := 132) rfl (hb hby at_128) (by decide) (by decide) ?_
      show Steps p.tables e below (T26.setTop (mkF m 132 #[.val (.int pb), .val (.int pg), .val (.int pf), .val (.int g0), .val (.int g1), .val (.int g2), .val (.int g3), .val (.ref ar), .val (.int ff), .unset, .unset] [(.int (4 : Int32)), (.int (b103 ||| b113))])) _
      exact k)
  have c36 : ∀ t, Steps p.tables e below (T26.setTop (mkF m 135 #[.val (.int pb), .val (.int pg), .val (.int pf), .val (.int g0), .val (.int g1), .val (.int g2), .val (.int g3), .val (.ref ar), .val (.int ff), .unset, .unset] [(.int g3), (.int ((b103 ||| b113) ||| b124))])) t → Steps p.tables e below (s₁.setTop (entryFrame m #[(.int pb), (.int pg), (.int pf)] maxLocals)) t := fun t k => c35 t (by
    show Steps p.tables e below (T26.setTop (mkF m 132 #[.val (.int pb), .val (.int pg), .val (.int pf), .val (.int g0), .val (.int g1), .val (.int g2), .val (.int g3), .val (.ref ar), .val (.int ff), .unset, .unset] [(.int b124), (.int (b103 ||| b113))])) _
    refine XT.ior X26.here hx rfl (hb hby at_132) rfl ?_
    show Steps p.tables e below (T26.setTop (mkF m 133 #[.val (.int pb), .val (.int pg), .val (.int pf), .val (.int g0), .val (.int g1), .val (.int g2), .val (.int g3), .val (.ref ar), .val (.int ff), .unset, .unset] [(.int ((b103 ||| b113) ||| b124))])) _
    refine XS.iload X26.here hx rfl (hb hby at_133) rfl ?_
    show Steps p.tables e below (T26.setTop (mkF m 135 #[.val (.int pb), .val (.int pg), .val (.int pf), .val (.int g0), .val (.int g1), .val (.int g2), .val (.int g3), .val (.ref ar), .val (.int ff), .unset, .unset] [(.int g3), (.int ((b103 ||| b113) ||| b124))])) _
    exact k)
  obtain ⟨b135, hb135⟩ : ∃ v : Int32, v = (if g3 = 0 then (0 : Int32) else (8 : Int32)) := ⟨_, rfl⟩
  have c37 : ∀ t, Steps p.tables e below (T26.setTop (mkF m 144 #[.val (.int pb), .val (.int pg), .val (.int pf), .val (.int g0), .val (.int g1), .val (.int g2), .val (.int g3), .val (.ref ar), .val (.int ff), .unset, .unset] [(.int b135), (.int ((b103 ||| b113) ||| b124))])) t → Steps p.tables e below (s₁.setTop (entryFrame m #[(.int pb), (.int pg), (.int pf)] maxLocals)) t := fun t k => c36 t (by
    rw [hb135] at k
    show Steps p.tables e below (T26.setTop (mkF m 135 #[.val (.int pb), .val (.int pg), .val (.int pf), .val (.int g0), .val (.int g1), .val (.int g2), .val (.int g3), .val (.ref ar), .val (.int ff), .unset, .unset] [(.int g3), (.int ((b103 ||| b113) ||| b124))])) _
    by_cases q135_0 : g3 = 0
    · try simp only [if_pos q135_0] at k
      refine XS.ifYes X26.here hx rfl (pc0 := 135) (pc' := 143) rfl (hb hby at_135) rfl (XT.i0_eq_t q135_0) (by decide) (by decide) ?_
      show Steps p.tables e below (T26.setTop (mkF m 143 #[.val (.int pb), .val (.int pg), .val (.int pf), .val (.int g0), .val (.int g1), .val (.int g2), .val (.int g3), .val (.ref ar), .val (.int ff), .unset, .unset] [(.int ((b103 ||| b113) ||| b124))])) _
      refine XS.iconst X26.here hx rfl (hb hby at_143) ?_
      show Steps p.tables e below (T26.setTop (mkF m 144 #[.val (.int pb), .val (.int pg), .val (.int pf), .val (.int g0), .val (.int g1), .val (.int g2), .val (.int g3), .val (.ref ar), .val (.int ff), .unset, .unset] [(.int (0 : Int32)), (.int ((b103 ||| b113) ||| b124))])) _
      exact k
    · try simp only [if_neg q135_0] at k
      refine XS.ifNo X26.here hx rfl (hb hby at_135) rfl (XT.i0_eq_f q135_0) ?_
      show Steps p.tables e below (T26.setTop (mkF m 138 #[.val (.int pb), .val (.int pg), .val (.int pf), .val (.int g0), .val (.int g1), .val (.int g2), .val (.int g3), .val (.ref ar), .val (.int ff), .unset, .unset] [(.int ((b103 ||| b113) ||| b124))])) _
      refine XS.bipush X26.here hx rfl (hb hby at_138) ?_
      show Steps p.tables e below (T26.setTop (mkF m 140 #[.val (.int pb), .val (.int pg), .val (.int pf), .val (.int g0), .val (.int g1), .val (.int g2), .val (.int g3), .val (.ref ar), .val (.int ff), .unset, .unset] [(.int (8 : Int32)), (.int ((b103 ||| b113) ||| b124))])) _
      refine XS.goto X26.here hx rfl (pc0 := 140) (pc' := 144) rfl (hb hby at_140) (by decide) (by decide) ?_
      show Steps p.tables e below (T26.setTop (mkF m 144 #[.val (.int pb), .val (.int pg), .val (.int pf), .val (.int g0), .val (.int g1), .val (.int g2), .val (.int g3), .val (.ref ar), .val (.int ff), .unset, .unset] [(.int (8 : Int32)), (.int ((b103 ||| b113) ||| b124))])) _
      exact k)
  obtain ⟨bt, hbt⟩ : ∃ v : Int32, v = ((((b103 ||| b113) ||| b124) ||| b135) ||| (16 : Int32)) := ⟨_, rfl⟩
  have c38 : ∀ t, Steps p.tables e below (T26.setTop (mkF m 150 #[.val (.int pb), .val (.int pg), .val (.int pf), .val (.int g0), .val (.int g1), .val (.int g2), .val (.int g3), .val (.ref ar), .val (.int ff), .val (.int bt), .unset] [])) t → Steps p.tables e below (s₁.setTop (entryFrame m #[(.int pb), (.int pg), (.int pf)] maxLocals)) t := fun t k => c37 t (by
    rw [hbt] at k
    show Steps p.tables e below (T26.setTop (mkF m 144 #[.val (.int pb), .val (.int pg), .val (.int pf), .val (.int g0), .val (.int g1), .val (.int g2), .val (.int g3), .val (.ref ar), .val (.int ff), .unset, .unset] [(.int b135), (.int ((b103 ||| b113) ||| b124))])) _
    refine XT.ior X26.here hx rfl (hb hby at_144) rfl ?_
    show Steps p.tables e below (T26.setTop (mkF m 145 #[.val (.int pb), .val (.int pg), .val (.int pf), .val (.int g0), .val (.int g1), .val (.int g2), .val (.int g3), .val (.ref ar), .val (.int ff), .unset, .unset] [(.int (((b103 ||| b113) ||| b124) ||| b135))])) _
    refine XS.bipush X26.here hx rfl (hb hby at_145) ?_
    show Steps p.tables e below (T26.setTop (mkF m 147 #[.val (.int pb), .val (.int pg), .val (.int pf), .val (.int g0), .val (.int g1), .val (.int g2), .val (.int g3), .val (.ref ar), .val (.int ff), .unset, .unset] [(.int (16 : Int32)), (.int (((b103 ||| b113) ||| b124) ||| b135))])) _
    refine XT.ior X26.here hx rfl (hb hby at_147) rfl ?_
    show Steps p.tables e below (T26.setTop (mkF m 148 #[.val (.int pb), .val (.int pg), .val (.int pf), .val (.int g0), .val (.int g1), .val (.int g2), .val (.int g3), .val (.ref ar), .val (.int ff), .unset, .unset] [(.int ((((b103 ||| b113) ||| b124) ||| b135) ||| (16 : Int32)))])) _
    refine XS.istore X26.here hx rfl (hb hby at_148) rfl (l' := #[.val (.int pb), .val (.int pg), .val (.int pf), .val (.int g0), .val (.int g1), .val (.int g2), .val (.int g3), .val (.ref ar), .val (.int ff), .val (.int ((((b103 ||| b113) ||| b124) ||| b135) ||| (16 : Int32))), .unset]) rfl ?_
    show Steps p.tables e below (T26.setTop (mkF m 150 #[.val (.int pb), .val (.int pg), .val (.int pf), .val (.int g0), .val (.int g1), .val (.int g2), .val (.int g3), .val (.ref ar), .val (.int ff), .val (.int ((((b103 ||| b113) ||| b124) ||| b135) ||| (16 : Int32))), .unset] [])) _
    exact k)
  have c39 : ∀ t, Steps p.tables e below (T26.setTop (mkF m 156 #[.val (.int pb), .val (.int pg), .val (.int pf), .val (.int g0), .val (.int g1), .val (.int g2), .val (.int g3), .val (.ref ar), .val (.int ff), .val (.int bt), .unset] [(.int (XT.ushr bt ff)), (.int (1 : Int32))])) t → Steps p.tables e below (s₁.setTop (entryFrame m #[(.int pb), (.int pg), (.int pf)] maxLocals)) t := fun t k => c38 t (by
    show Steps p.tables e below (T26.setTop (mkF m 150 #[.val (.int pb), .val (.int pg), .val (.int pf), .val (.int g0), .val (.int g1), .val (.int g2), .val (.int g3), .val (.ref ar), .val (.int ff), .val (.int bt), .unset] [])) _
    refine XS.iconst X26.here hx rfl (hb hby at_150) ?_
    show Steps p.tables e below (T26.setTop (mkF m 151 #[.val (.int pb), .val (.int pg), .val (.int pf), .val (.int g0), .val (.int g1), .val (.int g2), .val (.int g3), .val (.ref ar), .val (.int ff), .val (.int bt), .unset] [(.int (1 : Int32))])) _
    refine XS.iload X26.here hx rfl (hb hby at_151) rfl ?_
    show Steps p.tables e below (T26.setTop (mkF m 153 #[.val (.int pb), .val (.int pg), .val (.int pf), .val (.int g0), .val (.int g1), .val (.int g2), .val (.int g3), .val (.ref ar), .val (.int ff), .val (.int bt), .unset] [(.int bt), (.int (1 : Int32))])) _
    refine XS.iload X26.here hx rfl (hb hby at_153) rfl ?_
    show Steps p.tables e below (T26.setTop (mkF m 155 #[.val (.int pb), .val (.int pg), .val (.int pf), .val (.int g0), .val (.int g1), .val (.int g2), .val (.int g3), .val (.ref ar), .val (.int ff), .val (.int bt), .unset] [(.int ff), (.int bt), (.int (1 : Int32))])) _
    refine XT.iushr X26.here hx rfl (hb hby at_155) rfl ?_
    show Steps p.tables e below (T26.setTop (mkF m 156 #[.val (.int pb), .val (.int pg), .val (.int pf), .val (.int g0), .val (.int g1), .val (.int g2), .val (.int g3), .val (.ref ar), .val (.int ff), .val (.int bt), .unset] [(.int (XT.ushr bt ff)), (.int (1 : Int32))])) _
    exact k)
  obtain ⟨_, _, ⟨T40, L40, k40', n40⟩, -, X40, ⟨Lc40, hQ40, l40, y40, z40⟩, st40⟩ := Jvm.LawKit.callS X26 hx (y := (⟨"com/example/knotline/knotline/KnotVectorRunLengthPinLaw", "tz", "(I)I"⟩ : MethodName)) hown (mvT hZ (hw _ (List.mem_of_getElem? (i := 2) rfl))) (mvT hZ (hw _ (List.mem_of_getElem? (i := 3) rfl))) (mvT hZ (hw _ (List.mem_of_getElem? (i := 4) rfl))) (mvT hZ (hw _ (List.mem_of_getElem? (i := 5) rfl))) (by decide) (backOf (W := 1) (rm_1 l Z a0 hw [] (XT.ushr bt ff) h26 n0 (Nat.le_trans (Nat.le_trans (Nat.le_trans (Nat.le_trans (Nat.le_trans (Nat.le_trans Z0 E6.1) (Keep.of_wr W10).1) (Keep.of_wr W14).1) (Keep.of_wr W18).1) (Keep.of_wr W22).1) (Keep.of_wr W26).1)) hZ (hw _ (List.mem_of_getElem? (i := 5) rfl)) (hw _ (List.mem_of_getElem? (i := 4) rfl)) (by decide) (by decide)) (g := (mkF m 156 #[.val (.int pb), .val (.int pg), .val (.int pf), .val (.int g0), .val (.int g1), .val (.int g2), .val (.int g3), .val (.ref ar), .val (.int ff), .val (.int bt), .unset] [(.int (XT.ushr bt ff)), (.int (1 : Int32))])) rfl (by rw [hml]; rfl) (argsL := [(.int (XT.ushr bt ff))]) (rest := [(.int (1 : Int32))]) (lenOf pd__I_I rfl) rfl (by show 2 * 0 + _ ≤ _; exact Nat.le_of_eq rfl) (hb hby at_156) (fun _ _ => ⟨rfl, e26, (by decide : 1 + 0 ≤ _), (by decide : 5 + 0 ≤ _)⟩)
  dsimp only [Pt.U, Pt.locs, Pt.cells, Pt.slots] at X40 l40 y40 z40 st40 hQ40
  subst l40 y40 z40
  obtain ⟨rfl, N40, e40⟩ := hQ40
  have M40 := Fr.app N26 N40
  have c41 : ∀ t, Steps p.tables e below (T40.setTop (mkF m 159 #[.val (.int pb), .val (.int pg), .val (.int pf), .val (.int g0), .val (.int g1), .val (.int g2), .val (.int g3), .val (.ref ar), .val (.int ff), .val (.int bt), .unset] [(.int (tzv (XT.ushr bt ff))), (.int (1 : Int32))])) t → Steps p.tables e below (s₁.setTop (entryFrame m #[(.int pb), (.int pg), (.int pf)] maxLocals)) t := fun t k => c39 t (st40 _ k)
  obtain ⟨ex, hex⟩ : ∃ v : Int32, v = ((1 : Int32) + (tzv (XT.ushr bt ff))) := ⟨_, rfl⟩
  have c42 : ∀ t, Steps p.tables e below (T40.setTop (mkF m 162 #[.val (.int pb), .val (.int pg), .val (.int pf), .val (.int g0), .val (.int g1), .val (.int g2), .val (.int g3), .val (.ref ar), .val (.int ff), .val (.int bt), .val (.int ex)] [])) t → Steps p.tables e below (s₁.setTop (entryFrame m #[(.int pb), (.int pg), (.int pf)] maxLocals)) t := fun t k => c41 t (by
    rw [hex] at k
    show Steps p.tables e below (T40.setTop (mkF m 159 #[.val (.int pb), .val (.int pg), .val (.int pf), .val (.int g0), .val (.int g1), .val (.int g2), .val (.int g3), .val (.ref ar), .val (.int ff), .val (.int bt), .unset] [(.int (tzv (XT.ushr bt ff))), (.int (1 : Int32))])) _
    refine XS.iadd X40.here hx rfl (hb hby at_159) rfl ?_
    show Steps p.tables e below (T40.setTop (mkF m 160 #[.val (.int pb), .val (.int pg), .val (.int pf), .val (.int g0), .val (.int g1), .val (.int g2), .val (.int g3), .val (.ref ar), .val (.int ff), .val (.int bt), .unset] [(.int ((1 : Int32) + (tzv (XT.ushr bt ff))))])) _
    refine XS.istore X40.here hx rfl (hb hby at_160) rfl (l' := #[.val (.int pb), .val (.int pg), .val (.int pf), .val (.int g0), .val (.int g1), .val (.int g2), .val (.int g3), .val (.ref ar), .val (.int ff), .val (.int bt), .val (.int ((1 : Int32) + (tzv (XT.ushr bt ff))))]) rfl ?_
    show Steps p.tables e below (T40.setTop (mkF m 162 #[.val (.int pb), .val (.int pg), .val (.int pf), .val (.int g0), .val (.int g1), .val (.int g2), .val (.int g3), .val (.ref ar), .val (.int ff), .val (.int bt), .val (.int ((1 : Int32) + (tzv (XT.ushr bt ff))))] [])) _
    exact k)
  obtain ⟨xs, hxs⟩ : ∃ f : Nat → UInt64, f = fun i => if i = 0 then x0 else if i = 1 then x1 else if i = 2 then x2 else if i = 3 then x3 else x4 := ⟨_, rfl⟩
  have AX : OwnArr.Ag Z h26 ar .double 5 (fun i => .double (xs i)) := F27.congr (fun j hj => by
    rw [hxs]
    match j, hj with
    | 0, _ => rfl
    | 1, _ => rfl
    | 2, _ => rfl
    | 3, _ => rfl
    | 4, _ => rfl)
  have zs : ∀ {n : Int} {a : UInt64}, DS n 0 a → zv a = n * U := fun h => by have := h.2; rwa [Int.pow_zero, Int.mul_one] at this
  have fin_ : ∀ i, i < 5 → Core.DFin (xs i) := fun i hi => by
    rw [hxs]
    match i, hi with
    | 0, _ => exact D0.1
    | 1, _ => exact D1.1
    | 2, _ => exact D2.1
    | 3, _ => exact D3.1
    | 4, _ => exact D4.1
  obtain ⟨re1, re2⟩ := run_eq (s := fun i => zv (xs i)) (g0 := g0.toInt * U) (g1 := g1.toInt * U) (g2 := g2.toInt * U) (g3 := g3.toInt * U) (Int.mul_nonneg G0.1 (Int.le_of_lt U_pos)) (Int.mul_nonneg G1.1 (Int.le_of_lt U_pos)) (Int.mul_nonneg G2.1 (Int.le_of_lt U_pos)) (Int.mul_nonneg G3.1 (Int.le_of_lt U_pos)) (by show zv (xs 1) = zv (xs 0) + _; rw [hxs]; show zv x1 = zv x0 + _; rw [zs D1, zs D0, Int.add_mul]) (by show zv (xs 2) = zv (xs 1) + _; rw [hxs]; show zv x2 = zv x1 + _; rw [zs D2, zs D1, Int.add_mul _ g1.toInt]) (by show zv (xs 3) = zv (xs 2) + _; rw [hxs]; show zv x3 = zv x2 + _; rw [zs D3, zs D2, Int.add_mul _ g2.toInt]) (by show zv (xs 4) = zv (xs 3) + _; rw [hxs]; show zv x4 = zv x3 + _; rw [zs D4, zs D3, Int.add_mul _ g3.toInt]) F.val F.isLt
  have zg : ∀ g : Int32, decide (g.toInt * U = 0) = decide (g.toInt = 0) := fun g => by
    rw [decide_eq_decide, Int.mul_eq_zero]
    exact ⟨fun q => q.elim id (fun q => absurd q (by have := U_pos; omega)), Or.inl⟩
  rw [zg, zg, zg, zg] at re1 re2
  have rle := run_le (decide (g0.toInt = 0)) (decide (g1.toInt = 0)) (decide (g2.toInt = 0)) (decide (g3.toInt = 0)) F
  have tzr := tz_run (decide (g0.toInt = 0)) (decide (g1.toInt = 0)) (decide (g2.toInt = 0)) (decide (g3.toInt = 0)) F
  rw [← hF1] at tzr
  have eb : tzv (XT.ushr bt ff) = Int32.ofNat (run (decide (g0.toInt = 0)) (decide (g1.toInt = 0)) (decide (g2.toInt = 0)) (decide (g3.toInt = 0)) F.val) := by
    rw [← tzr, hbt, hb103, hb113, hb124, hb135]
    simp only [zero_k (g := g0), zero_k (g := g1), zero_k (g := g2), zero_k (g := g3)]
  rw [eb] at hex
  generalize run (decide (g0.toInt = 0)) (decide (g1.toInt = 0)) (decide (g2.toInt = 0)) (decide (g3.toInt = 0)) F.val = r at re1 re2 rle hex
  have hp : ex.toInt = (r : Int) + 1 := by
    have q : (1 : Int32).toInt = 1 := by decide
    have q2 : (Int32.ofNat r).toInt = (r : Int) := Int32.toInt_ofNat_small (by omega)
    rw [hex, Kit.i32_add (by omega) (by omega)]; omega
  have c43 : ∀ t, Steps p.tables e below (T40.setTop (mkF m 166 #[.val (.int pb), .val (.int pg), .val (.int pf), .val (.int g0), .val (.int g1), .val (.int g2), .val (.int g3), .val (.ref ar), .val (.int ff), .val (.int bt), .val (.int ex)] [(.int ff), (.ref ar)])) t → Steps p.tables e below (s₁.setTop (entryFrame m #[(.int pb), (.int pg), (.int pf)] maxLocals)) t := fun t k => c42 t (by
    show Steps p.tables e below (T40.setTop (mkF m 162 #[.val (.int pb), .val (.int pg), .val (.int pf), .val (.int g0), .val (.int g1), .val (.int g2), .val (.int g3), .val (.ref ar), .val (.int ff), .val (.int bt), .val (.int ex)] [])) _
    refine XS.aload X40.here hx rfl (hb hby at_162) rfl rfl ?_
    show Steps p.tables e below (T40.setTop (mkF m 164 #[.val (.int pb), .val (.int pg), .val (.int pf), .val (.int g0), .val (.int g1), .val (.int g2), .val (.int g3), .val (.ref ar), .val (.int ff), .val (.int bt), .val (.int ex)] [(.ref ar)])) _
    refine XS.iload X40.here hx rfl (hb hby at_164) rfl ?_
    show Steps p.tables e below (T40.setTop (mkF m 166 #[.val (.int pb), .val (.int pg), .val (.int pf), .val (.int g0), .val (.int g1), .val (.int g2), .val (.int g3), .val (.ref ar), .val (.int ff), .val (.int bt), .val (.int ex)] [(.int ff), (.ref ar)])) _
    exact k)
  obtain ⟨_, _, ⟨T44, L44, k44', n44⟩, -, X44, ⟨Lc44, hQ44, l44, y44, z44⟩, st44⟩ := Jvm.LawKit.callS X40 hx (y := (⟨"com/example/knotline/knotline/KnotVector", "runLength", "([DI)I"⟩ : MethodName)) hown (mvT hZ (hw _ (List.mem_of_getElem? (i := 6) rfl))) (mvT hZ (hw _ (List.mem_of_getElem? (i := 7) rfl))) (mvT hZ (hw _ (List.mem_of_getElem? (i := 8) rfl))) (mvT hZ (hw _ (List.mem_of_getElem? (i := 9) rfl))) (by decide) (backOf (W := 0) (rm_2 l Z a0 hw [] ar ff ex xs F.val r h26 n0 (Nat.le_trans (Nat.le_trans (Nat.le_trans (Nat.le_trans (Nat.le_trans (Nat.le_trans Z0 E6.1) (Keep.of_wr W10).1) (Keep.of_wr W14).1) (Keep.of_wr W18).1) (Keep.of_wr W22).1) (Keep.of_wr W26).1) AX hF2 hp rle fin_ re1 re2) hZ (hw _ (List.mem_of_getElem? (i := 9) rfl)) (hw _ (List.mem_of_getElem? (i := 8) rfl)) (by decide) (by decide)) (g := (mkF m 166 #[.val (.int pb), .val (.int pg), .val (.int pf), .val (.int g0), .val (.int g1), .val (.int g2), .val (.int g3), .val (.ref ar), .val (.int ff), .val (.int bt), .val (.int ex)] [(.int ff), (.ref ar)])) rfl (by rw [hml]; rfl) (argsL := [(.ref ar), (.int ff)]) (rest := []) (lenOf pd___DI_I rfl) rfl (by show 2 * 0 + _ ≤ _; exact Nat.le_of_eq rfl) (hb hby at_166) (fun _ _ => ⟨rfl, e40, (by decide : 1 + 0 ≤ _), (by decide : 5 + 0 ≤ _)⟩)
  dsimp only [Pt.U, Pt.locs, Pt.cells, Pt.slots] at X44 l44 y44 z44 st44 hQ44
  subst l44 y44 z44
  obtain ⟨rfl, N44, e44⟩ := hQ44
  have M44 := Fr.app M40 N44
  have c45 : ∀ t, Steps p.tables e below (T44.setTop (mkF m 169 #[.val (.int pb), .val (.int pg), .val (.int pf), .val (.int g0), .val (.int g1), .val (.int g2), .val (.int g3), .val (.ref ar), .val (.int ff), .val (.int bt), .val (.int ex)] [(.int ex)])) t → Steps p.tables e below (s₁.setTop (entryFrame m #[(.int pb), (.int pg), (.int pf)] maxLocals)) t := fun t k => c43 t (st44 _ k)
  have c46 : ∀ t, Steps p.tables e below (T44.setTop (mkF m 179 #[.val (.int pb), .val (.int pg), .val (.int pf), .val (.int g0), .val (.int g1), .val (.int g2), .val (.int g3), .val (.ref ar), .val (.int ff), .val (.int bt), .val (.int ex)] [(.int (1 : Int32))])) t → Steps p.tables e below (s₁.setTop (entryFrame m #[(.int pb), (.int pg), (.int pf)] maxLocals)) t := fun t k => c45 t (by
    show Steps p.tables e below (T44.setTop (mkF m 169 #[.val (.int pb), .val (.int pg), .val (.int pf), .val (.int g0), .val (.int g1), .val (.int g2), .val (.int g3), .val (.ref ar), .val (.int ff), .val (.int bt), .val (.int ex)] [(.int ex)])) _
    refine XS.iload X44.here hx rfl (hb hby at_169) rfl ?_
    show Steps p.tables e below (T44.setTop (mkF m 171 #[.val (.int pb), .val (.int pg), .val (.int pf), .val (.int g0), .val (.int g1), .val (.int g2), .val (.int g3), .val (.ref ar), .val (.int ff), .val (.int bt), .val (.int ex)] [(.int ex), (.int ex)])) _
    refine XS.icmpNo X44.here hx rfl (hb hby at_171) rfl (XT.ii_ne_f rfl) ?_
    show Steps p.tables e below (T44.setTop (mkF m 174 #[.val (.int pb), .val (.int pg), .val (.int pf), .val (.int g0), .val (.int g1), .val (.int g2), .val (.int g3), .val (.ref ar), .val (.int ff), .val (.int bt), .val (.int ex)] [])) _
    refine XS.iconst X44.here hx rfl (hb hby at_174) ?_
    show Steps p.tables e below (T44.setTop (mkF m 175 #[.val (.int pb), .val (.int pg), .val (.int pf), .val (.int g0), .val (.int g1), .val (.int g2), .val (.int g3), .val (.ref ar), .val (.int ff), .val (.int bt), .val (.int ex)] [(.int (1 : Int32))])) _
    refine XS.goto X44.here hx rfl (pc0 := 175) (pc' := 179) rfl (hb hby at_175) (by decide) (by decide) ?_
    show Steps p.tables e below (T44.setTop (mkF m 179 #[.val (.int pb), .val (.int pg), .val (.int pf), .val (.int g0), .val (.int g1), .val (.int g2), .val (.int g3), .val (.ref ar), .val (.int ff), .val (.int bt), .val (.int ex)] [(.int (1 : Int32))])) _
    exact k)
  obtain ⟨fs, hr, hrun, hended, hW, hsame⟩ := X44.leave (v := (some (.int (1 : Int32)))) (fun h => by rw [Bd.returns] at h; cases h)
  refine ⟨_, _, pre0 _ (c46 _ (retN X44 hx (t := .boolean) Bd.returns (by simp) (hb hby at_179) hr)), hrun, hended, _, _, rfl, ?_, ⟨_, rfl⟩, hW, hsame.mono (by decide) (by decide)⟩
  show Q_0 Z pb pg pf h0 n0 _ T44.heap _
  rw [e44]
  exact ⟨rfl, M44⟩
set_option maxRecDepth 65536 in
set_option maxHeartbeats 40000000 in
theorem comes_1 {Post : Tables → Env → Array Value → State → Outcome → State → Prop} (hpost : ∀ tb e args s v u, (limb_1_1.after args s (.returned v) u = true ∧ limb_1_2.after args s (.returned v) u = true ∧ True) → FrameEnd s (.returned v) u (Jvm.fieldLocs frame_1_writes args s ++ Jvm.arrayLocs frame_1_arrays args s ++ Jvm.staticLocs frame_1_statics s) 16 128 → Post tb e args s (.returned v) u) :
    ArmFor flags0 classFile x code maxLocals ret World_1 tables_1 room_1 Calls_1 rest_1 Pre_1 Post := by
  intro l hfl _ _ p e ha hc hk s m args below hf hA hF happ hP
  obtain ⟨hcalls, hrest, hpre⟩ := hP
  obtain ⟨-, -, -, hnamed, -, -, -, hat⟩ := (Spec.applies_iff hf).mp happ
  obtain ⟨hg, hn⟩ := and_e (Cond.before_iff.mp (show (Jvm.Cond.and given_1 narrow_1).before args s = true from hpre))
  obtain ⟨g0, r0⟩ := and_e hg
  obtain ⟨g1, r1⟩ := and_e r0
  obtain ⟨g2, r2⟩ := and_e r1
  obtain ⟨w0, w1, w2, rfl⟩ : ∃ w0 w1 w2 : Value, args = #[w0, w1, w2] := by
    have hs : args.size = 3 := by simpa [Cond.value, given_1] using g0
    obtain ⟨L⟩ := args
    match L, hs with
    | [w0, w1, w2], _ => exact ⟨w0, w1, w2, rfl⟩
  have hw := fun d (hd : d ∈ tables_1) => atoms_spec (ws := Jvm.Cond.code x code maxLocals ret :: tables_1) hat d (List.mem_cons_of_mem _ hd)
  obtain ⟨i0, e0⟩ := is_v g1
  obtain rfl : w0 = (.int i0) := Option.some.inj e0
  obtain ⟨i1, e1⟩ := is_v g2
  obtain rfl : w1 = (.int i1) := Option.some.inj e1
  obtain ⟨i2, e2⟩ := is_v r2
  obtain rfl : w2 = (.int i2) := Option.some.inj e2
  obtain ⟨n, o, h1, h2, h3, _, L, rfl, ⟨rfl, N⟩, hq⟩ := rm_0 l s _ hw tables_1 i0 i1 i2 s.heap s.heap.size (Nat.le_refl _)  p e ha hc hk s m _ below hf ((Spec.applies_iff_loose hf).mp happ).1 ⟨rfl, State.Warmed39.refl s, rfl⟩ trivial
  refine ⟨n, _, h1, h2, h3, hpost _ _ _ _ _ _ ⟨Cond.after_iff.mpr rfl, Cond.after_iff.mpr (eq_i res_at (Term.int_eval (1)) rfl), trivial⟩ ⟨hq.1, hq.2.1, (hq.2.2.sift fun y hy => Or.inr (N y hy)).mono (by decide) (by decide)⟩⟩
theorem main_1_1 : Claimed_1_1 := comes_1 fun _ _ _ _ _ _ h hF => ⟨h.1, hF⟩
theorem main_1_2 : Claimed_1_2 := comes_1 fun _ _ _ _ _ _ h hF => ⟨h.2.1, hF⟩
end Jvm.Pilot.@@N@@
namespace Jvm.Pilot.@@N@@
open Jvm Jvm.ClassFile Sem Op Lib Jvm.Free Jvm.Stand Jvm.Pilot.@@N@@.Jvm.D
/-! MADE BY PROGRAM (witnessworld.py) out of the Statement's table words and the real class files: 11 classes; the members and pool entries that the words name. The judged class is class 1, her method 2. -/
namespace start1
open Jvm.ClassFile
def u (s : String) : CpInfo := .utf8 (stringToUtf16 s)
/-- a pool by its gaps: so many unusable entries, then the entry; so many at the end -/
def gap : Nat → List CpInfo → List CpInfo
  | 0, r => r
  | n + 1, r => .unusable :: gap n r
def poolList (es : List (Nat × CpInfo)) (last : Nat) : List CpInfo := es.foldr (fun e r => gap e.1 (e.2 :: r)) (gap last [])
def pool (es : List (Nat × CpInfo)) (last : Nat) : Array CpInfo := ⟨poolList es last⟩
def fileOf (pool : Array CpInfo) (this : Nat) (attrs : Array Attribute := #[]) (ms : Array MethodInfo := #[]) (fl : Nat := 33) (sup : Nat := 0) (ifs : Array Nat := #[]) (fds : Array FieldInfo := #[]) : ClassFile where
  minorVersion := 0
  majorVersion := 65
  constantPool := pool
  accessFlags := fl
  thisClass := this
  superClass := sup
  interfaces := ifs
  fields := fds
  methods := ms
  attributes := attrs
def plain (name : String) (sup : Option ClassId) : Class where
  name := name
  kind := .ordinary
  loader := none
  accessFlags := 33
  super := sup
  interfaces := #[]
  cf := none
  fields := #[]
  methods := #[]
  instanceTypes := #[]
  staticTypes := #[]
  resolved := #[]
  callSites := []
  init := .initialized
  statics := none
  mirror := none

def pool0 : Array CpInfo := pool [(5, u "<init>"), (0, u "()V"), (1, .class_ 10), (1, u "java/lang/Object")] 113

def k0m0 : Method := { name := "<init>", desc := "()V", sig := { parameters := [], returnType := none }, accessFlags := 1, code := none }
/-- java/lang/Object -/
def k0 : Class := { plain "java/lang/Object" none with
  accessFlags := 33
  interfaces := #[]
  cf := some (fileOf pool0 8 #[] #[{ accessFlags := 1, nameIndex := 5, descriptorIndex := 6, attributes := #[] }] 33 0 #[] #[])
  fields := #[]
  methods := #[k0m0]
  instanceTypes := #[]
  staticTypes := #[]
  resolved := Array.replicate 124 none
  statics := none }

def pool1 : Array CpInfo := pool [(2, .class_ 4), (1, u "java/lang/Object"), (0, u "<init>"), (0, u "()V"), (0, .integer 2147483647), (0, .methodref 9 10), (0, .class_ 11), (0, .nameAndType 12 13), (0, u "com/example/knotline/knotline/KnotVectorRunLengthPinLaw"), (0, u "tz"), (0, u "(I)I"), (0, .methodref 15 16), (0, .class_ 17), (0, .nameAndType 18 19), (0, u "com/example/knotline/knotline/KnotVector"), (0, u "runLength"), (0, u "([DI)I"), (3, u "law"), (0, u "(III)Z")] 4

def k1m0 : Method := { name := "<init>", desc := "()V", sig := { parameters := [], returnType := none }, accessFlags := 2, code := none }
def k1c1 : Code := { maxStack := 2, maxLocals := 1, code := method_2_code, exceptionTable := #[], attributes := #[] }
def k1m1 : Method := { name := "tz", desc := "(I)I", sig := { parameters := [.int], returnType := some .int }, accessFlags := 10, code := some k1c1 }
def k1c2 : Code := { maxStack := 6, maxLocals := 11, code := code, exceptionTable := #[], attributes := #[] }
def k1m2 : Method := { name := "law", desc := "(III)Z", sig := { parameters := [.int, .int, .int], returnType := some .boolean }, accessFlags := 9, code := some k1c2 }
/-- com/example/knotline/knotline/KnotVectorRunLengthPinLaw -/
def k1 : Class := { plain "com/example/knotline/knotline/KnotVectorRunLengthPinLaw" (some 0) with
  accessFlags := 49
  interfaces := #[]
  cf := some (fileOf pool1 9 #[] #[{ accessFlags := 2, nameIndex := 5, descriptorIndex := 6, attributes := #[] }, { accessFlags := 10, nameIndex := 12, descriptorIndex := 13, attributes := #[] }, { accessFlags := 9, nameIndex := 23, descriptorIndex := 24, attributes := #[] }] 49 2 #[] #[])
  fields := #[]
  methods := #[k1m0, k1m1, k1m2]
  instanceTypes := #[]
  staticTypes := #[]
  resolved := Array.replicate 29 none
  statics := none }

def pool2 : Array CpInfo := pool [(2, .class_ 4), (1, u "java/lang/Object"), (3, .class_ 10), (1, u "com/example/knotline/knotline/KnotVector"), (0, u "degree"), (0, u "I"), (2, u "knots"), (0, u "[D"), (59, u "runLength"), (0, u "([DI)I")] 195

def k2c0 : Code := { maxStack := 4, maxLocals := 3, code := prog_16_method_4_code, exceptionTable := #[], attributes := #[] }
def k2m0 : Method := { name := "runLength", desc := "([DI)I", sig := { parameters := [(.array .double), .int], returnType := some .int }, accessFlags := 8, code := some k2c0 }
/-- com/example/knotline/knotline/KnotVector -/
def k2 : Class := { plain "com/example/knotline/knotline/KnotVector" (some 0) with
  accessFlags := 49
  interfaces := #[]
  cf := some (fileOf pool2 8 #[] #[{ accessFlags := 8, nameIndex := 76, descriptorIndex := 77, attributes := #[] }] 49 2 #[] #[{ accessFlags := 18, nameIndex := 11, descriptorIndex := 12, attributes := #[] }, { accessFlags := 18, nameIndex := 15, descriptorIndex := 16, attributes := #[] }])
  fields := #[{ name := "degree", type := .int, accessFlags := 18, slot := 0, constantValue := 0 }, { name := "knots", type := (.array .double), accessFlags := 18, slot := 1, constantValue := 0 }]
  methods := #[k2m0]
  instanceTypes := #[.int, (.array .double)]
  staticTypes := #[]
  resolved := Array.replicate 273 none
  statics := none }

def pool3 : Array CpInfo := pool [(1, u "java/lang/Cloneable"), (0, .class_ 1), (0, u "java/lang/Object"), (0, .class_ 3)] 3

/-- java/lang/Cloneable -/
def k3 : Class := { plain "java/lang/Cloneable" (some 0) with
  accessFlags := 1537
  interfaces := #[]
  cf := some (fileOf pool3 2 #[] #[] 1537 4 #[] #[])
  fields := #[]
  methods := #[]
  instanceTypes := #[]
  staticTypes := #[]
  resolved := Array.replicate 8 none
  statics := none }

def pool4 : Array CpInfo := pool [(1, u "java/io/Serializable"), (0, .class_ 1), (0, u "java/lang/Object"), (0, .class_ 3)] 3

/-- java/io/Serializable -/
def k4 : Class := { plain "java/io/Serializable" (some 0) with
  accessFlags := 1537
  interfaces := #[]
  cf := some (fileOf pool4 2 #[] #[] 1537 4 #[] #[])
  fields := #[]
  methods := #[]
  instanceTypes := #[]
  staticTypes := #[]
  resolved := Array.replicate 8 none
  statics := none }

/-- the primitive byte -/
def k5 : Class := { plain "byte" none with kind := .primitive 'B', accessFlags := 0x411 }
/-- [B -/
def k6 : Class := { plain "[B" (some 0) with kind := .array 5 .byte, interfaces := #[3, 4], accessFlags := 1041 }

/-- the primitive double -/
def k7 : Class := { plain "double" none with kind := .primitive 'D', accessFlags := 0x411 }
/-- [D -/
def k8 : Class := { plain "[D" (some 0) with kind := .array 7 .double, interfaces := #[3, 4], accessFlags := 1041 }

/-- the primitive int -/
def k9 : Class := { plain "int" none with kind := .primitive 'I', accessFlags := 0x411 }
/-- [I -/
def k10 : Class := { plain "[I" (some 0) with kind := .array 9 .int, interfaces := #[3, 4], accessFlags := 1041 }

def heap : Heap := #[]
def classes : Array Class := #[k0, k1, k2, k3, k4, k5, k6, k7, k8, k9, k10]
def interned : List (Array UInt16 × Addr) := []
def slotsUsed : Nat := 0
def theMethod : MethodId := ⟨1, 2⟩
def args0 : Array Value := #[.int 3, .int 20000, .int 3]
def aboutOver (below : List Frame) : State where
  vm := { classes := classes, interned := interned.toArray }
  heap := heap
  slotsUsed := slotsUsed
  threads := #[{ frames := .invoking theMethod args0 :: below }]
def below0 : List Frame := [.native { method := ⟨0, 0⟩, args := #[] }]
def about1 : State := aboutOver below0
def p0 : Program := .bare "" "" ""
def e0 : Env := launch0.env 0 0 0
theorem w_frames : about1.frames = Frame.invoking theMethod args0 :: below0 := rfl
set_option maxRecDepth 65536 in
theorem w_args : argsFit about1.vm theMethod args0 = true := by decide +kernel
set_option maxRecDepth 65536 in
theorem w_heap : heapFits about1 = true := by decide +kernel
set_option maxRecDepth 65536 in
theorem w_runnable : about1.curStatus? = some .runnable := by decide +kernel
set_option maxRecDepth 65536 in
theorem w_alone : about1.alone = true := by decide +kernel
set_option maxRecDepth 65536 in
theorem w_named : about1.methodNamed? x = some theMethod := by decide +kernel
set_option maxRecDepth 65536 in
theorem w_hears : about1.hears theMethod below0 = true := by decide +kernel
set_option maxRecDepth 65536 in
theorem w_ripe : about1.ripe theMethod args0 below0 = true := by decide +kernel
theorem w_running : about1.status = .running := rfl
set_option maxRecDepth 65536 in
theorem w_room : about1.hasRoom e0.platform room_1 = true :=
  launch0.hasRoom_least _ room_1 (by decide +kernel) (by decide +kernel) (by decide +kernel) (by decide +kernel) (by decide +kernel) (by decide +kernel)
theorem allAtoms_all (ts : List Jvm.Cond) (a : Array Jvm.Value) (st : Jvm.State) : (allAtoms ts).before a st = ts.all (fun c => c.before a st) := by
  induction ts with
  | nil => rfl
  | cons c t ih =>
    show (Jvm.Cond.and c (allAtoms t)).before a st = _
    rw [Jvm.Cond.before_and, ih, List.all_cons]
def words1 : List Jvm.Cond := Jvm.Cond.code x code maxLocals ret :: tables_1
/-- a 'code' word, met by the world's own term for the bytes: nothing is compared byte by byte -/
theorem code_word {y : MethodName} {bytes : ByteArray} {mx : Nat} {rt : Option FieldType} {a : Array Value} {s : State} {m : MethodId} {meth : Method} {c : Code} (h1 : s.methodNamed? y = some m) (h2 : s.vm.method? m = some meth) (h3 : meth.code = some c) (h4 : c.code = bytes)
    (h5 : (c.maxLocals == mx && c.exceptionTable.isEmpty && decide (c.maxStack ≤ mostOperands) && decide (meth.sig.returnType = rt) && !meth.locks && decide (parseMethodDescriptor y.desc = some meth.sig)) = true) : (Jvm.Cond.code y bytes mx rt).before a s = true := by
  simp only [Bool.and_eq_true, beq_iff_eq, Bool.not_eq_true', decide_eq_true_eq] at h5
  obtain ⟨⟨⟨⟨⟨g1, g2⟩, g3⟩, g4⟩, g5⟩, g6⟩ := h5
  simp [Cond.before, Cond.holds, Cond.value, h1, h2, h3, h4, g1, g2, g3, g4, g5, g6]
def isCode : Jvm.Cond → Bool
  | .code _ _ _ _ => true
  | _ => false
theorem all_split {L : List Jvm.Cond} {P : Jvm.Cond → Bool} (h1 : L.all (fun c => isCode c || P c) = true) (h2 : ∀ c ∈ L.filter isCode, P c = true) : L.all P = true := by
  refine List.all_eq_true.mpr fun c hc => ?_
  have h := List.all_eq_true.mp h1 c hc
  rcases Bool.eq_false_or_eq_true (isCode c) with hi | hi
  · exact h2 c (List.mem_filter.mpr ⟨hc, hi⟩)
  · simpa [hi] using h
set_option maxRecDepth 65536 in
theorem w_c0 : (Jvm.Cond.code x code maxLocals ret).before args0 about1 = true := code_word (m := ⟨1, 2⟩) (meth := k1m2) (c := k1c2) (by decide +kernel) rfl rfl rfl (by decide +kernel)
set_option maxRecDepth 65536 in
theorem w_c1 : (Jvm.Cond.code ({ cls := "com/example/knotline/knotline/KnotVectorRunLengthPinLaw", name := "tz", desc := "(I)I" } : Jvm.MethodName) method_2_code (1 : Nat) (Option.some Jvm.ClassFile.FieldType.int)).before args0 about1 = true := code_word (m := ⟨1, 1⟩) (meth := k1m1) (c := k1c1) (by decide +kernel) rfl rfl rfl (by decide +kernel)
set_option maxRecDepth 65536 in
theorem w_c2 : (Jvm.Cond.code ({ cls := "com/example/knotline/knotline/KnotVector", name := "runLength", desc := "([DI)I" } : Jvm.MethodName) prog_16_method_4_code (3 : Nat) (Option.some Jvm.ClassFile.FieldType.int)).before args0 about1 = true := code_word (m := ⟨2, 0⟩) (meth := k2m0) (c := k2c0) (by decide +kernel) rfl rfl rfl (by decide +kernel)
def codes1 : List Jvm.Cond := [Jvm.Cond.code x code maxLocals ret, Jvm.Cond.code ({ cls := "com/example/knotline/knotline/KnotVectorRunLengthPinLaw", name := "tz", desc := "(I)I" } : Jvm.MethodName) method_2_code (1 : Nat) (Option.some Jvm.ClassFile.FieldType.int), Jvm.Cond.code ({ cls := "com/example/knotline/knotline/KnotVector", name := "runLength", desc := "([DI)I" } : Jvm.MethodName) prog_16_method_4_code (3 : Nat) (Option.some Jvm.ClassFile.FieldType.int)]
set_option maxRecDepth 65536 in
theorem codes_eq : words1.filter isCode = codes1 := rfl
theorem w_codes : ∀ c ∈ words1.filter isCode, c.before args0 about1 = true := by
  rw [codes_eq]
  intro c hc
  simp only [codes1, List.mem_cons, List.not_mem_nil, or_false] at hc
  rcases hc with rfl | rfl | rfl
  · exact w_c0
  · exact w_c1
  · exact w_c2
set_option maxRecDepth 65536 in
theorem w_t1 : words1.all (fun c => isCode c || c.before args0 about1) = true := by decide +kernel
theorem w_tables : (allAtoms (Jvm.Cond.code x code maxLocals ret :: tables_1)).before args0 about1 = true := by
  rw [allAtoms_all]
  show words1.all (fun c => c.before args0 about1) = true
  refine all_split ?_ w_codes
  rw [w_t1]
set_option maxRecDepth 65536 in
theorem w_case : (Jvm.Cond.and given_1 narrow_1).before args0 about1 = true := by decide +kernel
theorem w_applies : (headSpec (Jvm.Cond.code x code maxLocals ret :: tables_1) room_1).applies x e0.platform about1 = true :=
  (Spec.applies_iff w_frames).mpr ⟨w_running, w_runnable, w_alone, w_named, w_hears, w_ripe, w_room, w_tables⟩
theorem atStart : AtStart classFile x code maxLocals ret World_1 tables_1 room_1 Calls_1 rest_1 Pre_1 launch0 p0 e0 about1 theMethod args0 below0 :=
  ⟨lists_1, trivial, launch0.admits_env _ _ _, launch0.least_env, fairChoices_fair.cas, fairChoices_fair.clock, w_frames, w_args, w_heap, w_applies, trivial, trivial, w_case⟩
end start1
theorem witness_1 : WitnessClaimed_1 := ⟨start1.p0, start1.e0, start1.about1, start1.theMethod, start1.args0, start1.below0, start1.atStart⟩
end Jvm.Pilot.@@N@@
