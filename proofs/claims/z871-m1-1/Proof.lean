import JvmDerived
import JvmDerived.Pilot.@@N@@Statement
import JvmDerived.Pilot.@@N@@Code
set_option linter.unusedVariables false
set_option linter.unusedSimpArgs false
@@BLOCK:NumsL.lean.txt@@
namespace Jvm.RoadKit
open Sem ClassFile Op Lib Jvm.Stand Jvm.Free Jvm.LawKit
section New
variable {p : Program} {l : Launch} {e : Env} {R : Room} {s : State} {m : MethodId} {args : Array Value} {below : List Frame} {meth : Method} {c : Code} {T : State} {locs : List Loc} {cells slots : Nat}
theorem retI (X : Stand p l e R s m args below meth c T locs cells slots) (hx : p.tables.exec = Jvm.exec) {pc : Nat} {Ls : Array Slot} {z : Int32} {rest : List Value} (hret : meth.sig.returnType = some .int) (hd : decode c.code pc = .ok (.ireturn, 1)) {fs : List Frame}
    (hl : ∀ (f : JFrame) (acts : List Action), f.method = m → f.locked = none → f.entered = [] → (doReturn e (T.setTop f) acts (some (.int z))).1 = T.setFrames fs) : Steps p.tables e below (T.setTop (mkF m pc Ls (.int z :: rest))) (T.setFrames fs) := by
  have hm' : T.vm.method? m = some meth := X.method'
  have hn : narrow .int (.int z) = .int z := rfl
  show Steps p.tables e below (T.setTop { method := m, pc := pc, locals := Ls, stack := _ :: rest, locked := none }) _
  jvm_step X.here [X.here.top, hx, hd, hm', hret, hn]
  first | (intro acts; rw [hl _ acts rfl rfl rfl]) | rw [hl _ _ rfl rfl rfl]
  exact Steps.refl _
end New
end Jvm.RoadKit
namespace Jvm.OwnFP
open Jvm.FP
/-- a double's value in units of 2^-1074 -/
def zv (a : UInt64) : Int := Core.zval Core.b64 (Core.val64 a)
/-- how many units make one -/
def U : Int := (Core.one64 : Int)
theorem U_pos : 0 < U := by have := Core.one64_pos; unfold U; omega
theorem U_pow (k : Nat) (h : k ≤ 1074) : U = 2 ^ (1074 - k) * 2 ^ k := by
  have e : (2 : Int) ^ (1074 - k) * 2 ^ k = 2 ^ 1074 := by rw [← Int.pow_add]; congr 1; omega
  rw [e]; unfold U Core.one64; rw [Int.natCast_pow]; rfl
theorem pow_pos (k : Nat) : (0 : Int) < 2 ^ k := Int.pow_pos (by decide)
theorem notNan {a : UInt64} (h : Core.DFin a) : Core.val64 a ≠ .nan := by obtain ⟨s, c, q, h⟩ := h; rw [h]; exact Core.Datum.noConfusion
theorem fin_parts {a : UInt64} (h : Core.DFin a) : ∃ (s : Bool) (c i : Nat), Core.val64 a = .fin s c ((i : Int) - 1074) ∧ Core.fits Core.b64 (.fin s c ((i : Int) - 1074)) ∧ zv a = Core.signed s (c * 2 ^ i) := by
  obtain ⟨s, c, q, h⟩ := h
  have hf := Core.val64_fits a
  rw [h] at hf
  have hq : -1074 ≤ q := by have := hf.2.1; rw [Core.qmin_b64] at this; exact this
  obtain ⟨i, hi⟩ : ∃ i : Nat, q = (i : Int) - 1074 := ⟨(q + 1074).toNat, by omega⟩
  subst hi
  refine ⟨s, c, i, h, hf, ?_⟩
  unfold zv Core.zval; rw [h]
  show Core.signed s (c * 2 ^ ((i : Int) - 1074 - Core.b64.qmin).toNat) = _
  rw [Core.qmin_b64, show ((i : Int) - 1074 - -1074).toNat = i by omega]
/-- rounding a quotient is monotone: at most a number of the format -/
theorem ratio_le {s : Bool} {A B : Nat} {e e0 : Int} {V : Core.Datum} (hB : 0 < B) (hV : Core.fits Core.b64 V) (hn : V ≠ .nan) (h0 : e0 ≤ Core.b64.qmin) (h0e : e0 ≤ e)
    (h : Core.signed s (Core.inUnits A e e0) ≤ Core.zval Core.b64 V * ((2 ^ (Core.b64.qmin - e0).toNat * B : Nat) : Int)) :
    Core.zval Core.b64 (Core.roundRatio Core.b64 s A B e) ≤ Core.zval Core.b64 V := by
  have hle := Core.zmag_roundRatio_le Core.good_b64 (s := s) (A := A) hB hV hn h0 h0e
  have hge := Core.zmag_roundRatio_ge Core.good_b64 (s := s) (A := A) hB hV h0 h0e
  have hP : 0 < 2 ^ (Core.b64.qmin - e0).toNat * B := Nat.mul_pos (Nat.two_pow_pos _) hB
  rw [Nat.mul_assoc] at hle hge
  unfold Core.zval at h ⊢
  rw [Core.sgn_roundRatio]
  rw [← Core.signed_mul] at h
  have hz : Core.zmag Core.b64 V * (2 ^ (Core.b64.qmin - e0).toNat * B) = 0 → Core.zmag Core.b64 V = 0 := fun q => by
    rcases Nat.mul_eq_zero.mp q with q | q
    · exact q
    · omega
  generalize Core.zmag Core.b64 V * (2 ^ (Core.b64.qmin - e0).toNat * B) = vP at *
  generalize Core.sgn V = t at *
  generalize Core.zmag Core.b64 V = z at *
  generalize Core.zmag Core.b64 (Core.roundRatio Core.b64 s A B e) = r at *
  generalize Core.inUnits A e e0 = x at *
  cases s <;> cases t <;> simp only [Core.signed, if_true, Bool.false_eq_true, if_false] at h ⊢
  · have := hle (by omega); omega
  · have := hle (by omega); have := hz (by omega); omega
  · omega
  · have := hge (by omega); omega
theorem ratio_ge {s : Bool} {A B : Nat} {e e0 : Int} {V : Core.Datum} (hB : 0 < B) (hV : Core.fits Core.b64 V) (hn : V ≠ .nan) (h0 : e0 ≤ Core.b64.qmin) (h0e : e0 ≤ e)
    (h : Core.zval Core.b64 V * ((2 ^ (Core.b64.qmin - e0).toNat * B : Nat) : Int) ≤ Core.signed s (Core.inUnits A e e0)) :
    Core.zval Core.b64 V ≤ Core.zval Core.b64 (Core.roundRatio Core.b64 s A B e) := by
  have h1 := ratio_le (s := !s) (V := Core.negate V) hB (Core.negate_fits hV) (Core.negate_ne_nan hn) h0 h0e (by
    rw [Core.zval_negate, Int.neg_mul, Core.signed_not]; exact Int.neg_le_neg h)
  rw [Core.zval_negate, ← Core.negate_roundRatio, Core.zval_negate] at h1
  omega
theorem signed_pos_parts {t : Bool} {n : Nat} (h : 0 < Core.signed t n) : t = false ∧ 0 < n := by
  cases t <;> simp [Core.signed] at h ⊢ <;> omega
/-- the quotient as a rounded ratio -/
theorem ddiv_parts {a b : UInt64} (ha : Core.DFin a) (hb : Core.DFin b) (pb : 0 < zv b) :
    ∃ (s : Bool) (c d i j : Nat), zv a = Core.signed s (c * 2 ^ i) ∧ zv b = ((d * 2 ^ j : Nat) : Int) ∧ 0 < d ∧ Core.val64 (FP.ddiv a b) = Core.roundRatio Core.b64 s c d ((i : Int) - (j : Int)) := by
  obtain ⟨s, c, i, h1, f1, z1⟩ := fin_parts ha
  obtain ⟨t, d, j, h2, f2, z2⟩ := fin_parts hb
  rw [z2] at pb
  obtain ⟨rfl, hd⟩ := signed_pos_parts pb
  have hd' : 0 < d := Nat.pos_of_mul_pos_right hd
  refine ⟨s, c, d, i, j, z1, z2, hd', ?_⟩
  show Core.val64 (Core.ddiv a b) = _
  rw [Core.val64_ddiv, h1, h2]
  show (if d = 0 then _ else Core.roundRatio Core.b64 (s != false) c d ((i : Int) - 1074 - ((j : Int) - 1074))) = _
  rw [if_neg (by omega), show ((i : Int) - 1074 - ((j : Int) - 1074)) = (i : Int) - j by omega]
  cases s <;> rfl
theorem div_key {s : Bool} {c d i j : Nat} : Core.signed s (Core.inUnits c ((i : Int) - j) (-1074 - (j : Int))) = Core.signed s (c * 2 ^ i) * U ∧ ((2 ^ (Core.b64.qmin - (-1074 - (j : Int))).toNat * d : Nat) : Int) = ((d * 2 ^ j : Nat) : Int) := by
  constructor
  · unfold Core.inUnits
    rw [show ((i : Int) - j - (-1074 - (j : Int))).toNat = i + 1074 by omega, Nat.pow_add, ← Nat.mul_assoc, Core.signed_mul]
    rfl
  · rw [Core.qmin_b64, show (-1074 - (-1074 - (j : Int))).toNat = j by omega, Nat.mul_comm]
theorem ddiv_le {a b V : UInt64} (ha : Core.DFin a) (hb : Core.DFin b) (pb : 0 < zv b) (hV : Core.val64 V ≠ .nan) (h : zv a * U ≤ zv V * zv b) : zv (FP.ddiv a b) ≤ zv V := by
  obtain ⟨s, c, d, i, j, z1, z2, hd, hr⟩ := ddiv_parts ha hb pb
  have e : zv (FP.ddiv a b) = Core.zval Core.b64 (Core.roundRatio Core.b64 s c d ((i : Int) - (j : Int))) := by unfold zv; rw [hr]
  rw [e]
  refine ratio_le (e0 := -1074 - (j : Int)) hd (Core.val64_fits V) hV (by rw [Core.qmin_b64]; omega) (by omega) ?_
  rw [(div_key (d := d)).1, (div_key (s := s) (c := c) (i := i)).2, ← z1, ← z2]; exact h
theorem ddiv_ge {a b V : UInt64} (ha : Core.DFin a) (hb : Core.DFin b) (pb : 0 < zv b) (hV : Core.val64 V ≠ .nan) (h : zv V * zv b ≤ zv a * U) : zv V ≤ zv (FP.ddiv a b) := by
  obtain ⟨s, c, d, i, j, z1, z2, hd, hr⟩ := ddiv_parts ha hb pb
  have e : zv (FP.ddiv a b) = Core.zval Core.b64 (Core.roundRatio Core.b64 s c d ((i : Int) - (j : Int))) := by unfold zv; rw [hr]
  rw [e]
  refine ratio_ge (e0 := -1074 - (j : Int)) hd (Core.val64_fits V) hV (by rw [Core.qmin_b64]; omega) (by omega) ?_
  rw [(div_key (d := d)).1, (div_key (s := s) (c := c) (i := i)).2, ← z1, ← z2]; exact h
theorem ddiv_nn {a b : UInt64} (ha : Core.DFin a) (hb : Core.DFin b) (pb : 0 < zv b) : Core.val64 (FP.ddiv a b) ≠ .nan := by
  obtain ⟨s, c, d, i, j, z1, z2, hd, hr⟩ := ddiv_parts ha hb pb
  rw [hr]; exact Core.roundRatio_ne_nan _ _ _ _ _
/-- two quotients of one value -/
theorem ddiv_congr {a b a' b' : UInt64} (ha : Core.DFin a) (hb : Core.DFin b) (pb : 0 < zv b) (ha' : Core.DFin a') (hb' : Core.DFin b') (pb' : 0 < zv b') (hs : Core.sgn (Core.val64 a) = Core.sgn (Core.val64 a')) (h : zv a * zv b' = zv a' * zv b) : FP.ddiv a b = FP.ddiv a' b' := by
  obtain ⟨s, c, i, h1, f1, z1⟩ := fin_parts ha
  obtain ⟨s', c', i', h1', f1', z1'⟩ := fin_parts ha'
  obtain ⟨t, d, j, h2, f2, z2⟩ := fin_parts hb
  obtain ⟨t', d', j', h2', f2', z2'⟩ := fin_parts hb'
  rw [z2] at pb; rw [z2'] at pb'
  obtain ⟨rfl, hd⟩ := signed_pos_parts pb
  obtain ⟨rfl, hd'⟩ := signed_pos_parts pb'
  have hd1 : 0 < d := Nat.pos_of_mul_pos_right hd
  have hd1' : 0 < d' := Nat.pos_of_mul_pos_right hd'
  have es : s = s' := by rw [h1, h1'] at hs; exact hs
  subst es
  show Core.of64 (Core.quotient Core.b64 (Core.val64 a) (Core.val64 b)) = Core.of64 (Core.quotient Core.b64 (Core.val64 a') (Core.val64 b'))
  congr 1
  rw [h1, h2, h1', h2']
  show (if d = 0 then _ else Core.roundRatio Core.b64 (s != false) c d ((i : Int) - 1074 - ((j : Int) - 1074))) = (if d' = 0 then _ else Core.roundRatio Core.b64 (s != false) c' d' ((i' : Int) - 1074 - ((j' : Int) - 1074)))
  rw [if_neg (by omega), if_neg (by omega)]
  apply Core.roundRatio_congr hd1 hd1'
  have hn : (c * 2 ^ i) * (d' * 2 ^ j') = (c' * 2 ^ i') * (d * 2 ^ j) := by
    rw [z1, z1', z2, z2'] at h
    have : ∀ n : Nat, Core.signed false n = (n : Int) := fun _ => rfl
    rw [this, this, ← Core.signed_mul, ← Core.signed_mul] at h
    have := congrArg Int.natAbs h
    rwa [Core.natAbs_signed, Core.natAbs_signed] at this
  generalize hE : (i : Int) - 1074 - ((j : Int) - 1074) = E
  generalize hE' : (i' : Int) - 1074 - ((j' : Int) - 1074) = E'
  have k1 : c * d' * 2 ^ (i + j') = c' * d * 2 ^ (i' + j) := by
    rw [Nat.pow_add, Nat.pow_add]
    calc c * d' * (2 ^ i * 2 ^ j') = (c * 2 ^ i) * (d' * 2 ^ j') := by ac_rfl
      _ = (c' * 2 ^ i') * (d * 2 ^ j) := hn
      _ = c' * d * (2 ^ i' * 2 ^ j) := by ac_rfl
  by_cases hle : i' + j ≤ i + j'
  · have e1 : (E - E').toNat = i + j' - (i' + j) := by omega
    have e2 : (E' - E).toNat = 0 := by omega
    rw [e1, e2]
    have : 2 ^ (i + j') = 2 ^ (i + j' - (i' + j)) * 2 ^ (i' + j) := by rw [← Nat.pow_add]; congr 1; omega
    rw [this, ← Nat.mul_assoc] at k1
    simpa using Nat.eq_of_mul_eq_mul_right (Nat.two_pow_pos _) k1
  · have e1 : (E - E').toNat = 0 := by omega
    have e2 : (E' - E).toNat = i' + j - (i + j') := by omega
    rw [e1, e2]
    have : 2 ^ (i' + j) = 2 ^ (i' + j - (i + j')) * 2 ^ (i + j') := by rw [← Nat.pow_add]; congr 1; omega
    rw [this, ← Nat.mul_assoc] at k1
    simpa using Nat.eq_of_mul_eq_mul_right (Nat.two_pow_pos _) k1
theorem dmul_parts {a b : UInt64} (ha : Core.DFin a) (hb : Core.DFin b) :
    ∃ (s : Bool) (n : Nat) (e : Int), Core.val64 (FP.dmul a b) = Core.round Core.b64 (.fin s n e) ∧ -2148 ≤ e ∧ Core.signed s (Core.inUnits n e (-2148)) = zv a * zv b := by
  obtain ⟨s, c, i, h1, f1, z1⟩ := fin_parts ha
  obtain ⟨t, d, j, h2, f2, z2⟩ := fin_parts hb
  obtain ⟨p1, p2, p3⟩ := Core.product_units f1 f2
  refine ⟨s != t, c * d, (i : Int) - 1074 + ((j : Int) - 1074), ?_, by omega, ?_⟩
  · show Core.val64 (Core.dmul a b) = _
    rw [Core.val64_dmul, h1, h2, p1]
  · rw [z1, z2]
    unfold Core.inUnits
    rw [show ((i : Int) - 1074 + ((j : Int) - 1074) - (-2148)).toNat = i + j by omega, Nat.pow_add,
      show c * d * (2 ^ i * 2 ^ j) = (c * 2 ^ i) * (d * 2 ^ j) by ac_rfl, Core.signed_xor]
theorem mul_key : ((2 ^ (Core.b64.qmin - (-2148 : Int)).toNat : Nat) : Int) = U := by
  rw [Core.qmin_b64]; rfl
theorem dmul_le {a b V : UInt64} (ha : Core.DFin a) (hb : Core.DFin b) (hV : Core.val64 V ≠ .nan) (h : zv a * zv b ≤ zv V * U) : zv (FP.dmul a b) ≤ zv V := by
  obtain ⟨s, n, e, h1, h2, h3⟩ := dmul_parts ha hb
  have e1 : zv (FP.dmul a b) = Core.zval Core.b64 (Core.round Core.b64 (.fin s n e)) := by unfold zv; rw [h1]
  rw [e1]
  refine Core.zval_round_le Core.good_b64 (e0 := -2148) (Core.val64_fits V) hV (by rw [Core.qmin_b64]; decide) h2 ?_
  rw [h3, mul_key]; exact h
theorem dmul_ge {a b V : UInt64} (ha : Core.DFin a) (hb : Core.DFin b) (hV : Core.val64 V ≠ .nan) (h : zv V * U ≤ zv a * zv b) : zv V ≤ zv (FP.dmul a b) := by
  obtain ⟨s, n, e, h1, h2, h3⟩ := dmul_parts ha hb
  have e1 : zv (FP.dmul a b) = Core.zval Core.b64 (Core.round Core.b64 (.fin s n e)) := by unfold zv; rw [h1]
  rw [e1]
  refine Core.zval_round_ge Core.good_b64 (e0 := -2148) (Core.val64_fits V) hV (by rw [Core.qmin_b64]; decide) h2 ?_
  rw [h3, mul_key]; exact h
theorem dmul_nn {a b : UInt64} (ha : Core.DFin a) (hb : Core.DFin b) : Core.val64 (FP.dmul a b) ≠ .nan := by
  obtain ⟨s, n, e, h1, h2, h3⟩ := dmul_parts ha hb
  rw [h1]; exact Core.roundRatio_ne_nan _ _ _ _ _
theorem dadd_le {a b V : UInt64} (ha : Core.DFin a) (hb : Core.DFin b) (hV : Core.val64 V ≠ .nan) (h : zv a + zv b ≤ zv V) : zv (FP.dadd a b) ≤ zv V := by
  have := Core.sum_le Core.good_b64 ha hb (Core.val64_fits a) (Core.val64_fits b) (Core.val64_fits V) hV h
  unfold zv; show Core.zval Core.b64 (Core.val64 (Core.dadd a b)) ≤ _
  rw [Core.val64_dadd]; exact this
theorem dadd_ge {a b V : UInt64} (ha : Core.DFin a) (hb : Core.DFin b) (hV : Core.val64 V ≠ .nan) (h : zv V ≤ zv a + zv b) : zv V ≤ zv (FP.dadd a b) := by
  have := Core.sum_ge Core.good_b64 ha hb (Core.val64_fits a) (Core.val64_fits b) (Core.val64_fits V) hV h
  unfold zv; show _ ≤ Core.zval Core.b64 (Core.val64 (Core.dadd a b))
  rw [Core.val64_dadd]; exact this
theorem dadd_nn {a b : UInt64} (ha : Core.DFin a) (hb : Core.DFin b) : Core.val64 (FP.dadd a b) ≠ .nan := by
  have := Core.dadd_out (notNaN_of ha) hb
  exact (Core.notNaN_iff _).mp this
where notNaN_of {a : UInt64} (h : Core.DFin a) : Core.dIsNaN a = false := (Core.notNaN_iff a).mpr (notNan h)
theorem zv_dneg (a : UInt64) : zv (FP.dneg a) = - zv a := by
  unfold zv; rw [FP.val64_dneg, Core.zval_negate]
theorem fin_dneg {a : UInt64} (h : Core.DFin a) : Core.DFin (FP.dneg a) := by
  obtain ⟨s, c, q, h⟩ := h
  refine ⟨!s, c, q, ?_⟩
  rw [FP.val64_dneg, h]; rfl
theorem dsub_dadd {a b : UInt64} (hb : Core.DFin b) : FP.dsub a b = FP.dadd a (FP.dneg b) := by
  have h1 : FP.dneg b = Core.dneg b := FP.dneg_core ((Core.notNaN_iff b).mpr (notNan hb))
  rw [h1]; exact Core.dsub_eq a b
theorem dsub_le {a b V : UInt64} (ha : Core.DFin a) (hb : Core.DFin b) (hV : Core.val64 V ≠ .nan) (h : zv a - zv b ≤ zv V) : zv (FP.dsub a b) ≤ zv V := by
  rw [dsub_dadd hb]; exact dadd_le ha (fin_dneg hb) hV (by rw [zv_dneg]; omega)
theorem dsub_ge {a b V : UInt64} (ha : Core.DFin a) (hb : Core.DFin b) (hV : Core.val64 V ≠ .nan) (h : zv V ≤ zv a - zv b) : zv V ≤ zv (FP.dsub a b) := by
  rw [dsub_dadd hb]; exact dadd_ge ha (fin_dneg hb) hV (by rw [zv_dneg]; omega)
theorem dsub_nn {a b : UInt64} (ha : Core.DFin a) (hb : Core.DFin b) : Core.val64 (FP.dsub a b) ≠ .nan := by
  rw [dsub_dadd hb]; exact dadd_nn ha (fin_dneg hb)
/-- finite, if it lies between two finite ones -/
theorem fin_between {a V W : UInt64} (n : Core.val64 a ≠ .nan) (hV : Core.DFin V) (hW : Core.DFin W) (h1 : zv V ≤ zv a) (h2 : zv a ≤ zv W) : Core.DFin a := by
  have hv := hV.zval_lt; have hw := hW.zval_lt
  unfold zv Core.zval at h1 h2
  cases e : Core.val64 a with
  | nan => exact absurd e n
  | fin s c q => exact ⟨s, c, q, e⟩
  | inf s =>
    exfalso
    rw [e] at h1 h2
    have t : Core.zmag Core.b64 (.inf s) = Core.b64.tails * 2 ^ (Core.b64.exps - 2) := rfl
    rw [t] at h1 h2
    generalize Core.b64.tails * 2 ^ (Core.b64.exps - 2) = top at *
    generalize Core.zmag Core.b64 (Core.val64 V) = v at *
    generalize Core.zmag Core.b64 (Core.val64 W) = w at *
    generalize Core.sgn (Core.val64 V) = sv at *
    generalize Core.sgn (Core.val64 W) = sw at *
    cases s <;> cases sv <;> cases sw <;> simp [Core.signed, Core.sgn] at h1 h2 <;> omega
theorem signed_of (n : Int) : Core.signed (decide (n < 0)) n.natAbs = n := by
  unfold Core.signed
  by_cases q : n < 0
  · simp [q]; omega
  · simp [q]; omega
/-- n * 2^E units are a double -/
theorem repE (n : Int) (E : Nat) (hn : n.natAbs < 2 ^ 53) (hE : E ≤ 2045) : ∃ V, Core.DFin V ∧ zv V = n * 2 ^ E := by
  have hq : Core.b64.qmax = 971 := by decide
  obtain ⟨c', q', h1, h2⟩ := Core.round_exact Core.good_b64 (decide (n < 0)) (c := n.natAbs) (q := (E : Int) - 1074) hn (by rw [Core.qmin_b64]; omega) (by rw [hq]; omega)
  have h3 : Core.val64 (Core.of64 (Core.round Core.b64 (.fin (decide (n < 0)) n.natAbs ((E : Int) - 1074)))) = .fin (decide (n < 0)) c' q' := by
    rw [Core.val64_of64 (Core.round_fits Core.good_b64 _), h1]
  refine ⟨_, ⟨_, _, _, h3⟩, ?_⟩
  unfold zv Core.zval
  rw [h3]
  show Core.signed (decide (n < 0)) (Core.inUnits c' q' Core.b64.qmin) = _
  rw [h2]
  unfold Core.inUnits
  rw [Core.qmin_b64, show ((E : Int) - 1074 - -1074).toNat = E by omega, Core.signed_mul, signed_of, Int.natCast_pow]
  rfl
/-- n / 2^k is a double -/
theorem rep (n : Int) (k : Nat) (hn : n.natAbs ≤ 2 ^ 53) (hk : k ≤ 1000) : ∃ V, Core.DFin V ∧ zv V * 2 ^ k = n * U := by
  by_cases h : n.natAbs < 2 ^ 53
  · obtain ⟨V, fV, zV⟩ := repE n (1074 - k) h (by omega)
    exact ⟨V, fV, by rw [zV, U_pow k (by omega), Int.mul_assoc]⟩
  · by_cases hs : n < 0
    · obtain ⟨V, fV, zV⟩ := repE (-1) (53 + (1074 - k)) (by decide) (by omega)
      exact ⟨V, fV, by rw [zV, U_pow k (by omega), show n = -1 * 2 ^ 53 by omega, Int.pow_add]; ac_rfl⟩
    · obtain ⟨V, fV, zV⟩ := repE 1 (53 + (1074 - k)) (by decide) (by omega)
      exact ⟨V, fV, by rw [zV, U_pow k (by omega), show n = 1 * 2 ^ 53 by omega, Int.pow_add]; ac_rfl⟩
/-- and so are, with the infinities, the numbers up to 2^53 * 2^E -/
theorem repI (n : Int) (E : Nat) (hn : n.natAbs ≤ 2 ^ 53) (hE : E ≤ 2045) : ∃ V, Core.val64 V ≠ .nan ∧ zv V = n * 2 ^ E := by
  by_cases h : n.natAbs < 2 ^ 53
  · obtain ⟨V, fV, zV⟩ := repE n E h hE; exact ⟨V, notNan fV, zV⟩
  · by_cases hE2 : E + 53 ≤ 2045
    · by_cases hs : n < 0
      · obtain ⟨V, fV, zV⟩ := repE (-1) (53 + E) (by decide) (by omega)
        exact ⟨V, notNan fV, by rw [zV, show n = -1 * 2 ^ 53 by omega, Int.pow_add, Int.mul_assoc]⟩
      · obtain ⟨V, fV, zV⟩ := repE 1 (53 + E) (by decide) (by omega)
        exact ⟨V, notNan fV, by rw [zV, show n = 1 * 2 ^ 53 by omega, Int.pow_add, Int.mul_assoc]⟩
    · by_cases hE3 : E = 2045
      · subst hE3
        have v1 : Core.val64 9218868437227405312 = .inf false := by decide +kernel
        have v2 : Core.val64 18442240474082181120 = .inf true := by decide +kernel
        have z1 : Core.zmag Core.b64 (.inf false) = 2 ^ 53 * 2 ^ 2045 := by decide +kernel
        by_cases hs : n < 0
        · refine ⟨18442240474082181120, by rw [v2]; exact Core.Datum.noConfusion, ?_⟩
          unfold zv Core.zval; rw [v2]
          show Core.signed true (Core.zmag Core.b64 (.inf false)) = _
          rw [z1, Core.signed_mul, show n = -2 ^ 53 by omega, Int.natCast_pow]; rfl
        · refine ⟨9218868437227405312, by rw [v1]; exact Core.Datum.noConfusion, ?_⟩
          unfold zv Core.zval; rw [v1]
          show Core.signed false (Core.zmag Core.b64 (.inf false)) = _
          rw [z1, Core.signed_mul, show n = 2 ^ 53 by omega, Int.natCast_pow]; rfl
      · by_cases hs : n < 0
        · obtain ⟨V, fV, zV⟩ := repE (-2 ^ 52) (1 + E) (by decide) (by omega)
          exact ⟨V, notNan fV, by rw [zV, show n = -2 ^ 52 * 2 ^ 1 by omega, Int.pow_add, Int.mul_assoc]⟩
        · obtain ⟨V, fV, zV⟩ := repE (2 ^ 52) (1 + E) (by decide) (by omega)
          exact ⟨V, notNan fV, by rw [zV, show n = 2 ^ 52 * 2 ^ 1 by omega, Int.pow_add, Int.mul_assoc]⟩
theorem dmul_eq {a b V : UInt64} (ha : Core.DFin a) (hb : Core.DFin b) (hV : Core.val64 V ≠ .nan) (h : zv a * zv b = zv V * U) : zv (FP.dmul a b) = zv V := by
  have := dmul_le ha hb hV (Int.le_of_eq h); have := dmul_ge ha hb hV (Int.le_of_eq h.symm); omega
/-! ## values n / 2^k -/
/-- finite, and worth n / 2^k -/
def DS (n : Int) (k : Nat) (a : UInt64) : Prop := Core.DFin a ∧ zv a * 2 ^ k = n * U
def Le (a : UInt64) (n : Int) (k : Nat) : Prop := zv a * 2 ^ k ≤ n * U
def Ge (a : UInt64) (n : Int) (k : Nat) : Prop := n * U ≤ zv a * 2 ^ k
theorem DS.le {n : Int} {k : Nat} {a : UInt64} (h : DS n k a) : Le a n k := Int.le_of_eq h.2
theorem DS.ge {n : Int} {k : Nat} {a : UInt64} (h : DS n k a) : Ge a n k := Int.le_of_eq h.2.symm
theorem DS.int {i : Int} {a : UInt64} (h : Core.DInt i a) : DS i 0 a := by
  refine ⟨?_, ?_⟩
  · unfold Core.DInt at h
    cases e : Core.val64 a with
    | nan => rw [e] at h; exact h.elim
    | inf => rw [e] at h; exact h.elim
    | fin s c q => exact ⟨s, c, q, e⟩
  · show zv a * 2 ^ 0 = i * U
    rw [Int.pow_zero, Int.mul_one]; exact Core.DInt_zval h
theorem DS.i2d (x : Int32) : DS x.toInt 0 (FP.i2d x) := DS.int (Core.i2d_int x)
theorem DS.l2d {x : Int64} (h : x.toInt.natAbs ≤ 2 ^ 53) : DS x.toInt 0 (FP.l2d x) := DS.int (Core.l2d_int h)
theorem mul_cancel {a b c : Int} (hc : 0 < c) (h : a * c = b * c) : a = b := Int.eq_of_mul_eq_mul_right (by omega) h
theorem le_cancel {a b c : Int} (hc : 0 < c) (h : a * c ≤ b * c) : a ≤ b := Int.le_of_mul_le_mul_right h hc
theorem DS.up {n : Int} {k : Nat} {a : UInt64} (h : DS n k a) (j : Nat) : DS (n * 2 ^ j) (k + j) a := ⟨h.1, by
  rw [Int.pow_add, ← Int.mul_assoc, h.2]; grind⟩
theorem Le.up {n : Int} {k : Nat} {a : UInt64} (h : Le a n k) (j : Nat) : Le a (n * 2 ^ j) (k + j) := by
  unfold Le at *
  have := Int.mul_le_mul_of_nonneg_right h (Int.le_of_lt (pow_pos j))
  rw [Int.pow_add]; grind
theorem Ge.up {n : Int} {k : Nat} {a : UInt64} (h : Ge a n k) (j : Nat) : Ge a (n * 2 ^ j) (k + j) := by
  unfold Ge at *
  have := Int.mul_le_mul_of_nonneg_right h (Int.le_of_lt (pow_pos j))
  rw [Int.pow_add]; grind
/-- what lies between two bounds n / 2^k is finite -/
theorem fin_of {a : UInt64} {n m : Int} {k j : Nat} (nn : Core.val64 a ≠ .nan) (h1 : Ge a n k) (h2 : Le a m j) (bn : n.natAbs ≤ 2 ^ 53) (bm : m.natAbs ≤ 2 ^ 53) (hk : k ≤ 1000) (hj : j ≤ 1000) : Core.DFin a := by
  obtain ⟨V, fV, zV⟩ := rep n k bn hk
  obtain ⟨W, fW, zW⟩ := rep m j bm hj
  refine fin_between nn fV fW ?_ ?_
  · exact le_cancel (pow_pos k) (by unfold Ge at h1; omega)
  · exact le_cancel (pow_pos j) (by unfold Le at h2; omega)
theorem DS.of {a : UInt64} {n : Int} {k : Nat} (nn : Core.val64 a ≠ .nan) (h1 : Ge a n k) (h2 : Le a n k) (bn : n.natAbs ≤ 2 ^ 53) (hk : k ≤ 1000) : DS n k a :=
  ⟨fin_of nn h1 h2 bn bn hk hk, by unfold Ge at h1; unfold Le at h2; omega⟩
/-! the operations against bounds -/
theorem add_Le {a b : UInt64} {n m q : Int} {k : Nat} (fa : Core.DFin a) (fb : Core.DFin b) (ha : Le a n k) (hb : Le b m k) (h : n + m ≤ q) (bq : q.natAbs ≤ 2 ^ 53) (hk : k ≤ 1000) : Le (FP.dadd a b) q k := by
  obtain ⟨V, fV, zV⟩ := rep q k bq hk
  have h1 : zv (FP.dadd a b) ≤ zv V := dadd_le fa fb (notNan fV) (le_cancel (pow_pos k) (by
    unfold Le at ha hb
    rw [Int.add_mul, zV]
    have := Int.mul_le_mul_of_nonneg_right h (Int.le_of_lt U_pos)
    rw [Int.add_mul] at this; omega))
  unfold Le; rw [← zV]; exact Int.mul_le_mul_of_nonneg_right h1 (Int.le_of_lt (pow_pos k))
theorem add_Ge {a b : UInt64} {n m q : Int} {k : Nat} (fa : Core.DFin a) (fb : Core.DFin b) (ha : Ge a n k) (hb : Ge b m k) (h : q ≤ n + m) (bq : q.natAbs ≤ 2 ^ 53) (hk : k ≤ 1000) : Ge (FP.dadd a b) q k := by
  obtain ⟨V, fV, zV⟩ := rep q k bq hk
  have h1 : zv V ≤ zv (FP.dadd a b) := dadd_ge fa fb (notNan fV) (le_cancel (pow_pos k) (by
    unfold Ge at ha hb
    rw [Int.add_mul, zV]
    have := Int.mul_le_mul_of_nonneg_right h (Int.le_of_lt U_pos)
    rw [Int.add_mul] at this; omega))
  unfold Ge; rw [← zV]; exact Int.mul_le_mul_of_nonneg_right h1 (Int.le_of_lt (pow_pos k))
theorem DS.add {a b : UInt64} {n m : Int} {k : Nat} (ha : DS n k a) (hb : DS m k b) (bq : (n + m).natAbs ≤ 2 ^ 53) (hk : k ≤ 1000) : DS (n + m) k (FP.dadd a b) :=
  DS.of (dadd_nn ha.1 hb.1) (add_Ge ha.1 hb.1 ha.ge hb.ge (Int.le_refl _) bq hk) (add_Le ha.1 hb.1 ha.le hb.le (Int.le_refl _) bq hk) bq hk
theorem DS.neg {a : UInt64} {n : Int} {k : Nat} (ha : DS n k a) : DS (-n) k (FP.dneg a) := ⟨fin_dneg ha.1, by rw [zv_dneg, Int.neg_mul, ha.2, Int.neg_mul]⟩
theorem DS.sub {a b : UInt64} {n m : Int} {k : Nat} (ha : DS n k a) (hb : DS m k b) (bq : (n - m).natAbs ≤ 2 ^ 53) (hk : k ≤ 1000) : DS (n - m) k (FP.dsub a b) := by
  rw [dsub_dadd hb.1, show n - m = n + -m by omega]; exact ha.add hb.neg (by rw [← Int.sub_eq_add_neg]; exact bq) hk
theorem DS.mul {a b : UInt64} {n m : Int} {k j : Nat} (ha : DS n k a) (hb : DS m j b) (bq : (n * m).natAbs ≤ 2 ^ 53) (hk : k + j ≤ 1000) : DS (n * m) (k + j) (FP.dmul a b) := by
  obtain ⟨V, fV, zV⟩ := rep (n * m) (k + j) bq hk
  have e : zv a * zv b = zv V * U := by
    have h1 := ha.2; have h2 := hb.2
    refine mul_cancel (pow_pos (k + j)) ?_
    calc zv a * zv b * 2 ^ (k + j) = (zv a * 2 ^ k) * (zv b * 2 ^ j) := by rw [Int.pow_add]; grind
      _ = (n * U) * (m * U) := by rw [h1, h2]
      _ = (n * m * U) * U := by grind
      _ = zv V * U * 2 ^ (k + j) := by rw [← zV]; grind
  have g1 := dmul_le ha.1 hb.1 (notNan fV) (Int.le_of_eq e)
  have g2 := dmul_ge ha.1 hb.1 (notNan fV) (Int.le_of_eq e.symm)
  have g : zv (FP.dmul a b) = zv V := by omega
  exact ⟨fin_between (dmul_nn ha.1 hb.1) fV fV (by omega) (by omega), by rw [g, zV]⟩
theorem DS.pos {b : UInt64} {m : Int} {j : Nat} (hb : DS m j b) (hm : 0 < m) : 0 < zv b := by
  have h1 : 0 < zv b * 2 ^ j := by rw [hb.2]; exact Int.mul_pos hm U_pos
  exact Int.pos_of_mul_pos_left h1 (pow_pos j)
/-- a quotient against a bound q / 2^l -/
theorem div_Le {a b : UInt64} {n m q : Int} {k j l : Nat} (ha : DS n k a) (hb : DS m j b) (hm : 0 < m) (h : n * 2 ^ j * 2 ^ l ≤ q * m * 2 ^ k) (bq : q.natAbs ≤ 2 ^ 53) (hl : l ≤ 1000) : Le (FP.ddiv a b) q l := by
  obtain ⟨V, fV, zV⟩ := rep q l bq hl
  have h1 : zv (FP.ddiv a b) ≤ zv V := ddiv_le ha.1 hb.1 (hb.pos hm) (notNan fV) (by
    refine le_cancel (pow_pos (k + j + l)) ?_
    have e1 : zv a * U * 2 ^ (k + j + l) = (n * 2 ^ j * 2 ^ l) * (U * U) := by
      calc zv a * U * 2 ^ (k + j + l) = (zv a * 2 ^ k) * U * 2 ^ j * 2 ^ l := by rw [Int.pow_add, Int.pow_add]; grind
        _ = _ := by rw [ha.2]; grind
    have e2 : zv V * zv b * 2 ^ (k + j + l) = (q * m * 2 ^ k) * (U * U) := by
      calc zv V * zv b * 2 ^ (k + j + l) = (zv V * 2 ^ l) * (zv b * 2 ^ j) * 2 ^ k := by rw [Int.pow_add, Int.pow_add]; grind
        _ = _ := by rw [zV, hb.2]; grind
    rw [e1, e2]
    exact Int.mul_le_mul_of_nonneg_right h (Int.le_of_lt (Int.mul_pos U_pos U_pos)))
  unfold Le; rw [← zV]; exact Int.mul_le_mul_of_nonneg_right h1 (Int.le_of_lt (pow_pos l))
theorem div_Ge {a b : UInt64} {n m q : Int} {k j l : Nat} (ha : DS n k a) (hb : DS m j b) (hm : 0 < m) (h : q * m * 2 ^ k ≤ n * 2 ^ j * 2 ^ l) (bq : q.natAbs ≤ 2 ^ 53) (hl : l ≤ 1000) : Ge (FP.ddiv a b) q l := by
  obtain ⟨V, fV, zV⟩ := rep q l bq hl
  have h1 : zv V ≤ zv (FP.ddiv a b) := ddiv_ge ha.1 hb.1 (hb.pos hm) (notNan fV) (by
    refine le_cancel (pow_pos (k + j + l)) ?_
    have e1 : zv a * U * 2 ^ (k + j + l) = (n * 2 ^ j * 2 ^ l) * (U * U) := by
      calc zv a * U * 2 ^ (k + j + l) = (zv a * 2 ^ k) * U * 2 ^ j * 2 ^ l := by rw [Int.pow_add, Int.pow_add]; grind
        _ = _ := by rw [ha.2]; grind
    have e2 : zv V * zv b * 2 ^ (k + j + l) = (q * m * 2 ^ k) * (U * U) := by
      calc zv V * zv b * 2 ^ (k + j + l) = (zv V * 2 ^ l) * (zv b * 2 ^ j) * 2 ^ k := by rw [Int.pow_add, Int.pow_add]; grind
        _ = _ := by rw [zV, hb.2]; grind
    rw [e1, e2]
    exact Int.mul_le_mul_of_nonneg_right h (Int.le_of_lt (Int.mul_pos U_pos U_pos)))
  unfold Ge; rw [← zV]; exact Int.mul_le_mul_of_nonneg_right h1 (Int.le_of_lt (pow_pos l))
theorem DS.div {a b : UInt64} {n m q : Int} {k j l : Nat} (ha : DS n k a) (hb : DS m j b) (hm : 0 < m) (h : n * 2 ^ j * 2 ^ l = q * m * 2 ^ k) (bq : q.natAbs ≤ 2 ^ 53) (hl : l ≤ 1000) : DS q l (FP.ddiv a b) :=
  DS.of (ddiv_nn ha.1 hb.1 (hb.pos hm)) (div_Ge ha hb hm (Int.le_of_eq h.symm) bq hl) (div_Le ha hb hm (Int.le_of_eq h) bq hl) bq hl
/-! comparisons -/
theorem cmp_zv {a b : UInt64} (ha : Core.val64 a ≠ .nan) (hb : Core.val64 b ≠ .nan) : FP.dcmp a b = some (compare (zv a) (zv b)) := Core.dcmp_zval ha hb
theorem cmpV_of {a b : UInt64} (ha : Core.val64 a ≠ .nan) (hb : Core.val64 b ≠ .nan) (o : ClassFile.CmpOp) : Op.cmpValue (FP.dcmp a b) o = if zv a < zv b then -1 else if zv a = zv b then 0 else 1 := by
  rw [cmp_zv ha hb, Core.compare_ite]
  split
  · rfl
  · split <;> rfl
theorem cmp_gt {a b : UInt64} (ha : Core.val64 a ≠ .nan) (hb : Core.val64 b ≠ .nan) (h : zv b < zv a) (o : ClassFile.CmpOp) : Op.cmpValue (FP.dcmp a b) o = 1 := by
  rw [cmpV_of ha hb, if_neg (by omega), if_neg (by omega)]
theorem cmp_lt {a b : UInt64} (ha : Core.val64 a ≠ .nan) (hb : Core.val64 b ≠ .nan) (h : zv a < zv b) (o : ClassFile.CmpOp) : Op.cmpValue (FP.dcmp a b) o = -1 := by
  rw [cmpV_of ha hb, if_pos h]
theorem cmp_eq {a b : UInt64} (ha : Core.val64 a ≠ .nan) (hb : Core.val64 b ≠ .nan) (h : zv a = zv b) (o : ClassFile.CmpOp) : Op.cmpValue (FP.dcmp a b) o = 0 := by
  rw [cmpV_of ha hb, if_neg (by omega), if_pos h]
theorem zv_zero : zv FP.dconst0 = 0 := Core.zval64_zero
theorem cmp_neg {a b : UInt64} {k : Int32} {o : ClassFile.CmpOp} (h : Op.cmpValue (FP.dcmp a b) o = k) (ha : Core.val64 a ≠ .nan) (hb : Core.val64 b ≠ .nan) : k < 0 ↔ zv a < zv b := by
  rw [← h, cmpV_of ha hb]; split
  · exact ⟨fun _ => by assumption, fun _ => by decide⟩
  · split
    · exact ⟨fun h => absurd h (by decide), fun h => absurd h (by assumption)⟩
    · exact ⟨fun h => absurd h (by decide), fun h => absurd h (by assumption)⟩
theorem cmp_pos {a b : UInt64} {k : Int32} {o : ClassFile.CmpOp} (h : Op.cmpValue (FP.dcmp a b) o = k) (ha : Core.val64 a ≠ .nan) (hb : Core.val64 b ≠ .nan) : 0 < k ↔ zv b < zv a := by
  rw [← h, cmpV_of ha hb]; split
  · exact ⟨fun h => absurd h (by decide), fun h => by omega⟩
  · split
    · exact ⟨fun h => absurd h (by decide), fun h => by omega⟩
    · exact ⟨fun h => by omega, fun _ => by decide⟩
theorem cmp_nul {a b : UInt64} {k : Int32} {o : ClassFile.CmpOp} (h : Op.cmpValue (FP.dcmp a b) o = k) (ha : Core.val64 a ≠ .nan) (hb : Core.val64 b ≠ .nan) : k = 0 ↔ zv a = zv b := by
  rw [← h, cmpV_of ha hb]; split
  · exact ⟨fun h => absurd h (by decide), fun h => by omega⟩
  · split
    · exact ⟨fun _ => by assumption, fun _ => rfl⟩
    · exact ⟨fun h => absurd h (by decide), fun h => by omega⟩
theorem lt_of {a b : UInt64} {n m : Int} {k : Nat} (h1 : Le a n k) (h2 : Ge b m k) (h : n < m) : zv a < zv b := by
  unfold Le at h1; unfold Ge at h2
  have : n * U < m * U := Int.mul_lt_mul_of_pos_right h U_pos
  exact Int.lt_of_mul_lt_mul_right (a := 2 ^ k) (by omega) (Int.le_of_lt (pow_pos k))
theorem le_of {a b : UInt64} {n m : Int} {k : Nat} (h1 : Le a n k) (h2 : Ge b m k) (h : n ≤ m) : zv a ≤ zv b := by
  unfold Le at h1; unfold Ge at h2
  have : n * U ≤ m * U := Int.mul_le_mul_of_nonneg_right h (Int.le_of_lt U_pos)
  exact Int.le_of_mul_le_mul_right (a := 2 ^ k) (by omega) (pow_pos k)
theorem DS.cmp {a b : UInt64} {n m : Int} {k : Nat} (ha : DS n k a) (hb : DS m k b) (o : ClassFile.CmpOp) : Op.cmpValue (FP.dcmp a b) o = if n < m then -1 else if n = m then 0 else 1 := by
  rw [cmpV_of (notNan ha.1) (notNan hb.1)]
  by_cases h1 : n < m
  · rw [if_pos h1, if_pos (lt_of ha.le hb.ge h1)]
  · by_cases h2 : n = m
    · have e : zv a = zv b := by
        subst h2; have := le_of ha.le hb.ge (Int.le_refl _); have := le_of hb.le ha.ge (Int.le_refl _); omega
      rw [if_neg h1, if_pos h2, if_neg (by omega), if_pos e]
    · have := lt_of hb.le ha.ge (show m < n by omega)
      rw [if_neg h1, if_neg h2, if_neg (by omega), if_neg (by omega)]
theorem DS.zero : DS 0 0 FP.dconst0 := ⟨⟨false, 0, _, Core.val64_dconst0⟩, by
  have : zv FP.dconst0 = 0 := Core.zval64_zero
  rw [this]; simp⟩
theorem DS.one : DS 1 0 FP.dconst1 := DS.int Core.dint_one
theorem zv_one : zv FP.dconst1 = U := by have := DS.one.2; rwa [Int.pow_zero, Int.mul_one, Int.one_mul] at this
theorem DS.noNaN {n : Int} {k : Nat} {a : UInt64} (h : DS n k a) : Jvm.Free.Fl.NoNaN64 a := (Jvm.Free.Fl.fin64_core.mpr h.1).noNaN
theorem noNaN_of {a : UInt64} (h : Core.val64 a ≠ .nan) : Jvm.Free.Fl.NoNaN64 a := Jvm.Free.Fl.noNaN64_no.mpr ((Core.notNaN_iff a).mpr h)
end Jvm.OwnFP
namespace Jvm.OwnFP
open Jvm.FP
theorem sgn_pos {a : UInt64} (h : 0 < zv a) : Core.sgn (Core.val64 a) = false := by
  unfold zv Core.zval at h
  cases e : Core.sgn (Core.val64 a) with
  | false => rfl
  | true => rw [e] at h; simp only [Core.signed, if_true] at h; omega
/-- one quotient by two roads -/
theorem DS.div_same {a a' b b' : UInt64} {n d : Int} {k j : Nat} (ha : DS n k a) (ha' : DS n k a') (hb : DS d j b) (hb' : DS d j b') (hn : 0 < n) (hd : 0 < d) : FP.ddiv a b = FP.ddiv a' b' := by
  have e1 : zv a = zv a' := mul_cancel (pow_pos k) (by rw [ha.2, ha'.2])
  have e2 : zv b = zv b' := mul_cancel (pow_pos j) (by rw [hb.2, hb'.2])
  refine ddiv_congr ha.1 hb.1 (hb.pos hd) ha'.1 hb'.1 (hb'.pos hd) ?_ (by rw [e1, e2])
  rw [sgn_pos (ha.pos hn), sgn_pos (ha'.pos hn)]
end Jvm.OwnFP
namespace Jvm.OwnFP
open Jvm.FP
theorem Le.neg {a : UInt64} {n : Int} {k : Nat} (h : Le a n k) : Ge (FP.dneg a) (-n) k := by unfold Le at h; unfold Ge; rw [zv_dneg, Int.neg_mul, Int.neg_mul]; omega
theorem Ge.neg {a : UInt64} {n : Int} {k : Nat} (h : Ge a n k) : Le (FP.dneg a) (-n) k := by unfold Ge at h; unfold Le; rw [zv_dneg, Int.neg_mul, Int.neg_mul]; omega
theorem sub_Le {a b : UInt64} {n m q : Int} {k : Nat} (fa : Core.DFin a) (fb : Core.DFin b) (ha : Le a n k) (hb : Ge b m k) (h : n - m ≤ q) (bq : q.natAbs ≤ 2 ^ 53) (hk : k ≤ 1000) : Le (FP.dsub a b) q k := by
  rw [dsub_dadd fb]; exact add_Le fa (fin_dneg fb) ha hb.neg (by omega) bq hk
theorem sub_Ge {a b : UInt64} {n m q : Int} {k : Nat} (fa : Core.DFin a) (fb : Core.DFin b) (ha : Ge a n k) (hb : Le b m k) (h : q ≤ n - m) (bq : q.natAbs ≤ 2 ^ 53) (hk : k ≤ 1000) : Ge (FP.dsub a b) q k := by
  rw [dsub_dadd fb]; exact add_Ge fa (fin_dneg fb) ha hb.neg (by omega) bq hk
/-- one quotient at two scales -/
theorem DS.div_scale {a a' b b' : UInt64} {n d : Int} {k k' : Nat} (ha : DS n k a) (ha' : DS n k' a') (hb : DS d k b) (hb' : DS d k' b') (hn : 0 < n) (hd : 0 < d) : FP.ddiv a b = FP.ddiv a' b' := by
  refine ddiv_congr ha.1 hb.1 (hb.pos hd) ha'.1 hb'.1 (hb'.pos hd) ?_ ?_
  · rw [sgn_pos (ha.pos hn), sgn_pos (ha'.pos hn)]
  · refine mul_cancel (pow_pos (k + k')) ?_
    calc zv a * zv b' * 2 ^ (k + k') = (zv a * 2 ^ k) * (zv b' * 2 ^ k') := by rw [Int.pow_add]; ac_rfl
      _ = (zv a' * 2 ^ k') * (zv b * 2 ^ k) := by rw [ha.2, hb'.2, ha'.2, hb.2]
      _ = zv a' * zv b * 2 ^ (k + k') := by rw [Int.pow_add]; ac_rfl
end Jvm.OwnFP
namespace Jvm.Pilot.@@N@@
open Jvm Jvm.ClassFile Sem Op Lib Jvm.Free Jvm.Stand Jvm.LawKit Jvm.RoadKit Bundle Jvm.Pilot.@@N@@.Jvm.D
open Jvm.OwnFP Jvm.FP
theorem pn_com_example_pulsewarden_pulsewarden_MeanAndVarianceLeastTailPinLaw : plainName "com/example/pulsewarden/pulsewarden/MeanAndVarianceLeastTailPinLaw" = true := by first | (simp [plainName, overriddenIn]; done) | decide +kernel
theorem pn_com_example_pulsewarden_pulsewarden_DelayModel_MeanAndVariance : plainName "com/example/pulsewarden/pulsewarden/DelayModel$MeanAndVariance" = true := by first | (simp [plainName, overriddenIn]; done) | decide +kernel
theorem pn_java_lang_Record : plainName "java/lang/Record" = true := by first | (simp [plainName, overriddenIn]; done) | decide +kernel
theorem pd___V : parseMethodDescriptor "()V" = some ⟨[], none⟩ := by decide +kernel
theorem pd__DDD_V : parseMethodDescriptor "(DDD)V" = some ⟨[.double, .double, .double], none⟩ := by decide +kernel
theorem pd__D_D : parseMethodDescriptor "(D)D" = some ⟨[.double], some .double⟩ := by decide +kernel
theorem d2_0 : decode jdk_30_method_1_code 0 = .ok (.aload_n 0, 1) := by decide +kernel
theorem d2_1 : decode jdk_30_method_1_code 1 = .ok (.invokespecial 1, 3) := by decide +kernel
theorem d2_4 : decode jdk_30_method_1_code 4 = .ok (.return_, 1) := by decide +kernel
theorem ef_2 (m : MethodId) (a1 : Addr) : entryFrame m #[(.ref a1)] 1 = (mkF m 0 #[.val (.ref a1)] []) := by first | (simp [entryFrame, mkF, argsToLocals, Value.category]; done) | rfl
def Q_2 (Z : State) (a1 : Addr) (h0 : Heap) (n0 : Nat) (v : Option Value) (h : Heap) (L : List Loc) : Prop := v = none ∧ Fr n0 L ∧ h = h0
set_option maxRecDepth 65536 in
set_option maxHeartbeats 2000000 in
theorem rm_2 (l : Launch) (Z : State) (a0 : Array Value) (hw : ∀ d ∈ tables_1, d.before a0 Z = true) (ws : List Jvm.Cond) (a1 : Addr) (h0 : Heap) (n0 : Nat) (Z0 : n0 ≤ h0.size)  :
    MetFree l (⟨"java/lang/Record", "<init>", "()V"⟩ : MethodName) (head1 (Jvm.Cond.code (⟨"java/lang/Record", "<init>", "()V"⟩ : MethodName) jdk_30_method_1_code 1 none :: ws) ({ frames := 1, cells := 0, slots := 0, locals := 12 } : Room)) (fun aa UU => aa = #[(.ref a1)] ∧ Z.Warmed39 UU.vm ∧ UU.heap = h0) (fun _ _ _ _ _ => True) (fun _ UU oo UU' => ∃ v L, oo = .returned v ∧ Q_2 Z a1 h0 n0 v UU'.heap L ∧ FrameEnd UU oo UU' L ({ frames := 1, cells := 0, slots := 0, locals := 12 } : Room).cells ({ frames := 1, cells := 0, slots := 0, locals := 12 } : Room).slots) := by
  refine MetFree.of_bodySF (plainFor_of_name pn_java_lang_Record) hisR ?_
  intro p e s m args below meth c s₁ Bd hml0 hP hK
  obtain ⟨rfl, hZ, hh⟩ := hP
  have hx := Bd.exec
  have hby := Bd.bytes
  have hml : c.maxLocals = 1 := hml0
  have hown : s.vm.findClass "java/lang/Record" = some m.cls := findClass_of_methodNamed Bd.named
  have hnaM := (name_of_methodNamed Bd.named Bd.method).1
  have X0 : Stand p l e ({ frames := 1, cells := 0, slots := 0, locals := 12 } : Room) s m #[(.ref a1)] below meth c s₁ [] 0 0 := Stand.of_body Bd
  have e0 : s₁.heap = h0 := by rw [← hh, Bd.state]; rfl
  have N0 := Fr.nil n0
  have pre0 : ∀ t, Steps p.tables e below (s₁.setTop (entryFrame m #[(.ref a1)] 1)) t → Steps p.tables e below (s₁.setTop (entryFrame m #[(.ref a1)] 1)) t := fun t k => k
  have c0 : ∀ t, Steps p.tables e below (s₁.setTop (mkF m 0 #[.val (.ref a1)] [])) t → Steps p.tables e below (s₁.setTop (entryFrame m #[(.ref a1)] 1)) t := fun t k => castTop (ef_2 m a1) k
  have c1 : ∀ t, Steps p.tables e below (s₁.setTop (mkF m 1 #[.val (.ref a1)] [(.ref a1)])) t → Steps p.tables e below (s₁.setTop (entryFrame m #[(.ref a1)] 1)) t := fun t k => c0 t (by
    show Steps p.tables e below (s₁.setTop (mkF m 0 #[.val (.ref a1)] [])) _
    refine XS.aloadN X0.here hx rfl (hb hby d2_0) rfl rfl ?_
    show Steps p.tables e below (s₁.setTop (mkF m 1 #[.val (.ref a1)] [(.ref a1)])) _
    exact k)
  obtain ⟨T2, X2, e2, st2⟩ := initO X0 hx hZ hown (hw _ (List.mem_of_getElem? (i := 15) rfl)) (hw _ (List.mem_of_getElem? (i := 16) rfl)) (hw _ (List.mem_of_getElem? (i := 17) rfl)) e0 (g := (mkF m 1 #[.val (.ref a1)] [(.ref a1)])) rfl (by rw [hml]; rfl) rfl (hb hby d2_1) (by decide) (W := 0) (by show 2 * 0 + _ ≤ _; exact Nat.le_of_eq rfl) (by decide)
  have c3 : ∀ t, Steps p.tables e below (T2.setTop (mkF m 4 #[.val (.ref a1)] [])) t → Steps p.tables e below (s₁.setTop (entryFrame m #[(.ref a1)] 1)) t := fun t k => c1 t (st2 _ k)
  obtain ⟨fs, hr, hrun, hended, hW, hsame⟩ := X2.leave (v := none) (fun _ => rfl)
  refine ⟨_, _, pre0 _ (c3 _ (X2.returnOut hx Bd.returns (hb hby d2_4) hr)), hrun, hended, _, _, rfl, ?_, ⟨_, rfl⟩, hW, hsame.mono (by decide) (by decide)⟩
  show Q_2 Z a1 h0 n0 _ T2.heap _
  rw [e2]
  exact ⟨rfl, N0, rfl⟩
theorem d1_0 : decode prog_15_method_1_code 0 = .ok (.aload_n 0, 1) := by decide +kernel
theorem d1_1 : decode prog_15_method_1_code 1 = .ok (.invokespecial 1, 3) := by decide +kernel
theorem d1_4 : decode prog_15_method_1_code 4 = .ok (.dload_n 1, 1) := by decide +kernel
theorem d1_5 : decode prog_15_method_1_code 5 = .ok (.dload 5, 2) := by decide +kernel
theorem d1_7 : decode prog_15_method_1_code 7 = .ok (.dcmp .l, 1) := by decide +kernel
theorem d1_8 : decode prog_15_method_1_code 8 = .ok (.ifCond .le 25, 3) := by decide +kernel
theorem d1_11 : decode prog_15_method_1_code 11 = .ok (.dload_n 1, 1) := by decide +kernel
theorem d1_12 : decode prog_15_method_1_code 12 = .ok (.ldc2_w 9, 3) := by decide +kernel
theorem d1_15 : decode prog_15_method_1_code 15 = .ok (.dcmp .g, 1) := by decide +kernel
theorem d1_16 : decode prog_15_method_1_code 16 = .ok (.ifCond .ge 17, 3) := by decide +kernel
theorem d1_19 : decode prog_15_method_1_code 19 = .ok (.dload_n 3, 1) := by decide +kernel
theorem d1_20 : decode prog_15_method_1_code 20 = .ok (.dconst 0, 1) := by decide +kernel
theorem d1_21 : decode prog_15_method_1_code 21 = .ok (.dcmp .l, 1) := by decide +kernel
theorem d1_22 : decode prog_15_method_1_code 22 = .ok (.ifCond .lt 11, 3) := by decide +kernel
theorem d1_25 : decode prog_15_method_1_code 25 = .ok (.dload_n 3, 1) := by decide +kernel
theorem d1_26 : decode prog_15_method_1_code 26 = .ok (.ldc2_w 9, 3) := by decide +kernel
theorem d1_29 : decode prog_15_method_1_code 29 = .ok (.dcmp .g, 1) := by decide +kernel
theorem d1_30 : decode prog_15_method_1_code 30 = .ok (.ifCond .lt 20, 3) := by decide +kernel
theorem d1_50 : decode prog_15_method_1_code 50 = .ok (.aload_n 0, 1) := by decide +kernel
theorem d1_51 : decode prog_15_method_1_code 51 = .ok (.dload_n 1, 1) := by decide +kernel
theorem d1_52 : decode prog_15_method_1_code 52 = .ok (.putfield 20, 3) := by decide +kernel
theorem d1_55 : decode prog_15_method_1_code 55 = .ok (.aload_n 0, 1) := by decide +kernel
theorem d1_56 : decode prog_15_method_1_code 56 = .ok (.dload_n 3, 1) := by decide +kernel
theorem d1_57 : decode prog_15_method_1_code 57 = .ok (.putfield 26, 3) := by decide +kernel
theorem d1_60 : decode prog_15_method_1_code 60 = .ok (.aload_n 0, 1) := by decide +kernel
theorem d1_61 : decode prog_15_method_1_code 61 = .ok (.dload 5, 2) := by decide +kernel
theorem d1_63 : decode prog_15_method_1_code 63 = .ok (.putfield 29, 3) := by decide +kernel
theorem d1_66 : decode prog_15_method_1_code 66 = .ok (.return_, 1) := by decide +kernel
theorem ef_1 (m : MethodId) (a1 : Addr) (pm : UInt64) (pv : UInt64) (pf : UInt64) : entryFrame m #[(.ref a1), (.double pm), (.double pv), (.double pf)] 7 = (mkF m 0 #[.val (.ref a1), .val (.double pm), .second, .val (.double pv), .second, .val (.double pf), .second] []) := by first | (simp [entryFrame, mkF, argsToLocals, Value.category]; done) | rfl
def Q_1 (Z : State) (a1 : Addr) (pm : UInt64) (pv : UInt64) (pf : UInt64) (h0 : Heap) (n0 : Nat) (v : Option Value) (h : Heap) (L : List Loc) : Prop := v = none ∧ Fr n0 L ∧ Keep h0 h [a1] ∧ Exa Z h a1 "com/example/pulsewarden/pulsewarden/DelayModel$MeanAndVariance" ∧ Fld Z h a1 "com/example/pulsewarden/pulsewarden/DelayModel$MeanAndVariance" "meanSeconds" "D" (.double pm) ∧ Fld Z h a1 "com/example/pulsewarden/pulsewarden/DelayModel$MeanAndVariance" "varianceSeconds2" "D" (.double pv) ∧ Fld Z h a1 "com/example/pulsewarden/pulsewarden/DelayModel$MeanAndVariance" "floorSeconds" "D" (.double pf)
set_option maxRecDepth 65536 in
set_option maxHeartbeats 2000000 in
theorem rm_1 (l : Launch) (Z : State) (a0 : Array Value) (hw : ∀ d ∈ tables_1, d.before a0 Z = true) (ws : List Jvm.Cond) (a1 : Addr) (pm : UInt64) (pv : UInt64) (pf : UInt64) (h0 : Heap) (n0 : Nat) (Z0 : n0 ≤ h0.size) (E_a1 : Exa Z h0 a1 "com/example/pulsewarden/pulsewarden/DelayModel$MeanAndVariance") (F_0 : Fld Z h0 a1 "com/example/pulsewarden/pulsewarden/DelayModel$MeanAndVariance" "meanSeconds" "D" (.double (0 : UInt64))) (F_1 : Fld Z h0 a1 "com/example/pulsewarden/pulsewarden/DelayModel$MeanAndVariance" "varianceSeconds2" "D" (.double (0 : UInt64))) (F_2 : Fld Z h0 a1 "com/example/pulsewarden/pulsewarden/DelayModel$MeanAndVariance" "floorSeconds" "D" (.double (0 : UInt64))) (g_a1 : n0 ≤ a1) (fm : Core.DFin pm) (fv : Core.DFin pv) (ff : Core.DFin pf) (hmf : zv pf < zv pm) (hv0 : 0 ≤ zv pv) :
    MetFree l (⟨"com/example/pulsewarden/pulsewarden/DelayModel$MeanAndVariance", "<init>", "(DDD)V"⟩ : MethodName) (head1 (Jvm.Cond.code (⟨"com/example/pulsewarden/pulsewarden/DelayModel$MeanAndVariance", "<init>", "(DDD)V"⟩ : MethodName) prog_15_method_1_code 7 none :: ws) ({ frames := 2, cells := 0, slots := 0, locals := 24 } : Room)) (fun aa UU => aa = #[(.ref a1), (.double pm), (.double pv), (.double pf)] ∧ Z.Warmed39 UU.vm ∧ UU.heap = h0) (fun _ _ _ _ _ => True) (fun _ UU oo UU' => ∃ v L, oo = .returned v ∧ Q_1 Z a1 pm pv pf h0 n0 v UU'.heap L ∧ FrameEnd UU oo UU' L ({ frames := 2, cells := 0, slots := 0, locals := 24 } : Room).cells ({ frames := 2, cells := 0, slots := 0, locals := 24 } : Room).slots) := by
  refine MetFree.of_bodySF (plainFor_of_name pn_com_example_pulsewarden_pulsewarden_DelayModel_MeanAndVariance) hisR ?_
  intro p e s m args below meth c s₁ Bd hml0 hP hK
  obtain ⟨rfl, hZ, hh⟩ := hP
  have hx := Bd.exec
  have hby := Bd.bytes
  have hml : c.maxLocals = 7 := hml0
  have hown : s.vm.findClass "com/example/pulsewarden/pulsewarden/DelayModel$MeanAndVariance" = some m.cls := findClass_of_methodNamed Bd.named
  have hnaM := (name_of_methodNamed Bd.named Bd.method).1
  have X0 : Stand p l e ({ frames := 2, cells := 0, slots := 0, locals := 24 } : Room) s m #[(.ref a1), (.double pm), (.double pv), (.double pf)] below meth c s₁ [] 0 0 := Stand.of_body Bd
  have e0 : s₁.heap = h0 := by rw [← hh, Bd.state]; rfl
  have N0 := Fr.nil n0
  have pre0 : ∀ t, Steps p.tables e below (s₁.setTop (entryFrame m #[(.ref a1), (.double pm), (.double pv), (.double pf)] 7)) t → Steps p.tables e below (s₁.setTop (entryFrame m #[(.ref a1), (.double pm), (.double pv), (.double pf)] 7)) t := fun t k => k
  have c0 : ∀ t, Steps p.tables e below (s₁.setTop (mkF m 0 #[.val (.ref a1), .val (.double pm), .second, .val (.double pv), .second, .val (.double pf), .second] [])) t → Steps p.tables e below (s₁.setTop (entryFrame m #[(.ref a1), (.double pm), (.double pv), (.double pf)] 7)) t := fun t k => castTop (ef_1 m a1 pm pv pf) k
  have K0 := Keep.refl h0 [a1]
  have c1 : ∀ t, Steps p.tables e below (s₁.setTop (mkF m 1 #[.val (.ref a1), .val (.double pm), .second, .val (.double pv), .second, .val (.double pf), .second] [(.ref a1)])) t → Steps p.tables e below (s₁.setTop (entryFrame m #[(.ref a1), (.double pm), (.double pv), (.double pf)] 7)) t := fun t k => c0 t (by
    show Steps p.tables e below (s₁.setTop (mkF m 0 #[.val (.ref a1), .val (.double pm), .second, .val (.double pv), .second, .val (.double pf), .second] [])) _
    refine XS.aloadN X0.here hx rfl (hb hby d1_0) rfl rfl ?_
    show Steps p.tables e below (s₁.setTop (mkF m 1 #[.val (.ref a1), .val (.double pm), .second, .val (.double pv), .second, .val (.double pf), .second] [(.ref a1)])) _
    exact k)
  obtain ⟨_, _, ⟨T2, L2, k2', n2⟩, -, X2, ⟨Lc2, hQ2, l2, y2, z2⟩, st2⟩ := X0.specialBack hx (y := (⟨"java/lang/Record", "<init>", "()V"⟩ : MethodName)) rfl hown (mvT hZ (hw _ (List.mem_of_getElem? (i := 10) rfl))) (mvT hZ (hw _ (List.mem_of_getElem? (i := 11) rfl))) (mvT hZ (hw _ (List.mem_of_getElem? (i := 14) rfl))) (by decide) (backOf (W := 0) (rm_2 l Z a0 hw [] a1 h0 n0 Z0) hZ (hw _ (List.mem_of_getElem? (i := 14) rfl)) (hw _ (List.mem_of_getElem? (i := 13) rfl)) (by decide) (by decide)) (g := (mkF m 1 #[.val (.ref a1), .val (.double pm), .second, .val (.double pv), .second, .val (.double pf), .second] [(.ref a1)])) rfl (by rw [hml]; rfl) (Steps.refl _) (a := a1) (argsL := []) (rest := []) (lenOf pd___V rfl) rfl (by show 2 * 0 + _ ≤ _; exact Nat.le_of_eq rfl) (hb hby d1_1) (fun _ _ => ⟨rfl, e0, (by decide : 0 + 0 ≤ _), (by decide : 0 + 0 ≤ _)⟩)
  dsimp only [Pt.U, Pt.locs, Pt.cells, Pt.slots] at X2 l2 y2 z2 st2 hQ2
  subst l2 y2 z2
  obtain ⟨rfl, N2, e2⟩ := hQ2
  have M2 := Fr.app N0 N2
  have c3 : ∀ t, Steps p.tables e below (T2.setTop (mkF m 4 #[.val (.ref a1), .val (.double pm), .second, .val (.double pv), .second, .val (.double pf), .second] [])) t → Steps p.tables e below (s₁.setTop (entryFrame m #[(.ref a1), (.double pm), (.double pv), (.double pf)] 7)) t := fun t k => c1 t (st2.trans k)
  obtain ⟨k7, hk7⟩ : ∃ v : Int32, cmpValue (FP.dcmp pm pf) .l = v := ⟨_, rfl⟩
  have v7 : k7 = 1 := hk7 ▸ cmp_gt (notNan fm) (notNan ff) hmf .l
  obtain ⟨k15, hk15⟩ : ∃ v : Int32, cmpValue (FP.dcmp pm (9218868437227405312 : UInt64)) .g = v := ⟨_, rfl⟩
  have v15 : k15 = -1 := hk15 ▸ dcmp_pinf (Jvm.Free.Fl.fin64_core.mpr fm) .g
  obtain ⟨k21, hk21⟩ : ∃ v : Int32, cmpValue (FP.dcmp pv FP.dconst0) .l = v := ⟨_, rfl⟩
  have v21 : ¬ k21 < 0 := by
    rw [← hk21, cmpV_of (notNan fv) (notNan DS.zero.1), zv_zero, if_neg (by omega)]; split <;> decide
  obtain ⟨k29, hk29⟩ : ∃ v : Int32, cmpValue (FP.dcmp pv (9218868437227405312 : UInt64)) .g = v := ⟨_, rfl⟩
  have v29 : k29 = -1 := hk29 ▸ dcmp_pinf (Jvm.Free.Fl.fin64_core.mpr fv) .g
  have c4 : ∀ t, Steps p.tables e below (T2.setTop (mkF m 52 #[.val (.ref a1), .val (.double pm), .second, .val (.double pv), .second, .val (.double pf), .second] [(.double pm), (.ref a1)])) t → Steps p.tables e below (s₁.setTop (entryFrame m #[(.ref a1), (.double pm), (.double pv), (.double pf)] 7)) t := fun t k => c3 t (by
    show Steps p.tables e below (T2.setTop (mkF m 4 #[.val (.ref a1), .val (.double pm), .second, .val (.double pv), .second, .val (.double pf), .second] [])) _
    refine XS.dloadN X2.here hx rfl (hb hby d1_4) rfl ?_
    show Steps p.tables e below (T2.setTop (mkF m 5 #[.val (.ref a1), .val (.double pm), .second, .val (.double pv), .second, .val (.double pf), .second] [(.double pm)])) _
    refine XS.dload X2.here hx rfl (hb hby d1_5) rfl ?_
    show Steps p.tables e below (T2.setTop (mkF m 7 #[.val (.ref a1), .val (.double pm), .second, .val (.double pv), .second, .val (.double pf), .second] [(.double pf), (.double pm)])) _
    refine XS.dcmpS X2.here hx rfl (hb hby d1_7) rfl hk7 ?_
    show Steps p.tables e below (T2.setTop (mkF m 8 #[.val (.ref a1), .val (.double pm), .second, .val (.double pv), .second, .val (.double pf), .second] [(.int k7)])) _
    refine XS.ifNo X2.here hx rfl (hb hby d1_8) rfl (XT.i0_le_f (by rw [v7]; decide)) ?_
    show Steps p.tables e below (T2.setTop (mkF m 11 #[.val (.ref a1), .val (.double pm), .second, .val (.double pv), .second, .val (.double pf), .second] [])) _
    refine XS.dloadN X2.here hx rfl (hb hby d1_11) rfl ?_
    show Steps p.tables e below (T2.setTop (mkF m 12 #[.val (.ref a1), .val (.double pm), .second, .val (.double pv), .second, .val (.double pf), .second] [(.double pm)])) _
    refine Jvm.Stand.ldc2DoubleC X2 hx hown (mvT hZ (hw _ (List.mem_of_getElem? (i := 18) rfl))) (g := (mkF m 12 #[.val (.ref a1), .val (.double pm), .second, .val (.double pv), .second, .val (.double pf), .second] [(.double pm)])) rfl (hb hby d1_12) _ ?_
    show Steps p.tables e below (T2.setTop (mkF m 15 #[.val (.ref a1), .val (.double pm), .second, .val (.double pv), .second, .val (.double pf), .second] [(.double (9218868437227405312 : UInt64)), (.double pm)])) _
    refine XS.dcmpS X2.here hx rfl (hb hby d1_15) rfl hk15 ?_
    show Steps p.tables e below (T2.setTop (mkF m 16 #[.val (.ref a1), .val (.double pm), .second, .val (.double pv), .second, .val (.double pf), .second] [(.int k15)])) _
    refine XS.ifNo X2.here hx rfl (hb hby d1_16) rfl (XT.i0_ge_f (by rw [v15]; decide)) ?_
    show Steps p.tables e below (T2.setTop (mkF m 19 #[.val (.ref a1), .val (.double pm), .second, .val (.double pv), .second, .val (.double pf), .second] [])) _
    refine XS.dloadN X2.here hx rfl (hb hby d1_19) rfl ?_
    show Steps p.tables e below (T2.setTop (mkF m 20 #[.val (.ref a1), .val (.double pm), .second, .val (.double pv), .second, .val (.double pf), .second] [(.double pv)])) _
    refine XS.dconst0 X2.here hx rfl (hb hby d1_20) rfl ?_
    show Steps p.tables e below (T2.setTop (mkF m 21 #[.val (.ref a1), .val (.double pm), .second, .val (.double pv), .second, .val (.double pf), .second] [(.double FP.dconst0), (.double pv)])) _
    refine XS.dcmpS X2.here hx rfl (hb hby d1_21) rfl hk21 ?_
    show Steps p.tables e below (T2.setTop (mkF m 22 #[.val (.ref a1), .val (.double pm), .second, .val (.double pv), .second, .val (.double pf), .second] [(.int k21)])) _
    refine XS.ifNo X2.here hx rfl (hb hby d1_22) rfl (XT.i0_lt_f v21) ?_
    show Steps p.tables e below (T2.setTop (mkF m 25 #[.val (.ref a1), .val (.double pm), .second, .val (.double pv), .second, .val (.double pf), .second] [])) _
    refine XS.dloadN X2.here hx rfl (hb hby d1_25) rfl ?_
    show Steps p.tables e below (T2.setTop (mkF m 26 #[.val (.ref a1), .val (.double pm), .second, .val (.double pv), .second, .val (.double pf), .second] [(.double pv)])) _
    refine Jvm.Stand.ldc2DoubleC X2 hx hown (mvT hZ (hw _ (List.mem_of_getElem? (i := 18) rfl))) (g := (mkF m 26 #[.val (.ref a1), .val (.double pm), .second, .val (.double pv), .second, .val (.double pf), .second] [(.double pv)])) rfl (hb hby d1_26) _ ?_
    show Steps p.tables e below (T2.setTop (mkF m 29 #[.val (.ref a1), .val (.double pm), .second, .val (.double pv), .second, .val (.double pf), .second] [(.double (9218868437227405312 : UInt64)), (.double pv)])) _
    refine XS.dcmpS X2.here hx rfl (hb hby d1_29) rfl hk29 ?_
    show Steps p.tables e below (T2.setTop (mkF m 30 #[.val (.ref a1), .val (.double pm), .second, .val (.double pv), .second, .val (.double pf), .second] [(.int k29)])) _
    refine XS.ifYes X2.here hx rfl (pc0 := 30) (pc' := 50) rfl (hb hby d1_30) rfl (XT.i0_lt_t (by rw [v29]; decide)) (by decide) (by decide) ?_
    show Steps p.tables e below (T2.setTop (mkF m 50 #[.val (.ref a1), .val (.double pm), .second, .val (.double pv), .second, .val (.double pf), .second] [])) _
    refine XS.aloadN X2.here hx rfl (hb hby d1_50) rfl rfl ?_
    show Steps p.tables e below (T2.setTop (mkF m 51 #[.val (.ref a1), .val (.double pm), .second, .val (.double pv), .second, .val (.double pf), .second] [(.ref a1)])) _
    refine XS.dloadN X2.here hx rfl (hb hby d1_51) rfl ?_
    show Steps p.tables e below (T2.setTop (mkF m 52 #[.val (.ref a1), .val (.double pm), .second, .val (.double pv), .second, .val (.double pf), .second] [(.double pm), (.ref a1)])) _
    exact k)
  obtain ⟨T5, h5, X5, e5, W5, st5⟩ := putF X2 hx hZ hown (host := "") (Or.inl (hw _ (List.mem_of_getElem? (i := 19) rfl))) Via.refl e2 F_0 E_a1 (Or.inr ⟨(hw _ (List.mem_of_getElem? (i := 20) rfl)), rfl, hnaM⟩) (hw _ (List.mem_of_getElem? (i := 5) rfl)) (ty := .double) (by decide) rfl rfl (g := (mkF m 52 #[.val (.ref a1), .val (.double pm), .second, .val (.double pv), .second, .val (.double pf), .second] [(.double pm), (.ref a1)])) rfl rfl (hb hby d1_52)
  have F6 : Fld Z h5 a1 "com/example/pulsewarden/pulsewarden/DelayModel$MeanAndVariance" "meanSeconds" "D" (.double pm) := F_0.same W5
  have F7 : Exa Z h5 a1 "com/example/pulsewarden/pulsewarden/DelayModel$MeanAndVariance" := (E_a1.wr W5)
  have F8 : Fld Z h5 a1 "com/example/pulsewarden/pulsewarden/DelayModel$MeanAndVariance" "varianceSeconds2" "D" (.double (0 : UInt64)) := (F_1.other W5 (Or.inr (slot_ne (Or.inr (hw _ (List.mem_of_getElem? (i := 22) rfl))) (Or.inr (hw _ (List.mem_of_getElem? (i := 20) rfl))) (by decide) (t := .double) (t' := .double) (by decide) (by decide))))
  have F9 : Fld Z h5 a1 "com/example/pulsewarden/pulsewarden/DelayModel$MeanAndVariance" "floorSeconds" "D" (.double (0 : UInt64)) := (F_2.other W5 (Or.inr (slot_ne (Or.inr (hw _ (List.mem_of_getElem? (i := 24) rfl))) (Or.inr (hw _ (List.mem_of_getElem? (i := 20) rfl))) (by decide) (t := .double) (t' := .double) (by decide) (by decide))))
  have N5 := Fr.snoc X5 M2 g_a1
  have K10 : Keep h0 h5 [a1] := K0.wr W5 (Or.inl (List.mem_of_getElem? (i := 0) rfl))
  have c11 : ∀ t, Steps p.tables e below (T5.setTop (mkF m 55 #[.val (.ref a1), .val (.double pm), .second, .val (.double pv), .second, .val (.double pf), .second] [])) t → Steps p.tables e below (s₁.setTop (entryFrame m #[(.ref a1), (.double pm), (.double pv), (.double pf)] 7)) t := fun t k => c4 t (st5 _ k)
  have c12 : ∀ t, Steps p.tables e below (T5.setTop (mkF m 57 #[.val (.ref a1), .val (.double pm), .second, .val (.double pv), .second, .val (.double pf), .second] [(.double pv), (.ref a1)])) t → Steps p.tables e below (s₁.setTop (entryFrame m #[(.ref a1), (.double pm), (.double pv), (.double pf)] 7)) t := fun t k => c11 t (by
    show Steps p.tables e below (T5.setTop (mkF m 55 #[.val (.ref a1), .val (.double pm), .second, .val (.double pv), .second, .val (.double pf), .second] [])) _
    refine XS.aloadN X5.here hx rfl (hb hby d1_55) rfl rfl ?_
    show Steps p.tables e below (T5.setTop (mkF m 56 #[.val (.ref a1), .val (.double pm), .second, .val (.double pv), .second, .val (.double pf), .second] [(.ref a1)])) _
    refine XS.dloadN X5.here hx rfl (hb hby d1_56) rfl ?_
    show Steps p.tables e below (T5.setTop (mkF m 57 #[.val (.ref a1), .val (.double pm), .second, .val (.double pv), .second, .val (.double pf), .second] [(.double pv), (.ref a1)])) _
    exact k)
  obtain ⟨T13, h13, X13, e13, W13, st13⟩ := putF X5 hx hZ hown (host := "") (Or.inl (hw _ (List.mem_of_getElem? (i := 21) rfl))) Via.refl e5 F8 F7 (Or.inr ⟨(hw _ (List.mem_of_getElem? (i := 22) rfl)), rfl, hnaM⟩) (hw _ (List.mem_of_getElem? (i := 5) rfl)) (ty := .double) (by decide) rfl rfl (g := (mkF m 57 #[.val (.ref a1), .val (.double pm), .second, .val (.double pv), .second, .val (.double pf), .second] [(.double pv), (.ref a1)])) rfl rfl (hb hby d1_57)
  have F14 : Fld Z h13 a1 "com/example/pulsewarden/pulsewarden/DelayModel$MeanAndVariance" "varianceSeconds2" "D" (.double pv) := F8.same W13
  have F15 : Exa Z h13 a1 "com/example/pulsewarden/pulsewarden/DelayModel$MeanAndVariance" := (F7.wr W13)
  have F16 : Fld Z h13 a1 "com/example/pulsewarden/pulsewarden/DelayModel$MeanAndVariance" "meanSeconds" "D" (.double pm) := (F6.other W13 (Or.inr (slot_ne (Or.inr (hw _ (List.mem_of_getElem? (i := 20) rfl))) (Or.inr (hw _ (List.mem_of_getElem? (i := 22) rfl))) (by decide) (t := .double) (t' := .double) (by decide) (by decide))))
  have F17 : Fld Z h13 a1 "com/example/pulsewarden/pulsewarden/DelayModel$MeanAndVariance" "floorSeconds" "D" (.double (0 : UInt64)) := (F9.other W13 (Or.inr (slot_ne (Or.inr (hw _ (List.mem_of_getElem? (i := 24) rfl))) (Or.inr (hw _ (List.mem_of_getElem? (i := 22) rfl))) (by decide) (t := .double) (t' := .double) (by decide) (by decide))))
  have N13 := Fr.snoc X13 N5 g_a1
  have K18 : Keep h0 h13 [a1] := K10.wr W13 (Or.inl (List.mem_of_getElem? (i := 0) rfl))
  have c19 : ∀ t, Steps p.tables e below (T13.setTop (mkF m 60 #[.val (.ref a1), .val (.double pm), .second, .val (.double pv), .second, .val (.double pf), .second] [])) t → Steps p.tables e below (s₁.setTop (entryFrame m #[(.ref a1), (.double pm), (.double pv), (.double pf)] 7)) t := fun t k => c12 t (st13 _ k)
  have c20 : ∀ t, Steps p.tables e below (T13.setTop (mkF m 63 #[.val (.ref a1), .val (.double pm), .second, .val (.double pv), .second, .val (.double pf), .second] [(.double pf), (.ref a1)])) t → Steps p.tables e below (s₁.setTop (entryFrame m #[(.ref a1), (.double pm), (.double pv), (.double pf)] 7)) t := fun t k => c19 t (by
    show Steps p.tables e below (T13.setTop (mkF m 60 #[.val (.ref a1), .val (.double pm), .second, .val (.double pv), .second, .val (.double pf), .second] [])) _
    refine XS.aloadN X13.here hx rfl (hb hby d1_60) rfl rfl ?_
    show Steps p.tables e below (T13.setTop (mkF m 61 #[.val (.ref a1), .val (.double pm), .second, .val (.double pv), .second, .val (.double pf), .second] [(.ref a1)])) _
    refine XS.dload X13.here hx rfl (hb hby d1_61) rfl ?_
    show Steps p.tables e below (T13.setTop (mkF m 63 #[.val (.ref a1), .val (.double pm), .second, .val (.double pv), .second, .val (.double pf), .second] [(.double pf), (.ref a1)])) _
    exact k)
  obtain ⟨T21, h21, X21, e21, W21, st21⟩ := putF X13 hx hZ hown (host := "") (Or.inl (hw _ (List.mem_of_getElem? (i := 23) rfl))) Via.refl e13 F17 F15 (Or.inr ⟨(hw _ (List.mem_of_getElem? (i := 24) rfl)), rfl, hnaM⟩) (hw _ (List.mem_of_getElem? (i := 5) rfl)) (ty := .double) (by decide) rfl rfl (g := (mkF m 63 #[.val (.ref a1), .val (.double pm), .second, .val (.double pv), .second, .val (.double pf), .second] [(.double pf), (.ref a1)])) rfl rfl (hb hby d1_63)
  have F22 : Fld Z h21 a1 "com/example/pulsewarden/pulsewarden/DelayModel$MeanAndVariance" "floorSeconds" "D" (.double pf) := F17.same W21
  have F23 : Exa Z h21 a1 "com/example/pulsewarden/pulsewarden/DelayModel$MeanAndVariance" := (F15.wr W21)
  have F24 : Fld Z h21 a1 "com/example/pulsewarden/pulsewarden/DelayModel$MeanAndVariance" "meanSeconds" "D" (.double pm) := (F16.other W21 (Or.inr (slot_ne (Or.inr (hw _ (List.mem_of_getElem? (i := 20) rfl))) (Or.inr (hw _ (List.mem_of_getElem? (i := 24) rfl))) (by decide) (t := .double) (t' := .double) (by decide) (by decide))))
  have F25 : Fld Z h21 a1 "com/example/pulsewarden/pulsewarden/DelayModel$MeanAndVariance" "varianceSeconds2" "D" (.double pv) := (F14.other W21 (Or.inr (slot_ne (Or.inr (hw _ (List.mem_of_getElem? (i := 22) rfl))) (Or.inr (hw _ (List.mem_of_getElem? (i := 24) rfl))) (by decide) (t := .double) (t' := .double) (by decide) (by decide))))
  have N21 := Fr.snoc X21 N13 g_a1
  have K26 : Keep h0 h21 [a1] := K18.wr W21 (Or.inl (List.mem_of_getElem? (i := 0) rfl))
  have c27 : ∀ t, Steps p.tables e below (T21.setTop (mkF m 66 #[.val (.ref a1), .val (.double pm), .second, .val (.double pv), .second, .val (.double pf), .second] [])) t → Steps p.tables e below (s₁.setTop (entryFrame m #[(.ref a1), (.double pm), (.double pv), (.double pf)] 7)) t := fun t k => c20 t (st21 _ k)
  obtain ⟨fs, hr, hrun, hended, hW, hsame⟩ := X21.leave (v := none) (fun _ => rfl)
  refine ⟨_, _, pre0 _ (c27 _ (X21.returnOut hx Bd.returns (hb hby d1_66) hr)), hrun, hended, _, _, rfl, ?_, ⟨_, rfl⟩, hW, hsame.mono (by decide) (by decide)⟩
  show Q_1 Z a1 pm pv pf h0 n0 _ T21.heap _
  rw [e21]
  exact ⟨rfl, N21, K26, F23, F24, F25, F22⟩
theorem sq_le {x : Int} {k : Nat} (h0 : 0 ≤ x) (h1 : x ≤ 2 ^ k) : 0 ≤ x * x ∧ x * x ≤ 2 ^ (k + k) := by
  refine ⟨Int.mul_nonneg h0 h0, ?_⟩
  rw [Int.pow_add]; exact Int.mul_le_mul h1 h1 h0 (Int.le_of_lt (pow_pos k))
theorem d4_0 : decode prog_15_method_5_code 0 = .ok (.dload_n 1, 1) := by decide +kernel
theorem d4_1 : decode prog_15_method_5_code 1 = .ok (.aload_n 0, 1) := by decide +kernel
theorem d4_2 : decode prog_15_method_5_code 2 = .ok (.getfield 29, 3) := by decide +kernel
theorem d4_5 : decode prog_15_method_5_code 5 = .ok (.dcmp .g, 1) := by decide +kernel
theorem d4_6 : decode prog_15_method_5_code 6 = .ok (.ifCond .ge 5, 3) := by decide +kernel
theorem d4_9 : decode prog_15_method_5_code 9 = .ok (.dconst 1, 1) := by decide +kernel
theorem d4_10 : decode prog_15_method_5_code 10 = .ok (.dreturn, 1) := by decide +kernel
theorem d4_11 : decode prog_15_method_5_code 11 = .ok (.dload_n 1, 1) := by decide +kernel
theorem d4_12 : decode prog_15_method_5_code 12 = .ok (.aload_n 0, 1) := by decide +kernel
theorem d4_13 : decode prog_15_method_5_code 13 = .ok (.getfield 20, 3) := by decide +kernel
theorem d4_16 : decode prog_15_method_5_code 16 = .ok (.dcmp .l, 1) := by decide +kernel
theorem d4_17 : decode prog_15_method_5_code 17 = .ok (.ifCond .lt 5, 3) := by decide +kernel
theorem d4_20 : decode prog_15_method_5_code 20 = .ok (.dconst 0, 1) := by decide +kernel
theorem d4_21 : decode prog_15_method_5_code 21 = .ok (.dreturn, 1) := by decide +kernel
theorem d4_22 : decode prog_15_method_5_code 22 = .ok (.aload_n 0, 1) := by decide +kernel
theorem d4_23 : decode prog_15_method_5_code 23 = .ok (.getfield 20, 3) := by decide +kernel
theorem d4_26 : decode prog_15_method_5_code 26 = .ok (.dload_n 1, 1) := by decide +kernel
theorem d4_27 : decode prog_15_method_5_code 27 = .ok (.dsub, 1) := by decide +kernel
theorem d4_28 : decode prog_15_method_5_code 28 = .ok (.dstore_n 3, 1) := by decide +kernel
theorem d4_29 : decode prog_15_method_5_code 29 = .ok (.dload_n 3, 1) := by decide +kernel
theorem d4_30 : decode prog_15_method_5_code 30 = .ok (.dload_n 3, 1) := by decide +kernel
theorem d4_31 : decode prog_15_method_5_code 31 = .ok (.dmul, 1) := by decide +kernel
theorem d4_32 : decode prog_15_method_5_code 32 = .ok (.aload_n 0, 1) := by decide +kernel
theorem d4_33 : decode prog_15_method_5_code 33 = .ok (.getfield 26, 3) := by decide +kernel
theorem d4_36 : decode prog_15_method_5_code 36 = .ok (.dload_n 3, 1) := by decide +kernel
theorem d4_37 : decode prog_15_method_5_code 37 = .ok (.dload_n 3, 1) := by decide +kernel
theorem d4_38 : decode prog_15_method_5_code 38 = .ok (.dmul, 1) := by decide +kernel
theorem d4_39 : decode prog_15_method_5_code 39 = .ok (.dadd, 1) := by decide +kernel
theorem d4_40 : decode prog_15_method_5_code 40 = .ok (.ddiv, 1) := by decide +kernel
theorem d4_41 : decode prog_15_method_5_code 41 = .ok (.dreturn, 1) := by decide +kernel
theorem ef_4 (m : MethodId) (a1 : Addr) (ps : UInt64) (pm : UInt64) (pv : UInt64) (pf : UInt64) (pr : UInt64) (T_ M_ V_ F_ : Int) : entryFrame m #[(.ref a1), (.double ps)] 5 = (mkF m 0 #[.val (.ref a1), .val (.double ps), .second, .unset, .unset] []) := by first | (simp [entryFrame, mkF, argsToLocals, Value.category]; done) | rfl
def Q_4 (Z : State) (a1 : Addr) (ps : UInt64) (pm : UInt64) (pv : UInt64) (pf : UInt64) (pr : UInt64) (T_ M_ V_ F_ : Int) (h0 : Heap) (n0 : Nat) (v : Option Value) (h : Heap) (L : List Loc) : Prop := v = some (.double pr) ∧ Fr n0 L ∧ h = h0
set_option maxRecDepth 65536 in
set_option maxHeartbeats 2000000 in
theorem rm_4 (l : Launch) (Z : State) (a0 : Array Value) (hw : ∀ d ∈ tables_1, d.before a0 Z = true) (ws : List Jvm.Cond) (a1 : Addr) (ps : UInt64) (pm : UInt64) (pv : UInt64) (pf : UInt64) (pr : UInt64) (T_ M_ V_ F_ : Int) (h0 : Heap) (n0 : Nat) (Z0 : n0 ≤ h0.size) (G_0 : Fld Z h0 a1 "com/example/pulsewarden/pulsewarden/DelayModel$MeanAndVariance" "meanSeconds" "D" (.double pm)) (G_1 : Fld Z h0 a1 "com/example/pulsewarden/pulsewarden/DelayModel$MeanAndVariance" "varianceSeconds2" "D" (.double pv)) (G_2 : Fld Z h0 a1 "com/example/pulsewarden/pulsewarden/DelayModel$MeanAndVariance" "floorSeconds" "D" (.double pf)) (ds : DS T_ 0 ps) (dm : DS M_ 0 pm) (dv : DS V_ 0 pv) (df : DS F_ 0 pf) (bs : M_ - 2 ^ 21 ≤ F_) (bv : 0 ≤ V_ ∧ V_ ≤ 2 ^ 28) (r1 : T_ < F_ → pr = FP.dconst1) (r2 : ¬ T_ < F_ → ¬ T_ < M_ → pr = FP.dconst0) (r3 : ∀ a b : UInt64, ¬ T_ < F_ → T_ < M_ → DS ((M_ - T_) * (M_ - T_)) 0 a → DS (V_ + (M_ - T_) * (M_ - T_)) 0 b → pr = FP.ddiv a b) :
    MetFree l (⟨"com/example/pulsewarden/pulsewarden/DelayModel$MeanAndVariance", "leastTail", "(D)D"⟩ : MethodName) (head1 (Jvm.Cond.code (⟨"com/example/pulsewarden/pulsewarden/DelayModel$MeanAndVariance", "leastTail", "(D)D"⟩ : MethodName) prog_15_method_5_code 5 (some .double) :: ws) ({ frames := 0, cells := 0, slots := 0, locals := 0 } : Room)) (fun aa UU => aa = #[(.ref a1), (.double ps)] ∧ Z.Warmed39 UU.vm ∧ UU.heap = h0) (fun _ _ _ _ _ => True) (fun _ UU oo UU' => ∃ v L, oo = .returned v ∧ Q_4 Z a1 ps pm pv pf pr T_ M_ V_ F_ h0 n0 v UU'.heap L ∧ FrameEnd UU oo UU' L ({ frames := 0, cells := 0, slots := 0, locals := 0 } : Room).cells ({ frames := 0, cells := 0, slots := 0, locals := 0 } : Room).slots) := by
  refine MetFree.of_bodySF (plainFor_of_name pn_com_example_pulsewarden_pulsewarden_DelayModel_MeanAndVariance) hisR ?_
  intro p e s m args below meth c s₁ Bd hml0 hP hK
  obtain ⟨rfl, hZ, hh⟩ := hP
  have hx := Bd.exec
  have hby := Bd.bytes
  have hml : c.maxLocals = 5 := hml0
  have hown : s.vm.findClass "com/example/pulsewarden/pulsewarden/DelayModel$MeanAndVariance" = some m.cls := findClass_of_methodNamed Bd.named
  have hnaM := (name_of_methodNamed Bd.named Bd.method).1
  have X0 : Stand p l e ({ frames := 0, cells := 0, slots := 0, locals := 0 } : Room) s m #[(.ref a1), (.double ps)] below meth c s₁ [] 0 0 := Stand.of_body Bd
  have e0 : s₁.heap = h0 := by rw [← hh, Bd.state]; rfl
  have N0 := Fr.nil n0
  have pre0 : ∀ t, Steps p.tables e below (s₁.setTop (entryFrame m #[(.ref a1), (.double ps)] 5)) t → Steps p.tables e below (s₁.setTop (entryFrame m #[(.ref a1), (.double ps)] 5)) t := fun t k => k
  have c0 : ∀ t, Steps p.tables e below (s₁.setTop (mkF m 0 #[.val (.ref a1), .val (.double ps), .second, .unset, .unset] [])) t → Steps p.tables e below (s₁.setTop (entryFrame m #[(.ref a1), (.double ps)] 5)) t := fun t k => castTop (ef_4 m a1 ps pm pv pf pr T_ M_ V_ F_) k
  have c1 : ∀ t, Steps p.tables e below (s₁.setTop (mkF m 2 #[.val (.ref a1), .val (.double ps), .second, .unset, .unset] [(.ref a1), (.double ps)])) t → Steps p.tables e below (s₁.setTop (entryFrame m #[(.ref a1), (.double ps)] 5)) t := fun t k => c0 t (by
    show Steps p.tables e below (s₁.setTop (mkF m 0 #[.val (.ref a1), .val (.double ps), .second, .unset, .unset] [])) _
    refine XS.dloadN X0.here hx rfl (hb hby d4_0) rfl ?_
    show Steps p.tables e below (s₁.setTop (mkF m 1 #[.val (.ref a1), .val (.double ps), .second, .unset, .unset] [(.double ps)])) _
    refine XS.aloadN X0.here hx rfl (hb hby d4_1) rfl rfl ?_
    show Steps p.tables e below (s₁.setTop (mkF m 2 #[.val (.ref a1), .val (.double ps), .second, .unset, .unset] [(.ref a1), (.double ps)])) _
    exact k)
  obtain ⟨T2, X2, e2, st2⟩ := getF X0 hx hZ hown (host := "") (Or.inl (hw _ (List.mem_of_getElem? (i := 23) rfl))) Via.refl e0 G_2 (g := (mkF m 2 #[.val (.ref a1), .val (.double ps), .second, .unset, .unset] [(.ref a1), (.double ps)])) rfl rfl (hb hby d4_2)
  have c3 : ∀ t, Steps p.tables e below (T2.setTop (mkF m 5 #[.val (.ref a1), .val (.double ps), .second, .unset, .unset] [(.double pf), (.double ps)])) t → Steps p.tables e below (s₁.setTop (entryFrame m #[(.ref a1), (.double ps)] 5)) t := fun t k => c1 t (st2 _ k)
  obtain ⟨k5, hk5⟩ : ∃ v : Int32, cmpValue (FP.dcmp ps pf) .g = v := ⟨_, rfl⟩
  have c5 := ds.cmp df .g
  rw [hk5] at c5
  have kv5 : k5 < 0 ↔ T_ < F_ := by
    rw [c5]; split
    · exact ⟨fun _ => by assumption, fun _ => by decide⟩
    · split
      · exact ⟨fun h => absurd h (by decide), fun h => absurd h (by assumption)⟩
      · exact ⟨fun h => absurd h (by decide), fun h => absurd h (by assumption)⟩
  have c4 : ∀ t, Steps p.tables e below (T2.setTop (mkF m 6 #[.val (.ref a1), .val (.double ps), .second, .unset, .unset] [(.int k5)])) t → Steps p.tables e below (s₁.setTop (entryFrame m #[(.ref a1), (.double ps)] 5)) t := fun t k => c3 t (by
    show Steps p.tables e below (T2.setTop (mkF m 5 #[.val (.ref a1), .val (.double ps), .second, .unset, .unset] [(.double pf), (.double ps)])) _
    refine XS.dcmpS X2.here hx rfl (hb hby d4_5) rfl hk5 ?_
    show Steps p.tables e below (T2.setTop (mkF m 6 #[.val (.ref a1), .val (.double ps), .second, .unset, .unset] [(.int k5)])) _
    exact k)
  by_cases hq : k5 < 0
  · skip
    have hq' := kv5.mp hq
    have c5 : ∀ t, Steps p.tables e below (T2.setTop (mkF m 10 #[.val (.ref a1), .val (.double ps), .second, .unset, .unset] [(.double FP.dconst1)])) t → Steps p.tables e below (s₁.setTop (entryFrame m #[(.ref a1), (.double ps)] 5)) t := fun t k => c4 t (by
      show Steps p.tables e below (T2.setTop (mkF m 6 #[.val (.ref a1), .val (.double ps), .second, .unset, .unset] [(.int k5)])) _
      refine XS.ifNo X2.here hx rfl (hb hby d4_6) rfl (XT.i0_ge_f hq) ?_
      show Steps p.tables e below (T2.setTop (mkF m 9 #[.val (.ref a1), .val (.double ps), .second, .unset, .unset] [])) _
      refine XS.dconst1 X2.here hx rfl (hb hby d4_9) rfl ?_
      show Steps p.tables e below (T2.setTop (mkF m 10 #[.val (.ref a1), .val (.double ps), .second, .unset, .unset] [(.double FP.dconst1)])) _
      exact k)
    obtain ⟨fs, hr, hrun, hended, hW, hsame⟩ := X2.leave (v := (some (.double FP.dconst1))) (fun h => by rw [Bd.returns] at h; cases h)
    refine ⟨_, _, pre0 _ (c5 _ (retOut X2 hx (t := .double) (i := .dreturn) Bd.returns rfl (Or.inr (Or.inr (Or.inl ⟨rfl, rfl, _, rfl⟩))) (hb hby d4_10) hr)), hrun, hended, _, _, rfl, ?_, ⟨_, rfl⟩, hW, hsame.mono (by decide) (by decide)⟩
    show Q_4 Z a1 ps pm pv pf pr T_ M_ V_ F_ h0 n0 _ T2.heap _
    rw [e2]
    exact ⟨by rw [r1 hq'], N0, rfl⟩
  · skip
    have hq' : ¬ T_ < F_ := fun q => hq (kv5.mpr q)
    have c6 : ∀ t, Steps p.tables e below (T2.setTop (mkF m 13 #[.val (.ref a1), .val (.double ps), .second, .unset, .unset] [(.ref a1), (.double ps)])) t → Steps p.tables e below (s₁.setTop (entryFrame m #[(.ref a1), (.double ps)] 5)) t := fun t k => c4 t (by
      show Steps p.tables e below (T2.setTop (mkF m 6 #[.val (.ref a1), .val (.double ps), .second, .unset, .unset] [(.int k5)])) _
      refine XS.ifYes X2.here hx rfl (pc0 := 6) (pc' := 11) rfl (hb hby d4_6) rfl (XT.i0_ge_t hq) (by decide) (by decide) ?_
      show Steps p.tables e below (T2.setTop (mkF m 11 #[.val (.ref a1), .val (.double ps), .second, .unset, .unset] [])) _
      refine XS.dloadN X2.here hx rfl (hb hby d4_11) rfl ?_
      show Steps p.tables e below (T2.setTop (mkF m 12 #[.val (.ref a1), .val (.double ps), .second, .unset, .unset] [(.double ps)])) _
      refine XS.aloadN X2.here hx rfl (hb hby d4_12) rfl rfl ?_
      show Steps p.tables e below (T2.setTop (mkF m 13 #[.val (.ref a1), .val (.double ps), .second, .unset, .unset] [(.ref a1), (.double ps)])) _
      exact k)
    obtain ⟨T7, X7, e7, st7⟩ := getF X2 hx hZ hown (host := "") (Or.inl (hw _ (List.mem_of_getElem? (i := 19) rfl))) Via.refl e2 G_0 (g := (mkF m 13 #[.val (.ref a1), .val (.double ps), .second, .unset, .unset] [(.ref a1), (.double ps)])) rfl rfl (hb hby d4_13)
    have c8 : ∀ t, Steps p.tables e below (T7.setTop (mkF m 16 #[.val (.ref a1), .val (.double ps), .second, .unset, .unset] [(.double pm), (.double ps)])) t → Steps p.tables e below (s₁.setTop (entryFrame m #[(.ref a1), (.double ps)] 5)) t := fun t k => c6 t (st7 _ k)
    obtain ⟨k16, hk16⟩ : ∃ v : Int32, cmpValue (FP.dcmp ps pm) .l = v := ⟨_, rfl⟩
    have c16 := ds.cmp dm .l
    rw [hk16] at c16
    have kv16 : k16 < 0 ↔ T_ < M_ := by
      rw [c16]; split
      · exact ⟨fun _ => by assumption, fun _ => by decide⟩
      · split
        · exact ⟨fun h => absurd h (by decide), fun h => absurd h (by assumption)⟩
        · exact ⟨fun h => absurd h (by decide), fun h => absurd h (by assumption)⟩
    have c9 : ∀ t, Steps p.tables e below (T7.setTop (mkF m 17 #[.val (.ref a1), .val (.double ps), .second, .unset, .unset] [(.int k16)])) t → Steps p.tables e below (s₁.setTop (entryFrame m #[(.ref a1), (.double ps)] 5)) t := fun t k => c8 t (by
      show Steps p.tables e below (T7.setTop (mkF m 16 #[.val (.ref a1), .val (.double ps), .second, .unset, .unset] [(.double pm), (.double ps)])) _
      refine XS.dcmpS X7.here hx rfl (hb hby d4_16) rfl hk16 ?_
      show Steps p.tables e below (T7.setTop (mkF m 17 #[.val (.ref a1), .val (.double ps), .second, .unset, .unset] [(.int k16)])) _
      exact k)
    by_cases hp : k16 < 0
    · skip
      have hp' := kv16.mp hp
      have b1 : 0 ≤ M_ - T_ ∧ M_ - T_ ≤ 2 ^ 21 := by omega
      have b2 := sq_le b1.1 b1.2
      have c10 : ∀ t, Steps p.tables e below (T7.setTop (mkF m 23 #[.val (.ref a1), .val (.double ps), .second, .unset, .unset] [(.ref a1)])) t → Steps p.tables e below (s₁.setTop (entryFrame m #[(.ref a1), (.double ps)] 5)) t := fun t k => c9 t (by
        show Steps p.tables e below (T7.setTop (mkF m 17 #[.val (.ref a1), .val (.double ps), .second, .unset, .unset] [(.int k16)])) _
        refine XS.ifYes X7.here hx rfl (pc0 := 17) (pc' := 22) rfl (hb hby d4_17) rfl (XT.i0_lt_t hp) (by decide) (by decide) ?_
        show Steps p.tables e below (T7.setTop (mkF m 22 #[.val (.ref a1), .val (.double ps), .second, .unset, .unset] [])) _
        refine XS.aloadN X7.here hx rfl (hb hby d4_22) rfl rfl ?_
        show Steps p.tables e below (T7.setTop (mkF m 23 #[.val (.ref a1), .val (.double ps), .second, .unset, .unset] [(.ref a1)])) _
        exact k)
      obtain ⟨T11, X11, e11, st11⟩ := getF X7 hx hZ hown (host := "") (Or.inl (hw _ (List.mem_of_getElem? (i := 19) rfl))) Via.refl e7 G_0 (g := (mkF m 23 #[.val (.ref a1), .val (.double ps), .second, .unset, .unset] [(.ref a1)])) rfl rfl (hb hby d4_23)
      have c12 : ∀ t, Steps p.tables e below (T11.setTop (mkF m 26 #[.val (.ref a1), .val (.double ps), .second, .unset, .unset] [(.double pm)])) t → Steps p.tables e below (s₁.setTop (entryFrame m #[(.ref a1), (.double ps)] 5)) t := fun t k => c10 t (st11 _ k)
      obtain ⟨d27, hd27⟩ : ∃ v : UInt64, FP.dsub pm ps = v := ⟨_, rfl⟩
      have d27' : DS (M_ - T_) 0 d27 := hd27 ▸ dm.sub ds (by omega) (by decide)
      obtain ⟨d31, hd31⟩ : ∃ v : UInt64, FP.dmul d27 d27 = v := ⟨_, rfl⟩
      have d31' : DS ((M_ - T_) * (M_ - T_)) 0 d31 := hd31 ▸ d27'.mul d27' (by omega) (by decide)
      have c13 : ∀ t, Steps p.tables e below (T11.setTop (mkF m 33 #[.val (.ref a1), .val (.double ps), .second, .val (.double d27), .second] [(.ref a1), (.double d31)])) t → Steps p.tables e below (s₁.setTop (entryFrame m #[(.ref a1), (.double ps)] 5)) t := fun t k => c12 t (by
        show Steps p.tables e below (T11.setTop (mkF m 26 #[.val (.ref a1), .val (.double ps), .second, .unset, .unset] [(.double pm)])) _
        refine XS.dloadN X11.here hx rfl (hb hby d4_26) rfl ?_
        show Steps p.tables e below (T11.setTop (mkF m 27 #[.val (.ref a1), .val (.double ps), .second, .unset, .unset] [(.double ps), (.double pm)])) _
        refine XS.dsubS X11.here hx rfl (hb hby d4_27) rfl (hd27 ▸ d27'.noNaN) hd27 ?_
        show Steps p.tables e below (T11.setTop (mkF m 28 #[.val (.ref a1), .val (.double ps), .second, .unset, .unset] [(.double d27)])) _
        refine XS.dstoreN X11.here hx rfl (hb hby d4_28) rfl (l' := #[.val (.ref a1), .val (.double ps), .second, .val (.double d27), .second]) rfl ?_
        show Steps p.tables e below (T11.setTop (mkF m 29 #[.val (.ref a1), .val (.double ps), .second, .val (.double d27), .second] [])) _
        refine XS.dloadN X11.here hx rfl (hb hby d4_29) rfl ?_
        show Steps p.tables e below (T11.setTop (mkF m 30 #[.val (.ref a1), .val (.double ps), .second, .val (.double d27), .second] [(.double d27)])) _
        refine XS.dloadN X11.here hx rfl (hb hby d4_30) rfl ?_
        show Steps p.tables e below (T11.setTop (mkF m 31 #[.val (.ref a1), .val (.double ps), .second, .val (.double d27), .second] [(.double d27), (.double d27)])) _
        refine XS.dmulS X11.here hx rfl (hb hby d4_31) rfl (hd31 ▸ d31'.noNaN) hd31 ?_
        show Steps p.tables e below (T11.setTop (mkF m 32 #[.val (.ref a1), .val (.double ps), .second, .val (.double d27), .second] [(.double d31)])) _
        refine XS.aloadN X11.here hx rfl (hb hby d4_32) rfl rfl ?_
        show Steps p.tables e below (T11.setTop (mkF m 33 #[.val (.ref a1), .val (.double ps), .second, .val (.double d27), .second] [(.ref a1), (.double d31)])) _
        exact k)
      obtain ⟨T14, X14, e14, st14⟩ := getF X11 hx hZ hown (host := "") (Or.inl (hw _ (List.mem_of_getElem? (i := 21) rfl))) Via.refl e11 G_1 (g := (mkF m 33 #[.val (.ref a1), .val (.double ps), .second, .val (.double d27), .second] [(.ref a1), (.double d31)])) rfl rfl (hb hby d4_33)
      have c15 : ∀ t, Steps p.tables e below (T14.setTop (mkF m 36 #[.val (.ref a1), .val (.double ps), .second, .val (.double d27), .second] [(.double pv), (.double d31)])) t → Steps p.tables e below (s₁.setTop (entryFrame m #[(.ref a1), (.double ps)] 5)) t := fun t k => c13 t (st14 _ k)
      obtain ⟨d38, hd38⟩ : ∃ v : UInt64, FP.dmul d27 d27 = v := ⟨_, rfl⟩
      have d38' : DS ((M_ - T_) * (M_ - T_)) 0 d38 := hd38 ▸ d27'.mul d27' (by omega) (by decide)
      obtain ⟨d39, hd39⟩ : ∃ v : UInt64, FP.dadd pv d38 = v := ⟨_, rfl⟩
      have d39' : DS (V_ + (M_ - T_) * (M_ - T_)) 0 d39 := hd39 ▸ dv.add d38' (by omega) (by decide)
      obtain ⟨d40, hd40⟩ : ∃ v : UInt64, FP.ddiv d31 d39 = v := ⟨_, rfl⟩
      have sq1 : 0 < (M_ - T_) * (M_ - T_) := Int.mul_pos (by omega) (by omega)
      have c16 : ∀ t, Steps p.tables e below (T14.setTop (mkF m 41 #[.val (.ref a1), .val (.double ps), .second, .val (.double d27), .second] [(.double d40)])) t → Steps p.tables e below (s₁.setTop (entryFrame m #[(.ref a1), (.double ps)] 5)) t := fun t k => c15 t (by
        show Steps p.tables e below (T14.setTop (mkF m 36 #[.val (.ref a1), .val (.double ps), .second, .val (.double d27), .second] [(.double pv), (.double d31)])) _
        refine XS.dloadN X14.here hx rfl (hb hby d4_36) rfl ?_
        show Steps p.tables e below (T14.setTop (mkF m 37 #[.val (.ref a1), .val (.double ps), .second, .val (.double d27), .second] [(.double d27), (.double pv), (.double d31)])) _
        refine XS.dloadN X14.here hx rfl (hb hby d4_37) rfl ?_
        show Steps p.tables e below (T14.setTop (mkF m 38 #[.val (.ref a1), .val (.double ps), .second, .val (.double d27), .second] [(.double d27), (.double d27), (.double pv), (.double d31)])) _
        refine XS.dmulS X14.here hx rfl (hb hby d4_38) rfl (hd38 ▸ d38'.noNaN) hd38 ?_
        show Steps p.tables e below (T14.setTop (mkF m 39 #[.val (.ref a1), .val (.double ps), .second, .val (.double d27), .second] [(.double d38), (.double pv), (.double d31)])) _
        refine XS.daddS X14.here hx rfl (hb hby d4_39) rfl (hd39 ▸ d39'.noNaN) hd39 ?_
        show Steps p.tables e below (T14.setTop (mkF m 40 #[.val (.ref a1), .val (.double ps), .second, .val (.double d27), .second] [(.double d39), (.double d31)])) _
        refine XS.ddivS X14.here hx rfl (hb hby d4_40) rfl (noNaN_of (ddiv_nn d31'.1 d39'.1 (d39'.pos (by omega)))) hd40 ?_
        show Steps p.tables e below (T14.setTop (mkF m 41 #[.val (.ref a1), .val (.double ps), .second, .val (.double d27), .second] [(.double d40)])) _
        exact k)
      obtain ⟨fs, hr, hrun, hended, hW, hsame⟩ := X14.leave (v := (some (.double d40))) (fun h => by rw [Bd.returns] at h; cases h)
      refine ⟨_, _, pre0 _ (c16 _ (retOut X14 hx (t := .double) (i := .dreturn) Bd.returns rfl (Or.inr (Or.inr (Or.inl ⟨rfl, rfl, _, rfl⟩))) (hb hby d4_41) hr)), hrun, hended, _, _, rfl, ?_, ⟨_, rfl⟩, hW, hsame.mono (by decide) (by decide)⟩
      show Q_4 Z a1 ps pm pv pf pr T_ M_ V_ F_ h0 n0 _ T14.heap _
      rw [e14]
      exact ⟨by rw [r3 _ _ hq' hp' d31' d39', hd40], N0, rfl⟩
    · skip
      have hp' : ¬ T_ < M_ := fun q => hp (kv16.mpr q)
      have c17 : ∀ t, Steps p.tables e below (T7.setTop (mkF m 21 #[.val (.ref a1), .val (.double ps), .second, .unset, .unset] [(.double FP.dconst0)])) t → Steps p.tables e below (s₁.setTop (entryFrame m #[(.ref a1), (.double ps)] 5)) t := fun t k => c9 t (by
        show Steps p.tables e below (T7.setTop (mkF m 17 #[.val (.ref a1), .val (.double ps), .second, .unset, .unset] [(.int k16)])) _
        refine XS.ifNo X7.here hx rfl (hb hby d4_17) rfl (XT.i0_lt_f hp) ?_
        show Steps p.tables e below (T7.setTop (mkF m 20 #[.val (.ref a1), .val (.double ps), .second, .unset, .unset] [])) _
        refine XS.dconst0 X7.here hx rfl (hb hby d4_20) rfl ?_
        show Steps p.tables e below (T7.setTop (mkF m 21 #[.val (.ref a1), .val (.double ps), .second, .unset, .unset] [(.double FP.dconst0)])) _
        exact k)
      obtain ⟨fs, hr, hrun, hended, hW, hsame⟩ := X7.leave (v := (some (.double FP.dconst0))) (fun h => by rw [Bd.returns] at h; cases h)
      refine ⟨_, _, pre0 _ (c17 _ (retOut X7 hx (t := .double) (i := .dreturn) Bd.returns rfl (Or.inr (Or.inr (Or.inl ⟨rfl, rfl, _, rfl⟩))) (hb hby d4_21) hr)), hrun, hended, _, _, rfl, ?_, ⟨_, rfl⟩, hW, hsame.mono (by decide) (by decide)⟩
      show Q_4 Z a1 ps pm pv pf pr T_ M_ V_ F_ h0 n0 _ T7.heap _
      rw [e7]
      exact ⟨by rw [r2 hq' hp'], N0, rfl⟩
theorem lt64 {a b : Int64} : a < b ↔ a.toInt < b.toInt := Int64.lt_iff_toInt_lt
theorem rem_k (x m : Int32) {K : Int} (hm : m.toInt = K) (hK : 0 < K) : -K < (x % m).toInt64.toInt ∧ (x % m).toInt64.toInt < K := by
  rw [Kit.i64_of_i32, Kit.i32_rem, hm]
  exact ⟨Int.lt_tmod_of_pos _ hK, Int.tmod_lt_of_pos _ hK⟩
theorem fl_k {mm fl : Int64} {g : Int32} (h1 : -1000000 < mm.toInt) (h2 : mm.toInt < 1000000) (h : fl = mm - (1 : Int64) - (g &&& (1048575 : Int32)).toInt64) : fl.toInt < mm.toInt ∧ mm.toInt - 2 ^ 20 ≤ fl.toInt := by
  have e1 : (1 : Int64).toInt = 1 := by decide
  have e2 := Kit.i32_mask g 1048575 (k := 20) (by decide) (by decide)
  have e3 := Kit.i64_of_i32 (g &&& (1048575 : Int32))
  have e4 := Kit.i64_sub (x := mm) (y := 1) (by omega) (by omega)
  have e5 := Kit.i64_sub (x := mm - 1) (y := (g &&& (1048575 : Int32)).toInt64) (by omega) (by omega)
  rw [h, e5]; omega
theorem va_k {va : Int64} {g : Int32} (h : va = (g &&& (268435455 : Int32)).toInt64) : 0 ≤ va.toInt ∧ va.toInt < 2 ^ 28 := by
  have e2 := Kit.i32_mask g 268435455 (k := 28) (by decide) (by decide)
  have e3 := Kit.i64_of_i32 (g &&& (268435455 : Int32))
  rw [h]; omega
theorem num_k {mm tt ss nu de va : Int64} (h1 : -1000000 < mm.toInt) (h2 : mm.toInt < 1000000) (h3 : tt.toInt < mm.toInt) (h4 : mm.toInt - 2 ^ 20 ≤ tt.toInt) (v1 : 0 ≤ va.toInt) (v2 : va.toInt < 2 ^ 28) (hs : ss = mm - tt) (hn : nu = ss * ss) (hd : de = va + nu) :
    nu.toInt = (mm.toInt - tt.toInt) * (mm.toInt - tt.toInt) ∧ de.toInt = va.toInt + (mm.toInt - tt.toInt) * (mm.toInt - tt.toInt) ∧ 0 < nu.toInt ∧ nu.toInt ≤ 2 ^ 42 := by
  have e1 : ss.toInt = mm.toInt - tt.toInt := by rw [hs]; exact Kit.i64_sub (by omega) (by omega)
  have b := sq_le (x := mm.toInt - tt.toInt) (k := 21) (by omega) (by omega)
  have c : 0 < (mm.toInt - tt.toInt) * (mm.toInt - tt.toInt) := Int.mul_pos (by omega) (by omega)
  have e2 : nu.toInt = (mm.toInt - tt.toInt) * (mm.toInt - tt.toInt) := by
    rw [hn, Kit.i64_mul (by rw [e1]; omega) (by rw [e1]; omega), e1]
  have e3 : de.toInt = va.toInt + (mm.toInt - tt.toInt) * (mm.toInt - tt.toInt) := by
    rw [hd, Kit.i64_add (by omega) (by omega), e2]
  exact ⟨e2, e3, by omega, by omega⟩
theorem ef_0 (m : MethodId) (p1 : Int32) (p2 : Int32) (p3 : Int32) (p4 : Int32) : entryFrame m #[(.int p1), (.int p2), (.int p3), (.int p4)] maxLocals = (mkF m 0 #[.val (.int p1), .val (.int p2), .val (.int p3), .val (.int p4), .unset, .unset, .unset, .unset, .unset, .unset, .unset, .unset, .unset, .unset, .unset, .unset, .unset, .unset, .unset, .unset, .unset, .unset, .unset] []) := by first | (simp [entryFrame, mkF, argsToLocals, Value.category, maxLocals]; done) | rfl
def Q_0 (Z : State) (p1 : Int32) (p2 : Int32) (p3 : Int32) (p4 : Int32) (h0 : Heap) (n0 : Nat) (v : Option Value) (h : Heap) (L : List Loc) : Prop := v = some (.int 1) ∧ Fr n0 L
set_option maxRecDepth 65536 in
set_option maxHeartbeats 2000000 in
theorem rm_0 (l : Launch) (Z : State) (a0 : Array Value) (hw : ∀ d ∈ tables_1, d.before a0 Z = true) (ws : List Jvm.Cond) (p1 : Int32) (p2 : Int32) (p3 : Int32) (p4 : Int32) (h0 : Heap) (n0 : Nat) (Z0 : n0 ≤ h0.size)  :
    MetFree l x (head1 (Jvm.Cond.code x code maxLocals ret :: ws) room_1) (fun aa UU => aa = #[(.int p1), (.int p2), (.int p3), (.int p4)] ∧ Z.Warmed39 UU.vm ∧ UU.heap = h0) (fun _ _ _ _ _ => True) (fun _ UU oo UU' => ∃ v L, oo = .returned v ∧ Q_0 Z p1 p2 p3 p4 h0 n0 v UU'.heap L ∧ FrameEnd UU oo UU' L 16 128) := by
  refine MetFree.of_bodySF (plainFor_of_name pn_com_example_pulsewarden_pulsewarden_MeanAndVarianceLeastTailPinLaw) hisR ?_
  intro p e s m args below meth c s₁ Bd hml0 hP hK
  obtain ⟨rfl, hZ, hh⟩ := hP
  have hx := Bd.exec
  have hby := Bd.bytes
  have hml : c.maxLocals = 23 := hml0
  have hown : s.vm.findClass "com/example/pulsewarden/pulsewarden/MeanAndVarianceLeastTailPinLaw" = some m.cls := findClass_of_methodNamed Bd.named
  have hnaM := (name_of_methodNamed Bd.named Bd.method).1
  have X0 : Stand p l e room_1 s m #[(.int p1), (.int p2), (.int p3), (.int p4)] below meth c s₁ [] 0 0 := Stand.of_body Bd
  have e0 : s₁.heap = h0 := by rw [← hh, Bd.state]; rfl
  have N0 := Fr.nil n0
  have pre0 : ∀ t, Steps p.tables e below (s₁.setTop (entryFrame m #[(.int p1), (.int p2), (.int p3), (.int p4)] maxLocals)) t → Steps p.tables e below (s₁.setTop (entryFrame m #[(.int p1), (.int p2), (.int p3), (.int p4)] maxLocals)) t := fun t k => k
  have c0 : ∀ t, Steps p.tables e below (s₁.setTop (mkF m 0 #[.val (.int p1), .val (.int p2), .val (.int p3), .val (.int p4), .unset, .unset, .unset, .unset, .unset, .unset, .unset, .unset, .unset, .unset, .unset, .unset, .unset, .unset, .unset, .unset, .unset, .unset, .unset] [])) t → Steps p.tables e below (s₁.setTop (entryFrame m #[(.int p1), (.int p2), (.int p3), (.int p4)] maxLocals)) t := fun t k => castTop (ef_0 m p1 p2 p3 p4) k
  obtain ⟨mm, hmm⟩ : ∃ v : Int64, v = ((p1 % (1000000 : Int32)).toInt64) := ⟨_, rfl⟩
  have c1 : ∀ t, Steps p.tables e below (s₁.setTop (mkF m 7 #[.val (.int p1), .val (.int p2), .val (.int p3), .val (.int p4), .val (.long mm), .second, .unset, .unset, .unset, .unset, .unset, .unset, .unset, .unset, .unset, .unset, .unset, .unset, .unset, .unset, .unset, .unset, .unset] [])) t → Steps p.tables e below (s₁.setTop (entryFrame m #[(.int p1), (.int p2), (.int p3), (.int p4)] maxLocals)) t := fun t k => c0 t (by
    rw [hmm] at k
    show Steps p.tables e below (s₁.setTop (mkF m 0 #[.val (.int p1), .val (.int p2), .val (.int p3), .val (.int p4), .unset, .unset, .unset, .unset, .unset, .unset, .unset, .unset, .unset, .unset, .unset, .unset, .unset, .unset, .unset, .unset, .unset, .unset, .unset] [])) _
    refine XS.iloadN X0.here hx rfl (hb hby at_0) rfl ?_
    show Steps p.tables e below (s₁.setTop (mkF m 1 #[.val (.int p1), .val (.int p2), .val (.int p3), .val (.int p4), .unset, .unset, .unset, .unset, .unset, .unset, .unset, .unset, .unset, .unset, .unset, .unset, .unset, .unset, .unset, .unset, .unset, .unset, .unset] [(.int p1)])) _
    refine Jvm.Stand.ldcI X0 hx hown (mvT hZ (hw _ (List.mem_of_getElem? (i := 0) rfl))) rfl (hb hby at_1) ?_
    show Steps p.tables e below (s₁.setTop (mkF m 3 #[.val (.int p1), .val (.int p2), .val (.int p3), .val (.int p4), .unset, .unset, .unset, .unset, .unset, .unset, .unset, .unset, .unset, .unset, .unset, .unset, .unset, .unset, .unset, .unset, .unset, .unset, .unset] [(.int (1000000 : Int32)), (.int p1)])) _
    refine iremM X0 hx rfl (hb hby at_3) rfl (by decide) ?_
    show Steps p.tables e below (s₁.setTop (mkF m 4 #[.val (.int p1), .val (.int p2), .val (.int p3), .val (.int p4), .unset, .unset, .unset, .unset, .unset, .unset, .unset, .unset, .unset, .unset, .unset, .unset, .unset, .unset, .unset, .unset, .unset, .unset, .unset] [(.int (p1 % (1000000 : Int32)))])) _
    refine XT.i2l X0.here hx rfl (hb hby at_4) rfl ?_
    show Steps p.tables e below (s₁.setTop (mkF m 5 #[.val (.int p1), .val (.int p2), .val (.int p3), .val (.int p4), .unset, .unset, .unset, .unset, .unset, .unset, .unset, .unset, .unset, .unset, .unset, .unset, .unset, .unset, .unset, .unset, .unset, .unset, .unset] [(.long ((p1 % (1000000 : Int32)).toInt64))])) _
    refine XT.lstore X0.here hx rfl (hb hby at_5) rfl (l' := #[.val (.int p1), .val (.int p2), .val (.int p3), .val (.int p4), .val (.long ((p1 % (1000000 : Int32)).toInt64)), .second, .unset, .unset, .unset, .unset, .unset, .unset, .unset, .unset, .unset, .unset, .unset, .unset, .unset, .unset, .unset, .unset, .unset]) rfl ?_
    show Steps p.tables e below (s₁.setTop (mkF m 7 #[.val (.int p1), .val (.int p2), .val (.int p3), .val (.int p4), .val (.long ((p1 % (1000000 : Int32)).toInt64)), .second, .unset, .unset, .unset, .unset, .unset, .unset, .unset, .unset, .unset, .unset, .unset, .unset, .unset, .unset, .unset, .unset, .unset] [])) _
    exact k)
  have m12 := rem_k p1 1000000 (K := 1000000) (by decide) (by decide)
  rw [← hmm] at m12
  obtain ⟨fl, hfl⟩ : ∃ v : Int64, v = ((mm - (1 : Int64)) - ((p2 &&& (1048575 : Int32)).toInt64)) := ⟨_, rfl⟩
  have c2 : ∀ t, Steps p.tables e below (s₁.setTop (mkF m 19 #[.val (.int p1), .val (.int p2), .val (.int p3), .val (.int p4), .val (.long mm), .second, .val (.long fl), .second, .unset, .unset, .unset, .unset, .unset, .unset, .unset, .unset, .unset, .unset, .unset, .unset, .unset, .unset, .unset] [])) t → Steps p.tables e below (s₁.setTop (entryFrame m #[(.int p1), (.int p2), (.int p3), (.int p4)] maxLocals)) t := fun t k => c1 t (by
    rw [hfl] at k
    show Steps p.tables e below (s₁.setTop (mkF m 7 #[.val (.int p1), .val (.int p2), .val (.int p3), .val (.int p4), .val (.long mm), .second, .unset, .unset, .unset, .unset, .unset, .unset, .unset, .unset, .unset, .unset, .unset, .unset, .unset, .unset, .unset, .unset, .unset] [])) _
    refine XT.lload X0.here hx rfl (hb hby at_7) rfl ?_
    show Steps p.tables e below (s₁.setTop (mkF m 9 #[.val (.int p1), .val (.int p2), .val (.int p3), .val (.int p4), .val (.long mm), .second, .unset, .unset, .unset, .unset, .unset, .unset, .unset, .unset, .unset, .unset, .unset, .unset, .unset, .unset, .unset, .unset, .unset] [(.long mm)])) _
    refine XT.lconst X0.here hx rfl (hb hby at_9) ?_
    show Steps p.tables e below (s₁.setTop (mkF m 10 #[.val (.int p1), .val (.int p2), .val (.int p3), .val (.int p4), .val (.long mm), .second, .unset, .unset, .unset, .unset, .unset, .unset, .unset, .unset, .unset, .unset, .unset, .unset, .unset, .unset, .unset, .unset, .unset] [(.long (1 : Int64)), (.long mm)])) _
    refine XT.lsub X0.here hx rfl (hb hby at_10) rfl ?_
    show Steps p.tables e below (s₁.setTop (mkF m 11 #[.val (.int p1), .val (.int p2), .val (.int p3), .val (.int p4), .val (.long mm), .second, .unset, .unset, .unset, .unset, .unset, .unset, .unset, .unset, .unset, .unset, .unset, .unset, .unset, .unset, .unset, .unset, .unset] [(.long (mm - (1 : Int64)))])) _
    refine XS.iloadN X0.here hx rfl (hb hby at_11) rfl ?_
    show Steps p.tables e below (s₁.setTop (mkF m 12 #[.val (.int p1), .val (.int p2), .val (.int p3), .val (.int p4), .val (.long mm), .second, .unset, .unset, .unset, .unset, .unset, .unset, .unset, .unset, .unset, .unset, .unset, .unset, .unset, .unset, .unset, .unset, .unset] [(.int p2), (.long (mm - (1 : Int64)))])) _
    refine Jvm.Stand.ldcI X0 hx hown (mvT hZ (hw _ (List.mem_of_getElem? (i := 1) rfl))) rfl (hb hby at_12) ?_
    show Steps p.tables e below (s₁.setTop (mkF m 14 #[.val (.int p1), .val (.int p2), .val (.int p3), .val (.int p4), .val (.long mm), .second, .unset, .unset, .unset, .unset, .unset, .unset, .unset, .unset, .unset, .unset, .unset, .unset, .unset, .unset, .unset, .unset, .unset] [(.int (1048575 : Int32)), (.int p2), (.long (mm - (1 : Int64)))])) _
    refine XS.iand X0.here hx rfl (hb hby at_14) rfl ?_
    show Steps p.tables e below (s₁.setTop (mkF m 15 #[.val (.int p1), .val (.int p2), .val (.int p3), .val (.int p4), .val (.long mm), .second, .unset, .unset, .unset, .unset, .unset, .unset, .unset, .unset, .unset, .unset, .unset, .unset, .unset, .unset, .unset, .unset, .unset] [(.int (p2 &&& (1048575 : Int32))), (.long (mm - (1 : Int64)))])) _
    refine XT.i2l X0.here hx rfl (hb hby at_15) rfl ?_
    show Steps p.tables e below (s₁.setTop (mkF m 16 #[.val (.int p1), .val (.int p2), .val (.int p3), .val (.int p4), .val (.long mm), .second, .unset, .unset, .unset, .unset, .unset, .unset, .unset, .unset, .unset, .unset, .unset, .unset, .unset, .unset, .unset, .unset, .unset] [(.long ((p2 &&& (1048575 : Int32)).toInt64)), (.long (mm - (1 : Int64)))])) _
    refine XT.lsub X0.here hx rfl (hb hby at_16) rfl ?_
    show Steps p.tables e below (s₁.setTop (mkF m 17 #[.val (.int p1), .val (.int p2), .val (.int p3), .val (.int p4), .val (.long mm), .second, .unset, .unset, .unset, .unset, .unset, .unset, .unset, .unset, .unset, .unset, .unset, .unset, .unset, .unset, .unset, .unset, .unset] [(.long ((mm - (1 : Int64)) - ((p2 &&& (1048575 : Int32)).toInt64)))])) _
    refine XT.lstore X0.here hx rfl (hb hby at_17) rfl (l' := #[.val (.int p1), .val (.int p2), .val (.int p3), .val (.int p4), .val (.long mm), .second, .val (.long ((mm - (1 : Int64)) - ((p2 &&& (1048575 : Int32)).toInt64))), .second, .unset, .unset, .unset, .unset, .unset, .unset, .unset, .unset, .unset, .unset, .unset, .unset, .unset, .unset, .unset]) rfl ?_
    show Steps p.tables e below (s₁.setTop (mkF m 19 #[.val (.int p1), .val (.int p2), .val (.int p3), .val (.int p4), .val (.long mm), .second, .val (.long ((mm - (1 : Int64)) - ((p2 &&& (1048575 : Int32)).toInt64))), .second, .unset, .unset, .unset, .unset, .unset, .unset, .unset, .unset, .unset, .unset, .unset, .unset, .unset, .unset, .unset] [])) _
    exact k)
  have f12 := fl_k m12.1 m12.2 hfl
  obtain ⟨va, hva⟩ : ∃ v : Int64, v = ((p3 &&& (268435455 : Int32)).toInt64) := ⟨_, rfl⟩
  have c3 : ∀ t, Steps p.tables e below (s₁.setTop (mkF m 26 #[.val (.int p1), .val (.int p2), .val (.int p3), .val (.int p4), .val (.long mm), .second, .val (.long fl), .second, .val (.long va), .second, .unset, .unset, .unset, .unset, .unset, .unset, .unset, .unset, .unset, .unset, .unset, .unset, .unset] [])) t → Steps p.tables e below (s₁.setTop (entryFrame m #[(.int p1), (.int p2), (.int p3), (.int p4)] maxLocals)) t := fun t k => c2 t (by
    rw [hva] at k
    show Steps p.tables e below (s₁.setTop (mkF m 19 #[.val (.int p1), .val (.int p2), .val (.int p3), .val (.int p4), .val (.long mm), .second, .val (.long fl), .second, .unset, .unset, .unset, .unset, .unset, .unset, .unset, .unset, .unset, .unset, .unset, .unset, .unset, .unset, .unset] [])) _
    refine XS.iloadN X0.here hx rfl (hb hby at_19) rfl ?_
    show Steps p.tables e below (s₁.setTop (mkF m 20 #[.val (.int p1), .val (.int p2), .val (.int p3), .val (.int p4), .val (.long mm), .second, .val (.long fl), .second, .unset, .unset, .unset, .unset, .unset, .unset, .unset, .unset, .unset, .unset, .unset, .unset, .unset, .unset, .unset] [(.int p3)])) _
    refine Jvm.Stand.ldcI X0 hx hown (mvT hZ (hw _ (List.mem_of_getElem? (i := 2) rfl))) rfl (hb hby at_20) ?_
    show Steps p.tables e below (s₁.setTop (mkF m 22 #[.val (.int p1), .val (.int p2), .val (.int p3), .val (.int p4), .val (.long mm), .second, .val (.long fl), .second, .unset, .unset, .unset, .unset, .unset, .unset, .unset, .unset, .unset, .unset, .unset, .unset, .unset, .unset, .unset] [(.int (268435455 : Int32)), (.int p3)])) _
    refine XS.iand X0.here hx rfl (hb hby at_22) rfl ?_
    show Steps p.tables e below (s₁.setTop (mkF m 23 #[.val (.int p1), .val (.int p2), .val (.int p3), .val (.int p4), .val (.long mm), .second, .val (.long fl), .second, .unset, .unset, .unset, .unset, .unset, .unset, .unset, .unset, .unset, .unset, .unset, .unset, .unset, .unset, .unset] [(.int (p3 &&& (268435455 : Int32)))])) _
    refine XT.i2l X0.here hx rfl (hb hby at_23) rfl ?_
    show Steps p.tables e below (s₁.setTop (mkF m 24 #[.val (.int p1), .val (.int p2), .val (.int p3), .val (.int p4), .val (.long mm), .second, .val (.long fl), .second, .unset, .unset, .unset, .unset, .unset, .unset, .unset, .unset, .unset, .unset, .unset, .unset, .unset, .unset, .unset] [(.long ((p3 &&& (268435455 : Int32)).toInt64))])) _
    refine XT.lstore X0.here hx rfl (hb hby at_24) rfl (l' := #[.val (.int p1), .val (.int p2), .val (.int p3), .val (.int p4), .val (.long mm), .second, .val (.long fl), .second, .val (.long ((p3 &&& (268435455 : Int32)).toInt64)), .second, .unset, .unset, .unset, .unset, .unset, .unset, .unset, .unset, .unset, .unset, .unset, .unset, .unset]) rfl ?_
    show Steps p.tables e below (s₁.setTop (mkF m 26 #[.val (.int p1), .val (.int p2), .val (.int p3), .val (.int p4), .val (.long mm), .second, .val (.long fl), .second, .val (.long ((p3 &&& (268435455 : Int32)).toInt64)), .second, .unset, .unset, .unset, .unset, .unset, .unset, .unset, .unset, .unset, .unset, .unset, .unset, .unset] [])) _
    exact k)
  have v12 := va_k hva
  obtain ⟨tt, htt⟩ : ∃ v : Int64, v = ((p4 % (4000000 : Int32)).toInt64) := ⟨_, rfl⟩
  have c4 : ∀ t, Steps p.tables e below (s₁.setTop (mkF m 33 #[.val (.int p1), .val (.int p2), .val (.int p3), .val (.int p4), .val (.long mm), .second, .val (.long fl), .second, .val (.long va), .second, .val (.long tt), .second, .unset, .unset, .unset, .unset, .unset, .unset, .unset, .unset, .unset, .unset, .unset] [])) t → Steps p.tables e below (s₁.setTop (entryFrame m #[(.int p1), (.int p2), (.int p3), (.int p4)] maxLocals)) t := fun t k => c3 t (by
    rw [htt] at k
    show Steps p.tables e below (s₁.setTop (mkF m 26 #[.val (.int p1), .val (.int p2), .val (.int p3), .val (.int p4), .val (.long mm), .second, .val (.long fl), .second, .val (.long va), .second, .unset, .unset, .unset, .unset, .unset, .unset, .unset, .unset, .unset, .unset, .unset, .unset, .unset] [])) _
    refine XS.iloadN X0.here hx rfl (hb hby at_26) rfl ?_
    show Steps p.tables e below (s₁.setTop (mkF m 27 #[.val (.int p1), .val (.int p2), .val (.int p3), .val (.int p4), .val (.long mm), .second, .val (.long fl), .second, .val (.long va), .second, .unset, .unset, .unset, .unset, .unset, .unset, .unset, .unset, .unset, .unset, .unset, .unset, .unset] [(.int p4)])) _
    refine Jvm.Stand.ldcI X0 hx hown (mvT hZ (hw _ (List.mem_of_getElem? (i := 3) rfl))) rfl (hb hby at_27) ?_
    show Steps p.tables e below (s₁.setTop (mkF m 29 #[.val (.int p1), .val (.int p2), .val (.int p3), .val (.int p4), .val (.long mm), .second, .val (.long fl), .second, .val (.long va), .second, .unset, .unset, .unset, .unset, .unset, .unset, .unset, .unset, .unset, .unset, .unset, .unset, .unset] [(.int (4000000 : Int32)), (.int p4)])) _
    refine iremM X0 hx rfl (hb hby at_29) rfl (by decide) ?_
    show Steps p.tables e below (s₁.setTop (mkF m 30 #[.val (.int p1), .val (.int p2), .val (.int p3), .val (.int p4), .val (.long mm), .second, .val (.long fl), .second, .val (.long va), .second, .unset, .unset, .unset, .unset, .unset, .unset, .unset, .unset, .unset, .unset, .unset, .unset, .unset] [(.int (p4 % (4000000 : Int32)))])) _
    refine XT.i2l X0.here hx rfl (hb hby at_30) rfl ?_
    show Steps p.tables e below (s₁.setTop (mkF m 31 #[.val (.int p1), .val (.int p2), .val (.int p3), .val (.int p4), .val (.long mm), .second, .val (.long fl), .second, .val (.long va), .second, .unset, .unset, .unset, .unset, .unset, .unset, .unset, .unset, .unset, .unset, .unset, .unset, .unset] [(.long ((p4 % (4000000 : Int32)).toInt64))])) _
    refine XT.lstore X0.here hx rfl (hb hby at_31) rfl (l' := #[.val (.int p1), .val (.int p2), .val (.int p3), .val (.int p4), .val (.long mm), .second, .val (.long fl), .second, .val (.long va), .second, .val (.long ((p4 % (4000000 : Int32)).toInt64)), .second, .unset, .unset, .unset, .unset, .unset, .unset, .unset, .unset, .unset, .unset, .unset]) rfl ?_
    show Steps p.tables e below (s₁.setTop (mkF m 33 #[.val (.int p1), .val (.int p2), .val (.int p3), .val (.int p4), .val (.long mm), .second, .val (.long fl), .second, .val (.long va), .second, .val (.long ((p4 % (4000000 : Int32)).toInt64)), .second, .unset, .unset, .unset, .unset, .unset, .unset, .unset, .unset, .unset, .unset, .unset] [])) _
    exact k)
  have t12 := rem_k p4 4000000 (K := 4000000) (by decide) (by decide)
  rw [← htt] at t12
  obtain ⟨T5, h5, X5, e5, E5, A5, D5, -, st5⟩ := newO X0 hx hZ hown (hw _ (List.mem_of_getElem? (i := 4) rfl)) (hw _ (List.mem_of_getElem? (i := 5) rfl)) (hw _ (List.mem_of_getElem? (i := 6) rfl)) e0 (g := (mkF m 33 #[.val (.int p1), .val (.int p2), .val (.int p3), .val (.int p4), .val (.long mm), .second, .val (.long fl), .second, .val (.long va), .second, .val (.long tt), .second, .unset, .unset, .unset, .unset, .unset, .unset, .unset, .unset, .unset, .unset, .unset] [])) rfl (hb hby at_33) (by decide) (by decide)
  obtain ⟨ob, g5⟩ : ∃ z, z = h0.size := ⟨_, rfl⟩
  rw [← g5] at A5 D5 st5
  have F6 : Fld Z h5 ob "com/example/pulsewarden/pulsewarden/DelayModel$MeanAndVariance" "meanSeconds" "D" (.double (0 : UInt64)) := (D5 (Or.inr (hw _ (List.mem_of_getElem? (i := 20) rfl))) (ty := .double) (by decide))
  have F7 : Fld Z h5 ob "com/example/pulsewarden/pulsewarden/DelayModel$MeanAndVariance" "varianceSeconds2" "D" (.double (0 : UInt64)) := (D5 (Or.inr (hw _ (List.mem_of_getElem? (i := 22) rfl))) (ty := .double) (by decide))
  have F8 : Fld Z h5 ob "com/example/pulsewarden/pulsewarden/DelayModel$MeanAndVariance" "floorSeconds" "D" (.double (0 : UInt64)) := (D5 (Or.inr (hw _ (List.mem_of_getElem? (i := 24) rfl))) (ty := .double) (by decide))
  have c9 : ∀ t, Steps p.tables e below (T5.setTop (mkF m 36 #[.val (.int p1), .val (.int p2), .val (.int p3), .val (.int p4), .val (.long mm), .second, .val (.long fl), .second, .val (.long va), .second, .val (.long tt), .second, .unset, .unset, .unset, .unset, .unset, .unset, .unset, .unset, .unset, .unset, .unset] [(.ref ob)])) t → Steps p.tables e below (s₁.setTop (entryFrame m #[(.int p1), (.int p2), (.int p3), (.int p4)] maxLocals)) t := fun t k => c4 t (st5 _ k)
  obtain ⟨dm, hdm⟩ : ∃ v : UInt64, FP.l2d mm = v := ⟨_, rfl⟩
  have Dm : DS mm.toInt 0 dm := hdm ▸ DS.l2d (by omega)
  obtain ⟨dv, hdv⟩ : ∃ v : UInt64, FP.l2d va = v := ⟨_, rfl⟩
  have Dv : DS va.toInt 0 dv := hdv ▸ DS.l2d (by omega)
  obtain ⟨df, hdf⟩ : ∃ v : UInt64, FP.l2d fl = v := ⟨_, rfl⟩
  have Df : DS fl.toInt 0 df := hdf ▸ DS.l2d (by omega)
  have c10 : ∀ t, Steps p.tables e below (T5.setTop (mkF m 46 #[.val (.int p1), .val (.int p2), .val (.int p3), .val (.int p4), .val (.long mm), .second, .val (.long fl), .second, .val (.long va), .second, .val (.long tt), .second, .unset, .unset, .unset, .unset, .unset, .unset, .unset, .unset, .unset, .unset, .unset] [(.double df), (.double dv), (.double dm), (.ref ob), (.ref ob)])) t → Steps p.tables e below (s₁.setTop (entryFrame m #[(.int p1), (.int p2), (.int p3), (.int p4)] maxLocals)) t := fun t k => c9 t (by
    show Steps p.tables e below (T5.setTop (mkF m 36 #[.val (.int p1), .val (.int p2), .val (.int p3), .val (.int p4), .val (.long mm), .second, .val (.long fl), .second, .val (.long va), .second, .val (.long tt), .second, .unset, .unset, .unset, .unset, .unset, .unset, .unset, .unset, .unset, .unset, .unset] [(.ref ob)])) _
    refine XS.dup X5.here hx rfl (hb hby at_36) rfl rfl ?_
    show Steps p.tables e below (T5.setTop (mkF m 37 #[.val (.int p1), .val (.int p2), .val (.int p3), .val (.int p4), .val (.long mm), .second, .val (.long fl), .second, .val (.long va), .second, .val (.long tt), .second, .unset, .unset, .unset, .unset, .unset, .unset, .unset, .unset, .unset, .unset, .unset] [(.ref ob), (.ref ob)])) _
    refine XT.lload X5.here hx rfl (hb hby at_37) rfl ?_
    show Steps p.tables e below (T5.setTop (mkF m 39 #[.val (.int p1), .val (.int p2), .val (.int p3), .val (.int p4), .val (.long mm), .second, .val (.long fl), .second, .val (.long va), .second, .val (.long tt), .second, .unset, .unset, .unset, .unset, .unset, .unset, .unset, .unset, .unset, .unset, .unset] [(.long mm), (.ref ob), (.ref ob)])) _
    refine XS.l2dS X5.here hx rfl (hb hby at_39) rfl hdm ?_
    show Steps p.tables e below (T5.setTop (mkF m 40 #[.val (.int p1), .val (.int p2), .val (.int p3), .val (.int p4), .val (.long mm), .second, .val (.long fl), .second, .val (.long va), .second, .val (.long tt), .second, .unset, .unset, .unset, .unset, .unset, .unset, .unset, .unset, .unset, .unset, .unset] [(.double dm), (.ref ob), (.ref ob)])) _
    refine XT.lload X5.here hx rfl (hb hby at_40) rfl ?_
    show Steps p.tables e below (T5.setTop (mkF m 42 #[.val (.int p1), .val (.int p2), .val (.int p3), .val (.int p4), .val (.long mm), .second, .val (.long fl), .second, .val (.long va), .second, .val (.long tt), .second, .unset, .unset, .unset, .unset, .unset, .unset, .unset, .unset, .unset, .unset, .unset] [(.long va), (.double dm), (.ref ob), (.ref ob)])) _
    refine XS.l2dS X5.here hx rfl (hb hby at_42) rfl hdv ?_
    show Steps p.tables e below (T5.setTop (mkF m 43 #[.val (.int p1), .val (.int p2), .val (.int p3), .val (.int p4), .val (.long mm), .second, .val (.long fl), .second, .val (.long va), .second, .val (.long tt), .second, .unset, .unset, .unset, .unset, .unset, .unset, .unset, .unset, .unset, .unset, .unset] [(.double dv), (.double dm), (.ref ob), (.ref ob)])) _
    refine XT.lload X5.here hx rfl (hb hby at_43) rfl ?_
    show Steps p.tables e below (T5.setTop (mkF m 45 #[.val (.int p1), .val (.int p2), .val (.int p3), .val (.int p4), .val (.long mm), .second, .val (.long fl), .second, .val (.long va), .second, .val (.long tt), .second, .unset, .unset, .unset, .unset, .unset, .unset, .unset, .unset, .unset, .unset, .unset] [(.long fl), (.double dv), (.double dm), (.ref ob), (.ref ob)])) _
    refine XS.l2dS X5.here hx rfl (hb hby at_45) rfl hdf ?_
    show Steps p.tables e below (T5.setTop (mkF m 46 #[.val (.int p1), .val (.int p2), .val (.int p3), .val (.int p4), .val (.long mm), .second, .val (.long fl), .second, .val (.long va), .second, .val (.long tt), .second, .unset, .unset, .unset, .unset, .unset, .unset, .unset, .unset, .unset, .unset, .unset] [(.double df), (.double dv), (.double dm), (.ref ob), (.ref ob)])) _
    exact k)
  obtain ⟨_, _, ⟨T11, L11, k11', n11⟩, -, X11, ⟨Lc11, hQ11, l11, y11, z11⟩, st11⟩ := X5.specialBack hx (y := (⟨"com/example/pulsewarden/pulsewarden/DelayModel$MeanAndVariance", "<init>", "(DDD)V"⟩ : MethodName)) rfl hown (mvT hZ (hw _ (List.mem_of_getElem? (i := 7) rfl))) (mvT hZ (hw _ (List.mem_of_getElem? (i := 8) rfl))) (mvT hZ (hw _ (List.mem_of_getElem? (i := 9) rfl))) (by decide) (backOf (W := 1) (rm_1 l Z a0 hw [] ob dm dv df h5 n0 (Nat.le_trans Z0 E5.1) A5 F6 F7 F8 (Nat.le_trans Z0 (Nat.le_of_eq g5.symm)) Dm.1 Dv.1 Df.1 (lt_of Df.le Dm.ge f12.1) (by have := le_of DS.zero.le Dv.ge v12.1; rwa [zv_zero] at this)) hZ (hw _ (List.mem_of_getElem? (i := 9) rfl)) (hw _ (List.mem_of_getElem? (i := 6) rfl)) (by decide) (by decide)) (g := (mkF m 46 #[.val (.int p1), .val (.int p2), .val (.int p3), .val (.int p4), .val (.long mm), .second, .val (.long fl), .second, .val (.long va), .second, .val (.long tt), .second, .unset, .unset, .unset, .unset, .unset, .unset, .unset, .unset, .unset, .unset, .unset] [(.double df), (.double dv), (.double dm), (.ref ob), (.ref ob)])) rfl (by rw [hml]; rfl) (Steps.refl _) (a := ob) (argsL := [(.double dm), (.double dv), (.double df)]) (rest := [(.ref ob)]) (lenOf pd__DDD_V rfl) rfl (by show 2 * 0 + _ ≤ _; exact Nat.le_of_eq rfl) (hb hby at_46) (fun _ _ => ⟨rfl, e5, (by decide : 1 + 0 ≤ _), (by decide : 3 + 0 ≤ _)⟩)
  dsimp only [Pt.U, Pt.locs, Pt.cells, Pt.slots] at X11 l11 y11 z11 st11 hQ11
  subst l11 y11 z11
  obtain ⟨rfl, N11, K11, G11_0, G11_1, G11_2, G11_3⟩ := hQ11
  have M11 := Fr.app N0 N11
  have F12 : Exa Z T11.heap ob "com/example/pulsewarden/pulsewarden/DelayModel$MeanAndVariance" := (A5.keep K11)
  have c13 : ∀ t, Steps p.tables e below (T11.setTop (mkF m 49 #[.val (.int p1), .val (.int p2), .val (.int p3), .val (.int p4), .val (.long mm), .second, .val (.long fl), .second, .val (.long va), .second, .val (.long tt), .second, .unset, .unset, .unset, .unset, .unset, .unset, .unset, .unset, .unset, .unset, .unset] [(.ref ob)])) t → Steps p.tables e below (s₁.setTop (entryFrame m #[(.int p1), (.int p2), (.int p3), (.int p4)] maxLocals)) t := fun t k => c10 t (st11.trans k)
  obtain ⟨dt, hdt⟩ : ∃ v : UInt64, FP.l2d tt = v := ⟨_, rfl⟩
  have Dt : DS tt.toInt 0 dt := hdt ▸ DS.l2d (by omega)
  obtain ⟨res, hr1, hr2, hr3⟩ : ∃ r : UInt64, (tt.toInt < fl.toInt → r = FP.dconst1) ∧ (¬ tt.toInt < fl.toInt → ¬ tt.toInt < mm.toInt → r = FP.dconst0) ∧ (∀ a b : UInt64, ¬ tt.toInt < fl.toInt → tt.toInt < mm.toInt → DS ((mm.toInt - tt.toInt) * (mm.toInt - tt.toInt)) 0 a → DS (va.toInt + (mm.toInt - tt.toInt) * (mm.toInt - tt.toInt)) 0 b → r = FP.ddiv a b) := by
    by_cases q1 : tt.toInt < fl.toInt
    · exact ⟨_, fun _ => rfl, fun q => absurd q1 q, fun _ _ q => absurd q1 q⟩
    · by_cases q2 : tt.toInt < mm.toInt
      · have b := sq_le (x := mm.toInt - tt.toInt) (k := 21) (by omega) (by omega)
        have c : 0 < (mm.toInt - tt.toInt) * (mm.toInt - tt.toInt) := Int.mul_pos (by omega) (by omega)
        obtain ⟨A, fA, zA⟩ := rep ((mm.toInt - tt.toInt) * (mm.toInt - tt.toInt)) 0 (by omega) (by decide)
        obtain ⟨B, fB, zB⟩ := rep (va.toInt + (mm.toInt - tt.toInt) * (mm.toInt - tt.toInt)) 0 (by omega) (by decide)
        exact ⟨FP.ddiv A B, fun q => absurd q q1, fun _ q => absurd q2 q, fun a b _ _ ha hb => DS.div_same ⟨fA, zA⟩ ha ⟨fB, zB⟩ hb c (by omega)⟩
      · exact ⟨_, fun q => absurd q q1, fun _ _ => rfl, fun _ _ _ q => absurd q q2⟩
  have c14 : ∀ t, Steps p.tables e below (T11.setTop (mkF m 56 #[.val (.int p1), .val (.int p2), .val (.int p3), .val (.int p4), .val (.long mm), .second, .val (.long fl), .second, .val (.long va), .second, .val (.long tt), .second, .val (.ref ob), .unset, .unset, .unset, .unset, .unset, .unset, .unset, .unset, .unset, .unset] [(.double dt), (.ref ob)])) t → Steps p.tables e below (s₁.setTop (entryFrame m #[(.int p1), (.int p2), (.int p3), (.int p4)] maxLocals)) t := fun t k => c13 t (by
    show Steps p.tables e below (T11.setTop (mkF m 49 #[.val (.int p1), .val (.int p2), .val (.int p3), .val (.int p4), .val (.long mm), .second, .val (.long fl), .second, .val (.long va), .second, .val (.long tt), .second, .unset, .unset, .unset, .unset, .unset, .unset, .unset, .unset, .unset, .unset, .unset] [(.ref ob)])) _
    refine XS.astore X11.here hx rfl (hb hby at_49) rfl rfl (l' := #[.val (.int p1), .val (.int p2), .val (.int p3), .val (.int p4), .val (.long mm), .second, .val (.long fl), .second, .val (.long va), .second, .val (.long tt), .second, .val (.ref ob), .unset, .unset, .unset, .unset, .unset, .unset, .unset, .unset, .unset, .unset]) rfl ?_
    show Steps p.tables e below (T11.setTop (mkF m 51 #[.val (.int p1), .val (.int p2), .val (.int p3), .val (.int p4), .val (.long mm), .second, .val (.long fl), .second, .val (.long va), .second, .val (.long tt), .second, .val (.ref ob), .unset, .unset, .unset, .unset, .unset, .unset, .unset, .unset, .unset, .unset] [])) _
    refine XS.aload X11.here hx rfl (hb hby at_51) rfl rfl ?_
    show Steps p.tables e below (T11.setTop (mkF m 53 #[.val (.int p1), .val (.int p2), .val (.int p3), .val (.int p4), .val (.long mm), .second, .val (.long fl), .second, .val (.long va), .second, .val (.long tt), .second, .val (.ref ob), .unset, .unset, .unset, .unset, .unset, .unset, .unset, .unset, .unset, .unset] [(.ref ob)])) _
    refine XT.lload X11.here hx rfl (hb hby at_53) rfl ?_
    show Steps p.tables e below (T11.setTop (mkF m 55 #[.val (.int p1), .val (.int p2), .val (.int p3), .val (.int p4), .val (.long mm), .second, .val (.long fl), .second, .val (.long va), .second, .val (.long tt), .second, .val (.ref ob), .unset, .unset, .unset, .unset, .unset, .unset, .unset, .unset, .unset, .unset] [(.long tt), (.ref ob)])) _
    refine XS.l2dS X11.here hx rfl (hb hby at_55) rfl hdt ?_
    show Steps p.tables e below (T11.setTop (mkF m 56 #[.val (.int p1), .val (.int p2), .val (.int p3), .val (.int p4), .val (.long mm), .second, .val (.long fl), .second, .val (.long va), .second, .val (.long tt), .second, .val (.ref ob), .unset, .unset, .unset, .unset, .unset, .unset, .unset, .unset, .unset, .unset] [(.double dt), (.ref ob)])) _
    exact k)
  obtain ⟨cq15, kq15, q15a, q15b, q15c⟩ := isOf hZ rfl G11_0
  obtain ⟨_, _, ⟨T15, L15, k15', n15⟩, -, X15, ⟨Lc15, hQ15, l15, y15, z15⟩, st15⟩ := X11.virtualBack hx (y := (⟨"com/example/pulsewarden/pulsewarden/DelayModel$MeanAndVariance", "leastTail", "(D)D"⟩ : MethodName)) (z := (⟨"com/example/pulsewarden/pulsewarden/DelayModel$MeanAndVariance", "leastTail", "(D)D"⟩ : MethodName)) hown (mvT hZ (hw _ (List.mem_of_getElem? (i := 25) rfl))) (mvT hZ (hw _ (List.mem_of_getElem? (i := 26) rfl))) (notFace_of_selects (args := #[]) (mvT hZ (hw _ (List.mem_of_getElem? (i := 28) rfl)))) (mvT hZ (hw _ (List.mem_of_getElem? (i := 28) rfl))) (mvT hZ (hw _ (List.mem_of_getElem? (i := 27) rfl))) (by decide) (backOf (W := 0) (rm_4 l Z a0 hw [] ob dt dm dv df res tt.toInt mm.toInt va.toInt fl.toInt T11.heap n0 (Nat.le_trans (Nat.le_trans Z0 E5.1) K11.1) G11_1 G11_2 G11_3 Dt Dm Dv Df (by omega) (by omega) hr1 hr2 hr3) hZ (hw _ (List.mem_of_getElem? (i := 29) rfl)) (hw _ (List.mem_of_getElem? (i := 6) rfl)) (by decide) (by decide)) q15a q15c (g := (mkF m 56 #[.val (.int p1), .val (.int p2), .val (.int p3), .val (.int p4), .val (.long mm), .second, .val (.long fl), .second, .val (.long va), .second, .val (.long tt), .second, .val (.ref ob), .unset, .unset, .unset, .unset, .unset, .unset, .unset, .unset, .unset, .unset] [(.double dt), (.ref ob)])) rfl (by rw [hml]; rfl) (Steps.refl _) (argsL := [(.double dt)]) (rest := []) (lenOf pd__D_D rfl) rfl (by show 2 * 0 + _ ≤ _; exact Nat.le_of_eq rfl) (hb hby at_56) (fun _ _ => ⟨rfl, rfl, (by decide : 1 + 0 ≤ _), (by decide : 3 + 0 ≤ _)⟩)
  dsimp only [Pt.U, Pt.locs, Pt.cells, Pt.slots] at X15 l15 y15 z15 st15 hQ15
  subst l15 y15 z15
  obtain ⟨rfl, N15, e15⟩ := hQ15
  have M15 := Fr.app M11 N15
  have c16 : ∀ t, Steps p.tables e below (T15.setTop (mkF m 59 #[.val (.int p1), .val (.int p2), .val (.int p3), .val (.int p4), .val (.long mm), .second, .val (.long fl), .second, .val (.long va), .second, .val (.long tt), .second, .val (.ref ob), .unset, .unset, .unset, .unset, .unset, .unset, .unset, .unset, .unset, .unset] [(.double res)])) t → Steps p.tables e below (s₁.setTop (entryFrame m #[(.int p1), (.int p2), (.int p3), (.int p4)] maxLocals)) t := fun t k => c14 t (st15.trans k)
  have c17 : ∀ t, Steps p.tables e below (T15.setTop (mkF m 66 #[.val (.int p1), .val (.int p2), .val (.int p3), .val (.int p4), .val (.long mm), .second, .val (.long fl), .second, .val (.long va), .second, .val (.long tt), .second, .val (.ref ob), .val (.double res), .second, .unset, .unset, .unset, .unset, .unset, .unset, .unset, .unset] [(.int (XT.cmpL tt fl))])) t → Steps p.tables e below (s₁.setTop (entryFrame m #[(.int p1), (.int p2), (.int p3), (.int p4)] maxLocals)) t := fun t k => c16 t (by
    show Steps p.tables e below (T15.setTop (mkF m 59 #[.val (.int p1), .val (.int p2), .val (.int p3), .val (.int p4), .val (.long mm), .second, .val (.long fl), .second, .val (.long va), .second, .val (.long tt), .second, .val (.ref ob), .unset, .unset, .unset, .unset, .unset, .unset, .unset, .unset, .unset, .unset] [(.double res)])) _
    refine XS.dstore X15.here hx rfl (hb hby at_59) rfl (l' := #[.val (.int p1), .val (.int p2), .val (.int p3), .val (.int p4), .val (.long mm), .second, .val (.long fl), .second, .val (.long va), .second, .val (.long tt), .second, .val (.ref ob), .val (.double res), .second, .unset, .unset, .unset, .unset, .unset, .unset, .unset, .unset]) rfl ?_
    show Steps p.tables e below (T15.setTop (mkF m 61 #[.val (.int p1), .val (.int p2), .val (.int p3), .val (.int p4), .val (.long mm), .second, .val (.long fl), .second, .val (.long va), .second, .val (.long tt), .second, .val (.ref ob), .val (.double res), .second, .unset, .unset, .unset, .unset, .unset, .unset, .unset, .unset] [])) _
    refine XT.lload X15.here hx rfl (hb hby at_61) rfl ?_
    show Steps p.tables e below (T15.setTop (mkF m 63 #[.val (.int p1), .val (.int p2), .val (.int p3), .val (.int p4), .val (.long mm), .second, .val (.long fl), .second, .val (.long va), .second, .val (.long tt), .second, .val (.ref ob), .val (.double res), .second, .unset, .unset, .unset, .unset, .unset, .unset, .unset, .unset] [(.long tt)])) _
    refine XT.lload X15.here hx rfl (hb hby at_63) rfl ?_
    show Steps p.tables e below (T15.setTop (mkF m 65 #[.val (.int p1), .val (.int p2), .val (.int p3), .val (.int p4), .val (.long mm), .second, .val (.long fl), .second, .val (.long va), .second, .val (.long tt), .second, .val (.ref ob), .val (.double res), .second, .unset, .unset, .unset, .unset, .unset, .unset, .unset, .unset] [(.long fl), (.long tt)])) _
    refine XT.lcmp X15.here hx rfl (hb hby at_65) rfl ?_
    show Steps p.tables e below (T15.setTop (mkF m 66 #[.val (.int p1), .val (.int p2), .val (.int p3), .val (.int p4), .val (.long mm), .second, .val (.long fl), .second, .val (.long va), .second, .val (.long tt), .second, .val (.ref ob), .val (.double res), .second, .unset, .unset, .unset, .unset, .unset, .unset, .unset, .unset] [(.int (XT.cmpL tt fl))])) _
    exact k)
  by_cases q66 : tt < fl
  · skip
    have q1 := lt64.mp q66
    have hr := hr1 q1
    obtain ⟨k123, hk123⟩ : ∃ v : Int32, cmpValue (FP.dcmp res FP.dconst1) .l = v := ⟨_, rfl⟩
    have e123 : k123 = 0 := by rw [← hk123, hr]; exact cmp_eq (notNan DS.one.1) (notNan DS.one.1) rfl .l
    have c18 : ∀ t, Steps p.tables e below (T15.setTop (mkF m 132 #[.val (.int p1), .val (.int p2), .val (.int p3), .val (.int p4), .val (.long mm), .second, .val (.long fl), .second, .val (.long va), .second, .val (.long tt), .second, .val (.ref ob), .val (.double res), .second, .val (.double FP.dconst1), .second, .unset, .unset, .unset, .unset, .unset, .unset] [(.int (1 : Int32))])) t → Steps p.tables e below (s₁.setTop (entryFrame m #[(.int p1), (.int p2), (.int p3), (.int p4)] maxLocals)) t := fun t k => c17 t (by
      show Steps p.tables e below (T15.setTop (mkF m 66 #[.val (.int p1), .val (.int p2), .val (.int p3), .val (.int p4), .val (.long mm), .second, .val (.long fl), .second, .val (.long va), .second, .val (.long tt), .second, .val (.ref ob), .val (.double res), .second, .unset, .unset, .unset, .unset, .unset, .unset, .unset, .unset] [(.int (XT.cmpL tt fl))])) _
      refine XS.ifNo X15.here hx rfl (hb hby at_66) rfl (XT.ll_ge_f q66) ?_
      show Steps p.tables e below (T15.setTop (mkF m 69 #[.val (.int p1), .val (.int p2), .val (.int p3), .val (.int p4), .val (.long mm), .second, .val (.long fl), .second, .val (.long va), .second, .val (.long tt), .second, .val (.ref ob), .val (.double res), .second, .unset, .unset, .unset, .unset, .unset, .unset, .unset, .unset] [])) _
      refine XS.dconst1 X15.here hx rfl (hb hby at_69) rfl ?_
      show Steps p.tables e below (T15.setTop (mkF m 70 #[.val (.int p1), .val (.int p2), .val (.int p3), .val (.int p4), .val (.long mm), .second, .val (.long fl), .second, .val (.long va), .second, .val (.long tt), .second, .val (.ref ob), .val (.double res), .second, .unset, .unset, .unset, .unset, .unset, .unset, .unset, .unset] [(.double FP.dconst1)])) _
      refine XS.dstore X15.here hx rfl (hb hby at_70) rfl (l' := #[.val (.int p1), .val (.int p2), .val (.int p3), .val (.int p4), .val (.long mm), .second, .val (.long fl), .second, .val (.long va), .second, .val (.long tt), .second, .val (.ref ob), .val (.double res), .second, .val (.double FP.dconst1), .second, .unset, .unset, .unset, .unset, .unset, .unset]) rfl ?_
      show Steps p.tables e below (T15.setTop (mkF m 72 #[.val (.int p1), .val (.int p2), .val (.int p3), .val (.int p4), .val (.long mm), .second, .val (.long fl), .second, .val (.long va), .second, .val (.long tt), .second, .val (.ref ob), .val (.double res), .second, .val (.double FP.dconst1), .second, .unset, .unset, .unset, .unset, .unset, .unset] [])) _
      refine XS.goto X15.here hx rfl (pc0 := 72) (pc' := 119) rfl (hb hby at_72) (by decide) (by decide) ?_
      show Steps p.tables e below (T15.setTop (mkF m 119 #[.val (.int p1), .val (.int p2), .val (.int p3), .val (.int p4), .val (.long mm), .second, .val (.long fl), .second, .val (.long va), .second, .val (.long tt), .second, .val (.ref ob), .val (.double res), .second, .val (.double FP.dconst1), .second, .unset, .unset, .unset, .unset, .unset, .unset] [])) _
      refine XS.dload X15.here hx rfl (hb hby at_119) rfl ?_
      show Steps p.tables e below (T15.setTop (mkF m 121 #[.val (.int p1), .val (.int p2), .val (.int p3), .val (.int p4), .val (.long mm), .second, .val (.long fl), .second, .val (.long va), .second, .val (.long tt), .second, .val (.ref ob), .val (.double res), .second, .val (.double FP.dconst1), .second, .unset, .unset, .unset, .unset, .unset, .unset] [(.double res)])) _
      refine XS.dload X15.here hx rfl (hb hby at_121) rfl ?_
      show Steps p.tables e below (T15.setTop (mkF m 123 #[.val (.int p1), .val (.int p2), .val (.int p3), .val (.int p4), .val (.long mm), .second, .val (.long fl), .second, .val (.long va), .second, .val (.long tt), .second, .val (.ref ob), .val (.double res), .second, .val (.double FP.dconst1), .second, .unset, .unset, .unset, .unset, .unset, .unset] [(.double FP.dconst1), (.double res)])) _
      refine XS.dcmpS X15.here hx rfl (hb hby at_123) rfl hk123 ?_
      show Steps p.tables e below (T15.setTop (mkF m 124 #[.val (.int p1), .val (.int p2), .val (.int p3), .val (.int p4), .val (.long mm), .second, .val (.long fl), .second, .val (.long va), .second, .val (.long tt), .second, .val (.ref ob), .val (.double res), .second, .val (.double FP.dconst1), .second, .unset, .unset, .unset, .unset, .unset, .unset] [(.int k123)])) _
      refine XS.ifNo X15.here hx rfl (hb hby at_124) rfl (XT.i0_ne_f e123) ?_
      show Steps p.tables e below (T15.setTop (mkF m 127 #[.val (.int p1), .val (.int p2), .val (.int p3), .val (.int p4), .val (.long mm), .second, .val (.long fl), .second, .val (.long va), .second, .val (.long tt), .second, .val (.ref ob), .val (.double res), .second, .val (.double FP.dconst1), .second, .unset, .unset, .unset, .unset, .unset, .unset] [])) _
      refine XS.iconst X15.here hx rfl (hb hby at_127) ?_
      show Steps p.tables e below (T15.setTop (mkF m 128 #[.val (.int p1), .val (.int p2), .val (.int p3), .val (.int p4), .val (.long mm), .second, .val (.long fl), .second, .val (.long va), .second, .val (.long tt), .second, .val (.ref ob), .val (.double res), .second, .val (.double FP.dconst1), .second, .unset, .unset, .unset, .unset, .unset, .unset] [(.int (1 : Int32))])) _
      refine XS.goto X15.here hx rfl (pc0 := 128) (pc' := 132) rfl (hb hby at_128) (by decide) (by decide) ?_
      show Steps p.tables e below (T15.setTop (mkF m 132 #[.val (.int p1), .val (.int p2), .val (.int p3), .val (.int p4), .val (.long mm), .second, .val (.long fl), .second, .val (.long va), .second, .val (.long tt), .second, .val (.ref ob), .val (.double res), .second, .val (.double FP.dconst1), .second, .unset, .unset, .unset, .unset, .unset, .unset] [(.int (1 : Int32))])) _
      exact k)
    obtain ⟨fs, hr, hrun, hended, hW, hsame⟩ := X15.leave (v := (some (.int (1 : Int32)))) (fun h => by rw [Bd.returns] at h; cases h)
    refine ⟨_, _, pre0 _ (c18 _ (retN X15 hx (t := .boolean) Bd.returns (by simp) (hb hby at_132) hr)), hrun, hended, _, _, rfl, ?_, ⟨_, rfl⟩, hW, hsame.mono (by decide) (by decide)⟩
    show Q_0 Z p1 p2 p3 p4 h0 n0 _ T15.heap _
    rw [e15]
    exact ⟨rfl, M15⟩
  · skip
    have q1 : ¬ tt.toInt < fl.toInt := fun q => q66 (lt64.mpr q)
    have c19 : ∀ t, Steps p.tables e below (T15.setTop (mkF m 80 #[.val (.int p1), .val (.int p2), .val (.int p3), .val (.int p4), .val (.long mm), .second, .val (.long fl), .second, .val (.long va), .second, .val (.long tt), .second, .val (.ref ob), .val (.double res), .second, .unset, .unset, .unset, .unset, .unset, .unset, .unset, .unset] [(.int (XT.cmpL tt mm))])) t → Steps p.tables e below (s₁.setTop (entryFrame m #[(.int p1), (.int p2), (.int p3), (.int p4)] maxLocals)) t := fun t k => c17 t (by
      show Steps p.tables e below (T15.setTop (mkF m 66 #[.val (.int p1), .val (.int p2), .val (.int p3), .val (.int p4), .val (.long mm), .second, .val (.long fl), .second, .val (.long va), .second, .val (.long tt), .second, .val (.ref ob), .val (.double res), .second, .unset, .unset, .unset, .unset, .unset, .unset, .unset, .unset] [(.int (XT.cmpL tt fl))])) _
      refine XS.ifYes X15.here hx rfl (pc0 := 66) (pc' := 75) rfl (hb hby at_66) rfl (XT.ll_ge_t q66) (by decide) (by decide) ?_
      show Steps p.tables e below (T15.setTop (mkF m 75 #[.val (.int p1), .val (.int p2), .val (.int p3), .val (.int p4), .val (.long mm), .second, .val (.long fl), .second, .val (.long va), .second, .val (.long tt), .second, .val (.ref ob), .val (.double res), .second, .unset, .unset, .unset, .unset, .unset, .unset, .unset, .unset] [])) _
      refine XT.lload X15.here hx rfl (hb hby at_75) rfl ?_
      show Steps p.tables e below (T15.setTop (mkF m 77 #[.val (.int p1), .val (.int p2), .val (.int p3), .val (.int p4), .val (.long mm), .second, .val (.long fl), .second, .val (.long va), .second, .val (.long tt), .second, .val (.ref ob), .val (.double res), .second, .unset, .unset, .unset, .unset, .unset, .unset, .unset, .unset] [(.long tt)])) _
      refine XT.lload X15.here hx rfl (hb hby at_77) rfl ?_
      show Steps p.tables e below (T15.setTop (mkF m 79 #[.val (.int p1), .val (.int p2), .val (.int p3), .val (.int p4), .val (.long mm), .second, .val (.long fl), .second, .val (.long va), .second, .val (.long tt), .second, .val (.ref ob), .val (.double res), .second, .unset, .unset, .unset, .unset, .unset, .unset, .unset, .unset] [(.long mm), (.long tt)])) _
      refine XT.lcmp X15.here hx rfl (hb hby at_79) rfl ?_
      show Steps p.tables e below (T15.setTop (mkF m 80 #[.val (.int p1), .val (.int p2), .val (.int p3), .val (.int p4), .val (.long mm), .second, .val (.long fl), .second, .val (.long va), .second, .val (.long tt), .second, .val (.ref ob), .val (.double res), .second, .unset, .unset, .unset, .unset, .unset, .unset, .unset, .unset] [(.int (XT.cmpL tt mm))])) _
      exact k)
    by_cases q80 : tt < mm
    · skip
      have q2 := lt64.mp q80
      obtain ⟨ss, hss⟩ : ∃ v : Int64, v = (mm - tt) := ⟨_, rfl⟩
      have c20 : ∀ t, Steps p.tables e below (T15.setTop (mkF m 96 #[.val (.int p1), .val (.int p2), .val (.int p3), .val (.int p4), .val (.long mm), .second, .val (.long fl), .second, .val (.long va), .second, .val (.long tt), .second, .val (.ref ob), .val (.double res), .second, .unset, .unset, .val (.long ss), .second, .unset, .unset, .unset, .unset] [])) t → Steps p.tables e below (s₁.setTop (entryFrame m #[(.int p1), (.int p2), (.int p3), (.int p4)] maxLocals)) t := fun t k => c19 t (by
        rw [hss] at k
        show Steps p.tables e below (T15.setTop (mkF m 80 #[.val (.int p1), .val (.int p2), .val (.int p3), .val (.int p4), .val (.long mm), .second, .val (.long fl), .second, .val (.long va), .second, .val (.long tt), .second, .val (.ref ob), .val (.double res), .second, .unset, .unset, .unset, .unset, .unset, .unset, .unset, .unset] [(.int (XT.cmpL tt mm))])) _
        refine XS.ifYes X15.here hx rfl (pc0 := 80) (pc' := 89) rfl (hb hby at_80) rfl (XT.ll_lt_t q80) (by decide) (by decide) ?_
        show Steps p.tables e below (T15.setTop (mkF m 89 #[.val (.int p1), .val (.int p2), .val (.int p3), .val (.int p4), .val (.long mm), .second, .val (.long fl), .second, .val (.long va), .second, .val (.long tt), .second, .val (.ref ob), .val (.double res), .second, .unset, .unset, .unset, .unset, .unset, .unset, .unset, .unset] [])) _
        refine XT.lload X15.here hx rfl (hb hby at_89) rfl ?_
        show Steps p.tables e below (T15.setTop (mkF m 91 #[.val (.int p1), .val (.int p2), .val (.int p3), .val (.int p4), .val (.long mm), .second, .val (.long fl), .second, .val (.long va), .second, .val (.long tt), .second, .val (.ref ob), .val (.double res), .second, .unset, .unset, .unset, .unset, .unset, .unset, .unset, .unset] [(.long mm)])) _
        refine XT.lload X15.here hx rfl (hb hby at_91) rfl ?_
        show Steps p.tables e below (T15.setTop (mkF m 93 #[.val (.int p1), .val (.int p2), .val (.int p3), .val (.int p4), .val (.long mm), .second, .val (.long fl), .second, .val (.long va), .second, .val (.long tt), .second, .val (.ref ob), .val (.double res), .second, .unset, .unset, .unset, .unset, .unset, .unset, .unset, .unset] [(.long tt), (.long mm)])) _
        refine XT.lsub X15.here hx rfl (hb hby at_93) rfl ?_
        show Steps p.tables e below (T15.setTop (mkF m 94 #[.val (.int p1), .val (.int p2), .val (.int p3), .val (.int p4), .val (.long mm), .second, .val (.long fl), .second, .val (.long va), .second, .val (.long tt), .second, .val (.ref ob), .val (.double res), .second, .unset, .unset, .unset, .unset, .unset, .unset, .unset, .unset] [(.long (mm - tt))])) _
        refine XT.lstore X15.here hx rfl (hb hby at_94) rfl (l' := #[.val (.int p1), .val (.int p2), .val (.int p3), .val (.int p4), .val (.long mm), .second, .val (.long fl), .second, .val (.long va), .second, .val (.long tt), .second, .val (.ref ob), .val (.double res), .second, .unset, .unset, .val (.long (mm - tt)), .second, .unset, .unset, .unset, .unset]) rfl ?_
        show Steps p.tables e below (T15.setTop (mkF m 96 #[.val (.int p1), .val (.int p2), .val (.int p3), .val (.int p4), .val (.long mm), .second, .val (.long fl), .second, .val (.long va), .second, .val (.long tt), .second, .val (.ref ob), .val (.double res), .second, .unset, .unset, .val (.long (mm - tt)), .second, .unset, .unset, .unset, .unset] [])) _
        exact k)
      obtain ⟨nu, hnu⟩ : ∃ v : Int64, v = (ss * ss) := ⟨_, rfl⟩
      have c21 : ∀ t, Steps p.tables e below (T15.setTop (mkF m 103 #[.val (.int p1), .val (.int p2), .val (.int p3), .val (.int p4), .val (.long mm), .second, .val (.long fl), .second, .val (.long va), .second, .val (.long tt), .second, .val (.ref ob), .val (.double res), .second, .unset, .unset, .val (.long ss), .second, .val (.long nu), .second, .unset, .unset] [])) t → Steps p.tables e below (s₁.setTop (entryFrame m #[(.int p1), (.int p2), (.int p3), (.int p4)] maxLocals)) t := fun t k => c20 t (by
        rw [hnu] at k
        show Steps p.tables e below (T15.setTop (mkF m 96 #[.val (.int p1), .val (.int p2), .val (.int p3), .val (.int p4), .val (.long mm), .second, .val (.long fl), .second, .val (.long va), .second, .val (.long tt), .second, .val (.ref ob), .val (.double res), .second, .unset, .unset, .val (.long ss), .second, .unset, .unset, .unset, .unset] [])) _
        refine XT.lload X15.here hx rfl (hb hby at_96) rfl ?_
        show Steps p.tables e below (T15.setTop (mkF m 98 #[.val (.int p1), .val (.int p2), .val (.int p3), .val (.int p4), .val (.long mm), .second, .val (.long fl), .second, .val (.long va), .second, .val (.long tt), .second, .val (.ref ob), .val (.double res), .second, .unset, .unset, .val (.long ss), .second, .unset, .unset, .unset, .unset] [(.long ss)])) _
        refine XT.lload X15.here hx rfl (hb hby at_98) rfl ?_
        show Steps p.tables e below (T15.setTop (mkF m 100 #[.val (.int p1), .val (.int p2), .val (.int p3), .val (.int p4), .val (.long mm), .second, .val (.long fl), .second, .val (.long va), .second, .val (.long tt), .second, .val (.ref ob), .val (.double res), .second, .unset, .unset, .val (.long ss), .second, .unset, .unset, .unset, .unset] [(.long ss), (.long ss)])) _
        refine XT.lmul X15.here hx rfl (hb hby at_100) rfl ?_
        show Steps p.tables e below (T15.setTop (mkF m 101 #[.val (.int p1), .val (.int p2), .val (.int p3), .val (.int p4), .val (.long mm), .second, .val (.long fl), .second, .val (.long va), .second, .val (.long tt), .second, .val (.ref ob), .val (.double res), .second, .unset, .unset, .val (.long ss), .second, .unset, .unset, .unset, .unset] [(.long (ss * ss))])) _
        refine XT.lstore X15.here hx rfl (hb hby at_101) rfl (l' := #[.val (.int p1), .val (.int p2), .val (.int p3), .val (.int p4), .val (.long mm), .second, .val (.long fl), .second, .val (.long va), .second, .val (.long tt), .second, .val (.ref ob), .val (.double res), .second, .unset, .unset, .val (.long ss), .second, .val (.long (ss * ss)), .second, .unset, .unset]) rfl ?_
        show Steps p.tables e below (T15.setTop (mkF m 103 #[.val (.int p1), .val (.int p2), .val (.int p3), .val (.int p4), .val (.long mm), .second, .val (.long fl), .second, .val (.long va), .second, .val (.long tt), .second, .val (.ref ob), .val (.double res), .second, .unset, .unset, .val (.long ss), .second, .val (.long (ss * ss)), .second, .unset, .unset] [])) _
        exact k)
      obtain ⟨de, hde⟩ : ∃ v : Int64, v = (va + nu) := ⟨_, rfl⟩
      have c22 : ∀ t, Steps p.tables e below (T15.setTop (mkF m 110 #[.val (.int p1), .val (.int p2), .val (.int p3), .val (.int p4), .val (.long mm), .second, .val (.long fl), .second, .val (.long va), .second, .val (.long tt), .second, .val (.ref ob), .val (.double res), .second, .unset, .unset, .val (.long ss), .second, .val (.long nu), .second, .val (.long de), .second] [])) t → Steps p.tables e below (s₁.setTop (entryFrame m #[(.int p1), (.int p2), (.int p3), (.int p4)] maxLocals)) t := fun t k => c21 t (by
        rw [hde] at k
        show Steps p.tables e below (T15.setTop (mkF m 103 #[.val (.int p1), .val (.int p2), .val (.int p3), .val (.int p4), .val (.long mm), .second, .val (.long fl), .second, .val (.long va), .second, .val (.long tt), .second, .val (.ref ob), .val (.double res), .second, .unset, .unset, .val (.long ss), .second, .val (.long nu), .second, .unset, .unset] [])) _
        refine XT.lload X15.here hx rfl (hb hby at_103) rfl ?_
        show Steps p.tables e below (T15.setTop (mkF m 105 #[.val (.int p1), .val (.int p2), .val (.int p3), .val (.int p4), .val (.long mm), .second, .val (.long fl), .second, .val (.long va), .second, .val (.long tt), .second, .val (.ref ob), .val (.double res), .second, .unset, .unset, .val (.long ss), .second, .val (.long nu), .second, .unset, .unset] [(.long va)])) _
        refine XT.lload X15.here hx rfl (hb hby at_105) rfl ?_
        show Steps p.tables e below (T15.setTop (mkF m 107 #[.val (.int p1), .val (.int p2), .val (.int p3), .val (.int p4), .val (.long mm), .second, .val (.long fl), .second, .val (.long va), .second, .val (.long tt), .second, .val (.ref ob), .val (.double res), .second, .unset, .unset, .val (.long ss), .second, .val (.long nu), .second, .unset, .unset] [(.long nu), (.long va)])) _
        refine XT.ladd X15.here hx rfl (hb hby at_107) rfl ?_
        show Steps p.tables e below (T15.setTop (mkF m 108 #[.val (.int p1), .val (.int p2), .val (.int p3), .val (.int p4), .val (.long mm), .second, .val (.long fl), .second, .val (.long va), .second, .val (.long tt), .second, .val (.ref ob), .val (.double res), .second, .unset, .unset, .val (.long ss), .second, .val (.long nu), .second, .unset, .unset] [(.long (va + nu))])) _
        refine XT.lstore X15.here hx rfl (hb hby at_108) rfl (l' := #[.val (.int p1), .val (.int p2), .val (.int p3), .val (.int p4), .val (.long mm), .second, .val (.long fl), .second, .val (.long va), .second, .val (.long tt), .second, .val (.ref ob), .val (.double res), .second, .unset, .unset, .val (.long ss), .second, .val (.long nu), .second, .val (.long (va + nu)), .second]) rfl ?_
        show Steps p.tables e below (T15.setTop (mkF m 110 #[.val (.int p1), .val (.int p2), .val (.int p3), .val (.int p4), .val (.long mm), .second, .val (.long fl), .second, .val (.long va), .second, .val (.long tt), .second, .val (.ref ob), .val (.double res), .second, .unset, .unset, .val (.long ss), .second, .val (.long nu), .second, .val (.long (va + nu)), .second] [])) _
        exact k)
      obtain ⟨n1, n2, n3, n4⟩ := num_k m12.1 m12.2 q2 (by omega) v12.1 v12.2 hss hnu hde
      obtain ⟨d112, hd112⟩ : ∃ v : UInt64, FP.l2d nu = v := ⟨_, rfl⟩
      have D112 : DS ((mm.toInt - tt.toInt) * (mm.toInt - tt.toInt)) 0 d112 := n1 ▸ hd112 ▸ DS.l2d (by omega)
      obtain ⟨d115, hd115⟩ : ∃ v : UInt64, FP.l2d de = v := ⟨_, rfl⟩
      have D115 : DS (va.toInt + (mm.toInt - tt.toInt) * (mm.toInt - tt.toInt)) 0 d115 := n2 ▸ hd115 ▸ DS.l2d (by omega)
      obtain ⟨d116, hd116⟩ : ∃ v : UInt64, FP.ddiv d112 d115 = v := ⟨_, rfl⟩
      have nd := ddiv_nn D112.1 D115.1 (D115.pos (by omega))
      have hr : res = d116 := by rw [hr3 _ _ q1 q2 D112 D115, hd116]
      obtain ⟨k123, hk123⟩ : ∃ v : Int32, cmpValue (FP.dcmp res d116) .l = v := ⟨_, rfl⟩
      have e123 : k123 = 0 := by rw [← hk123, hr]; exact cmp_eq (hd116 ▸ nd) (hd116 ▸ nd) rfl .l
      have c23 : ∀ t, Steps p.tables e below (T15.setTop (mkF m 132 #[.val (.int p1), .val (.int p2), .val (.int p3), .val (.int p4), .val (.long mm), .second, .val (.long fl), .second, .val (.long va), .second, .val (.long tt), .second, .val (.ref ob), .val (.double res), .second, .val (.double d116), .second, .val (.long ss), .second, .val (.long nu), .second, .val (.long de), .second] [(.int (1 : Int32))])) t → Steps p.tables e below (s₁.setTop (entryFrame m #[(.int p1), (.int p2), (.int p3), (.int p4)] maxLocals)) t := fun t k => c22 t (by
        show Steps p.tables e below (T15.setTop (mkF m 110 #[.val (.int p1), .val (.int p2), .val (.int p3), .val (.int p4), .val (.long mm), .second, .val (.long fl), .second, .val (.long va), .second, .val (.long tt), .second, .val (.ref ob), .val (.double res), .second, .unset, .unset, .val (.long ss), .second, .val (.long nu), .second, .val (.long de), .second] [])) _
        refine XT.lload X15.here hx rfl (hb hby at_110) rfl ?_
        show Steps p.tables e below (T15.setTop (mkF m 112 #[.val (.int p1), .val (.int p2), .val (.int p3), .val (.int p4), .val (.long mm), .second, .val (.long fl), .second, .val (.long va), .second, .val (.long tt), .second, .val (.ref ob), .val (.double res), .second, .unset, .unset, .val (.long ss), .second, .val (.long nu), .second, .val (.long de), .second] [(.long nu)])) _
        refine XS.l2dS X15.here hx rfl (hb hby at_112) rfl hd112 ?_
        show Steps p.tables e below (T15.setTop (mkF m 113 #[.val (.int p1), .val (.int p2), .val (.int p3), .val (.int p4), .val (.long mm), .second, .val (.long fl), .second, .val (.long va), .second, .val (.long tt), .second, .val (.ref ob), .val (.double res), .second, .unset, .unset, .val (.long ss), .second, .val (.long nu), .second, .val (.long de), .second] [(.double d112)])) _
        refine XT.lload X15.here hx rfl (hb hby at_113) rfl ?_
        show Steps p.tables e below (T15.setTop (mkF m 115 #[.val (.int p1), .val (.int p2), .val (.int p3), .val (.int p4), .val (.long mm), .second, .val (.long fl), .second, .val (.long va), .second, .val (.long tt), .second, .val (.ref ob), .val (.double res), .second, .unset, .unset, .val (.long ss), .second, .val (.long nu), .second, .val (.long de), .second] [(.long de), (.double d112)])) _
        refine XS.l2dS X15.here hx rfl (hb hby at_115) rfl hd115 ?_
        show Steps p.tables e below (T15.setTop (mkF m 116 #[.val (.int p1), .val (.int p2), .val (.int p3), .val (.int p4), .val (.long mm), .second, .val (.long fl), .second, .val (.long va), .second, .val (.long tt), .second, .val (.ref ob), .val (.double res), .second, .unset, .unset, .val (.long ss), .second, .val (.long nu), .second, .val (.long de), .second] [(.double d115), (.double d112)])) _
        refine XS.ddivS X15.here hx rfl (hb hby at_116) rfl (noNaN_of nd) hd116 ?_
        show Steps p.tables e below (T15.setTop (mkF m 117 #[.val (.int p1), .val (.int p2), .val (.int p3), .val (.int p4), .val (.long mm), .second, .val (.long fl), .second, .val (.long va), .second, .val (.long tt), .second, .val (.ref ob), .val (.double res), .second, .unset, .unset, .val (.long ss), .second, .val (.long nu), .second, .val (.long de), .second] [(.double d116)])) _
        refine XS.dstore X15.here hx rfl (hb hby at_117) rfl (l' := #[.val (.int p1), .val (.int p2), .val (.int p3), .val (.int p4), .val (.long mm), .second, .val (.long fl), .second, .val (.long va), .second, .val (.long tt), .second, .val (.ref ob), .val (.double res), .second, .val (.double d116), .second, .val (.long ss), .second, .val (.long nu), .second, .val (.long de), .second]) rfl ?_
        show Steps p.tables e below (T15.setTop (mkF m 119 #[.val (.int p1), .val (.int p2), .val (.int p3), .val (.int p4), .val (.long mm), .second, .val (.long fl), .second, .val (.long va), .second, .val (.long tt), .second, .val (.ref ob), .val (.double res), .second, .val (.double d116), .second, .val (.long ss), .second, .val (.long nu), .second, .val (.long de), .second] [])) _
        refine XS.dload X15.here hx rfl (hb hby at_119) rfl ?_
        show Steps p.tables e below (T15.setTop (mkF m 121 #[.val (.int p1), .val (.int p2), .val (.int p3), .val (.int p4), .val (.long mm), .second, .val (.long fl), .second, .val (.long va), .second, .val (.long tt), .second, .val (.ref ob), .val (.double res), .second, .val (.double d116), .second, .val (.long ss), .second, .val (.long nu), .second, .val (.long de), .second] [(.double res)])) _
        refine XS.dload X15.here hx rfl (hb hby at_121) rfl ?_
        show Steps p.tables e below (T15.setTop (mkF m 123 #[.val (.int p1), .val (.int p2), .val (.int p3), .val (.int p4), .val (.long mm), .second, .val (.long fl), .second, .val (.long va), .second, .val (.long tt), .second, .val (.ref ob), .val (.double res), .second, .val (.double d116), .second, .val (.long ss), .second, .val (.long nu), .second, .val (.long de), .second] [(.double d116), (.double res)])) _
        refine XS.dcmpS X15.here hx rfl (hb hby at_123) rfl hk123 ?_
        show Steps p.tables e below (T15.setTop (mkF m 124 #[.val (.int p1), .val (.int p2), .val (.int p3), .val (.int p4), .val (.long mm), .second, .val (.long fl), .second, .val (.long va), .second, .val (.long tt), .second, .val (.ref ob), .val (.double res), .second, .val (.double d116), .second, .val (.long ss), .second, .val (.long nu), .second, .val (.long de), .second] [(.int k123)])) _
        refine XS.ifNo X15.here hx rfl (hb hby at_124) rfl (XT.i0_ne_f e123) ?_
        show Steps p.tables e below (T15.setTop (mkF m 127 #[.val (.int p1), .val (.int p2), .val (.int p3), .val (.int p4), .val (.long mm), .second, .val (.long fl), .second, .val (.long va), .second, .val (.long tt), .second, .val (.ref ob), .val (.double res), .second, .val (.double d116), .second, .val (.long ss), .second, .val (.long nu), .second, .val (.long de), .second] [])) _
        refine XS.iconst X15.here hx rfl (hb hby at_127) ?_
        show Steps p.tables e below (T15.setTop (mkF m 128 #[.val (.int p1), .val (.int p2), .val (.int p3), .val (.int p4), .val (.long mm), .second, .val (.long fl), .second, .val (.long va), .second, .val (.long tt), .second, .val (.ref ob), .val (.double res), .second, .val (.double d116), .second, .val (.long ss), .second, .val (.long nu), .second, .val (.long de), .second] [(.int (1 : Int32))])) _
        refine XS.goto X15.here hx rfl (pc0 := 128) (pc' := 132) rfl (hb hby at_128) (by decide) (by decide) ?_
        show Steps p.tables e below (T15.setTop (mkF m 132 #[.val (.int p1), .val (.int p2), .val (.int p3), .val (.int p4), .val (.long mm), .second, .val (.long fl), .second, .val (.long va), .second, .val (.long tt), .second, .val (.ref ob), .val (.double res), .second, .val (.double d116), .second, .val (.long ss), .second, .val (.long nu), .second, .val (.long de), .second] [(.int (1 : Int32))])) _
        exact k)
      obtain ⟨fs, hr, hrun, hended, hW, hsame⟩ := X15.leave (v := (some (.int (1 : Int32)))) (fun h => by rw [Bd.returns] at h; cases h)
      refine ⟨_, _, pre0 _ (c23 _ (retN X15 hx (t := .boolean) Bd.returns (by simp) (hb hby at_132) hr)), hrun, hended, _, _, rfl, ?_, ⟨_, rfl⟩, hW, hsame.mono (by decide) (by decide)⟩
      show Q_0 Z p1 p2 p3 p4 h0 n0 _ T15.heap _
      rw [e15]
      exact ⟨rfl, M15⟩
    · skip
      have q2 : ¬ tt.toInt < mm.toInt := fun q => q80 (lt64.mpr q)
      have hr := hr2 q1 q2
      obtain ⟨k123, hk123⟩ : ∃ v : Int32, cmpValue (FP.dcmp res FP.dconst0) .l = v := ⟨_, rfl⟩
      have e123 : k123 = 0 := by rw [← hk123, hr]; exact cmp_eq (notNan DS.zero.1) (notNan DS.zero.1) rfl .l
      have c24 : ∀ t, Steps p.tables e below (T15.setTop (mkF m 132 #[.val (.int p1), .val (.int p2), .val (.int p3), .val (.int p4), .val (.long mm), .second, .val (.long fl), .second, .val (.long va), .second, .val (.long tt), .second, .val (.ref ob), .val (.double res), .second, .val (.double FP.dconst0), .second, .unset, .unset, .unset, .unset, .unset, .unset] [(.int (1 : Int32))])) t → Steps p.tables e below (s₁.setTop (entryFrame m #[(.int p1), (.int p2), (.int p3), (.int p4)] maxLocals)) t := fun t k => c19 t (by
        show Steps p.tables e below (T15.setTop (mkF m 80 #[.val (.int p1), .val (.int p2), .val (.int p3), .val (.int p4), .val (.long mm), .second, .val (.long fl), .second, .val (.long va), .second, .val (.long tt), .second, .val (.ref ob), .val (.double res), .second, .unset, .unset, .unset, .unset, .unset, .unset, .unset, .unset] [(.int (XT.cmpL tt mm))])) _
        refine XS.ifNo X15.here hx rfl (hb hby at_80) rfl (XT.ll_lt_f q80) ?_
        show Steps p.tables e below (T15.setTop (mkF m 83 #[.val (.int p1), .val (.int p2), .val (.int p3), .val (.int p4), .val (.long mm), .second, .val (.long fl), .second, .val (.long va), .second, .val (.long tt), .second, .val (.ref ob), .val (.double res), .second, .unset, .unset, .unset, .unset, .unset, .unset, .unset, .unset] [])) _
        refine XS.dconst0 X15.here hx rfl (hb hby at_83) rfl ?_
        show Steps p.tables e below (T15.setTop (mkF m 84 #[.val (.int p1), .val (.int p2), .val (.int p3), .val (.int p4), .val (.long mm), .second, .val (.long fl), .second, .val (.long va), .second, .val (.long tt), .second, .val (.ref ob), .val (.double res), .second, .unset, .unset, .unset, .unset, .unset, .unset, .unset, .unset] [(.double FP.dconst0)])) _
        refine XS.dstore X15.here hx rfl (hb hby at_84) rfl (l' := #[.val (.int p1), .val (.int p2), .val (.int p3), .val (.int p4), .val (.long mm), .second, .val (.long fl), .second, .val (.long va), .second, .val (.long tt), .second, .val (.ref ob), .val (.double res), .second, .val (.double FP.dconst0), .second, .unset, .unset, .unset, .unset, .unset, .unset]) rfl ?_
        show Steps p.tables e below (T15.setTop (mkF m 86 #[.val (.int p1), .val (.int p2), .val (.int p3), .val (.int p4), .val (.long mm), .second, .val (.long fl), .second, .val (.long va), .second, .val (.long tt), .second, .val (.ref ob), .val (.double res), .second, .val (.double FP.dconst0), .second, .unset, .unset, .unset, .unset, .unset, .unset] [])) _
        refine XS.goto X15.here hx rfl (pc0 := 86) (pc' := 119) rfl (hb hby at_86) (by decide) (by decide) ?_
        show Steps p.tables e below (T15.setTop (mkF m 119 #[.val (.int p1), .val (.int p2), .val (.int p3), .val (.int p4), .val (.long mm), .second, .val (.long fl), .second, .val (.long va), .second, .val (.long tt), .second, .val (.ref ob), .val (.double res), .second, .val (.double FP.dconst0), .second, .unset, .unset, .unset, .unset, .unset, .unset] [])) _
        refine XS.dload X15.here hx rfl (hb hby at_119) rfl ?_
        show Steps p.tables e below (T15.setTop (mkF m 121 #[.val (.int p1), .val (.int p2), .val (.int p3), .val (.int p4), .val (.long mm), .second, .val (.long fl), .second, .val (.long va), .second, .val (.long tt), .second, .val (.ref ob), .val (.double res), .second, .val (.double FP.dconst0), .second, .unset, .unset, .unset, .unset, .unset, .unset] [(.double res)])) _
        refine XS.dload X15.here hx rfl (hb hby at_121) rfl ?_
        show Steps p.tables e below (T15.setTop (mkF m 123 #[.val (.int p1), .val (.int p2), .val (.int p3), .val (.int p4), .val (.long mm), .second, .val (.long fl), .second, .val (.long va), .second, .val (.long tt), .second, .val (.ref ob), .val (.double res), .second, .val (.double FP.dconst0), .second, .unset, .unset, .unset, .unset, .unset, .unset] [(.double FP.dconst0), (.double res)])) _
        refine XS.dcmpS X15.here hx rfl (hb hby at_123) rfl hk123 ?_
        show Steps p.tables e below (T15.setTop (mkF m 124 #[.val (.int p1), .val (.int p2), .val (.int p3), .val (.int p4), .val (.long mm), .second, .val (.long fl), .second, .val (.long va), .second, .val (.long tt), .second, .val (.ref ob), .val (.double res), .second, .val (.double FP.dconst0), .second, .unset, .unset, .unset, .unset, .unset, .unset] [(.int k123)])) _
        refine XS.ifNo X15.here hx rfl (hb hby at_124) rfl (XT.i0_ne_f e123) ?_
        show Steps p.tables e below (T15.setTop (mkF m 127 #[.val (.int p1), .val (.int p2), .val (.int p3), .val (.int p4), .val (.long mm), .second, .val (.long fl), .second, .val (.long va), .second, .val (.long tt), .second, .val (.ref ob), .val (.double res), .second, .val (.double FP.dconst0), .second, .unset, .unset, .unset, .unset, .unset, .unset] [])) _
        refine XS.iconst X15.here hx rfl (hb hby at_127) ?_
        show Steps p.tables e below (T15.setTop (mkF m 128 #[.val (.int p1), .val (.int p2), .val (.int p3), .val (.int p4), .val (.long mm), .second, .val (.long fl), .second, .val (.long va), .second, .val (.long tt), .second, .val (.ref ob), .val (.double res), .second, .val (.double FP.dconst0), .second, .unset, .unset, .unset, .unset, .unset, .unset] [(.int (1 : Int32))])) _
        refine XS.goto X15.here hx rfl (pc0 := 128) (pc' := 132) rfl (hb hby at_128) (by decide) (by decide) ?_
        show Steps p.tables e below (T15.setTop (mkF m 132 #[.val (.int p1), .val (.int p2), .val (.int p3), .val (.int p4), .val (.long mm), .second, .val (.long fl), .second, .val (.long va), .second, .val (.long tt), .second, .val (.ref ob), .val (.double res), .second, .val (.double FP.dconst0), .second, .unset, .unset, .unset, .unset, .unset, .unset] [(.int (1 : Int32))])) _
        exact k)
      obtain ⟨fs, hr, hrun, hended, hW, hsame⟩ := X15.leave (v := (some (.int (1 : Int32)))) (fun h => by rw [Bd.returns] at h; cases h)
      refine ⟨_, _, pre0 _ (c24 _ (retN X15 hx (t := .boolean) Bd.returns (by simp) (hb hby at_132) hr)), hrun, hended, _, _, rfl, ?_, ⟨_, rfl⟩, hW, hsame.mono (by decide) (by decide)⟩
      show Q_0 Z p1 p2 p3 p4 h0 n0 _ T15.heap _
      rw [e15]
      exact ⟨rfl, M15⟩
set_option maxRecDepth 65536 in
set_option maxHeartbeats 40000000 in
theorem comes_1 {Post : Tables → Env → Array Value → State → Outcome → State → Prop} (hpost : ∀ tb e args s v u, (limb_1_1.after args s (.returned v) u = true ∧ limb_1_2.after args s (.returned v) u = true ∧ True) → FrameEnd s (.returned v) u (Jvm.fieldLocs frame_1_writes args s ++ Jvm.arrayLocs frame_1_arrays args s ++ Jvm.staticLocs frame_1_statics s) 16 128 → Post tb e args s (.returned v) u) :
    ArmFor flags0 classFile x code maxLocals ret World_1 tables_1 room_1 Calls_1 rest_1 Pre_1 Post := by
  intro l hfl _ _ p e ha hc hk s m args below hf hA hF happ hP
  obtain ⟨hcalls, hrest, hpre⟩ := hP
  obtain ⟨-, -, -, hnamed, -, -, -, hat⟩ := (Spec.applies_iff hf).mp happ
  obtain ⟨hg, hn⟩ := and_e (Cond.before_iff.mp (show (Jvm.Cond.and given_1 narrow_1).before args s = true from hpre))
  obtain ⟨g0, r0⟩ := and_e hg
  obtain ⟨g1, r1⟩ := and_e r0
  obtain ⟨g2, r2⟩ := and_e r1
  obtain ⟨g3, r3⟩ := and_e r2
  obtain ⟨w0, w1, w2, w3, rfl⟩ : ∃ w0 w1 w2 w3 : Value, args = #[w0, w1, w2, w3] := by
    have hs : args.size = 4 := by simpa [Cond.value, given_1] using g0
    obtain ⟨L⟩ := args
    match L, hs with
    | [w0, w1, w2, w3], _ => exact ⟨w0, w1, w2, w3, rfl⟩
  have hw := fun d (hd : d ∈ tables_1) => atoms_spec (ws := Jvm.Cond.code x code maxLocals ret :: tables_1) hat d (List.mem_cons_of_mem _ hd)
  obtain ⟨i0, e0⟩ := is_v g1
  obtain rfl : w0 = (.int i0) := Option.some.inj e0
  obtain ⟨i1, e1⟩ := is_v g2
  obtain rfl : w1 = (.int i1) := Option.some.inj e1
  obtain ⟨i2, e2⟩ := is_v g3
  obtain rfl : w2 = (.int i2) := Option.some.inj e2
  obtain ⟨i3, e3⟩ := is_v r3
  obtain rfl : w3 = (.int i3) := Option.some.inj e3
  obtain ⟨n, o, h1, h2, h3, _, L, rfl, ⟨rfl, N⟩, hq⟩ := rm_0 l s _ hw tables_1 i0 i1 i2 i3 s.heap s.heap.size (Nat.le_refl _)  p e ha hc hk s m _ below hf ((Spec.applies_iff_loose hf).mp happ).1 ⟨rfl, State.Warmed39.refl s, rfl⟩ trivial
  refine ⟨n, _, h1, h2, h3, hpost _ _ _ _ _ _ ⟨Cond.after_iff.mpr rfl, Cond.after_iff.mpr (eq_i res_at (Term.int_eval (1)) rfl), trivial⟩ ⟨hq.1, hq.2.1, (hq.2.2.sift fun y hy => Or.inr (N y hy)).mono (by decide) (by decide)⟩⟩
theorem main_1_1 : Claimed_1_1 := comes_1 fun _ _ _ _ _ _ h hF => ⟨h.1, hF⟩
theorem main_1_2 : Claimed_1_2 := comes_1 fun _ _ _ _ _ _ h hF => ⟨h.2.1, hF⟩
end Jvm.Pilot.@@N@@
namespace Jvm.Pilot.@@N@@
open Jvm Jvm.ClassFile Sem Op Lib Jvm.Free Jvm.Stand Jvm.Pilot.@@N@@.Jvm.D
/-! MADE BY PROGRAM (witnessworld.py) out of the Statement's table words and the real class files: 11 classes; the members and pool entries that the words name. The judged class is class 1, her method 1. -/
namespace start1
open Jvm.ClassFile
def u (s : String) : CpInfo := .utf8 (stringToUtf16 s)
/-- a pool by its gaps: so many unusable entries, then the entry; so many at the end -/
def gap : Nat → List CpInfo → List CpInfo
  | 0, r => r
  | n + 1, r => .unusable :: gap n r
def poolList (es : List (Nat × CpInfo)) (last : Nat) : List CpInfo := es.foldr (fun e r => gap e.1 (e.2 :: r)) (gap last [])
def pool (es : List (Nat × CpInfo)) (last : Nat) : Array CpInfo := ⟨poolList es last⟩
def fileOf (pool : Array CpInfo) (this : Nat) (attrs : Array Attribute := #[]) (ms : Array MethodInfo := #[]) (fl : Nat := 33) (sup : Nat := 0) (ifs : Array Nat := #[]) (fds : Array FieldInfo := #[]) : ClassFile where
  minorVersion := 0
  majorVersion := 65
  constantPool := pool
  accessFlags := fl
  thisClass := this
  superClass := sup
  interfaces := ifs
  fields := fds
  methods := ms
  attributes := attrs
def plain (name : String) (sup : Option ClassId) : Class where
  name := name
  kind := .ordinary
  loader := none
  accessFlags := 33
  super := sup
  interfaces := #[]
  cf := none
  fields := #[]
  methods := #[]
  instanceTypes := #[]
  staticTypes := #[]
  resolved := #[]
  callSites := []
  init := .initialized
  statics := none
  mirror := none

def pool0 : Array CpInfo := pool [(5, u "<init>"), (0, u "()V"), (1, .class_ 10), (1, u "java/lang/Object")] 113

def k0c0 : Code := { maxStack := 0, maxLocals := 1, code := object_method_1_code, exceptionTable := #[], attributes := #[] }
def k0m0 : Method := { name := "<init>", desc := "()V", sig := { parameters := [], returnType := none }, accessFlags := 1, code := some k0c0 }
/-- java/lang/Object -/
def k0 : Class := { plain "java/lang/Object" none with
  accessFlags := 33
  interfaces := #[]
  cf := some (fileOf pool0 8 #[] #[{ accessFlags := 1, nameIndex := 5, descriptorIndex := 6, attributes := #[] }] 33 0 #[] #[])
  fields := #[]
  methods := #[k0m0]
  instanceTypes := #[]
  staticTypes := #[]
  resolved := Array.replicate 124 none
  statics := none }

def pool1 : Array CpInfo := pool [(2, .class_ 4), (1, u "java/lang/Object"), (0, u "<init>"), (0, u "()V"), (0, .integer 1000000), (0, .integer 1048575), (0, .integer 268435455), (0, .integer 4000000), (0, .class_ 12), (0, u "com/example/pulsewarden/pulsewarden/DelayModel$MeanAndVariance"), (0, .methodref 11 14), (0, .nameAndType 5 15), (0, u "(DDD)V"), (0, .methodref 11 17), (0, .nameAndType 18 19), (0, u "leastTail"), (0, u "(D)D"), (0, .class_ 21), (0, u "com/example/pulsewarden/pulsewarden/MeanAndVarianceLeastTailPinLaw"), (2, u "law"), (0, u "(IIII)Z")] 7

def k1m0 : Method := { name := "<init>", desc := "()V", sig := { parameters := [], returnType := none }, accessFlags := 2, code := none }
def k1c1 : Code := { maxStack := 8, maxLocals := 23, code := code, exceptionTable := #[], attributes := #[] }
def k1m1 : Method := { name := "law", desc := "(IIII)Z", sig := { parameters := [.int, .int, .int, .int], returnType := some .boolean }, accessFlags := 9, code := some k1c1 }
/-- com/example/pulsewarden/pulsewarden/MeanAndVarianceLeastTailPinLaw -/
def k1 : Class := { plain "com/example/pulsewarden/pulsewarden/MeanAndVarianceLeastTailPinLaw" (some 0) with
  accessFlags := 49
  interfaces := #[]
  cf := some (fileOf pool1 20 #[] #[{ accessFlags := 2, nameIndex := 5, descriptorIndex := 6, attributes := #[] }, { accessFlags := 9, nameIndex := 24, descriptorIndex := 25, attributes := #[] }] 49 2 #[] #[])
  fields := #[]
  methods := #[k1m0, k1m1]
  instanceTypes := #[]
  staticTypes := #[]
  resolved := Array.replicate 33 none
  statics := none }

def pool2 : Array CpInfo := pool [(1, .methodref 2 3), (0, .class_ 4), (0, .nameAndType 5 6), (0, u "java/lang/Object"), (0, u "<init>"), (0, u "()V"), (0, .class_ 8), (0, u "java/lang/Record")] 13

def k2c0 : Code := { maxStack := 1, maxLocals := 1, code := jdk_30_method_1_code, exceptionTable := #[], attributes := #[] }
def k2m0 : Method := { name := "<init>", desc := "()V", sig := { parameters := [], returnType := none }, accessFlags := 4, code := some k2c0 }
/-- java/lang/Record -/
def k2 : Class := { plain "java/lang/Record" (some 0) with
  accessFlags := 1057
  interfaces := #[]
  cf := some (fileOf pool2 7 #[] #[{ accessFlags := 4, nameIndex := 5, descriptorIndex := 6, attributes := #[] }] 1057 2 #[] #[])
  fields := #[]
  methods := #[k2m0]
  instanceTypes := #[]
  staticTypes := #[]
  resolved := Array.replicate 22 none
  statics := none }

def pool3 : Array CpInfo := pool [(2, .class_ 4), (1, u "com/example/pulsewarden/pulsewarden/DelayModel"), (41, .class_ 47), (0, u "java/lang/Object"), (19, .class_ 68), (0, u "com/example/pulsewarden/pulsewarden/DelayModel$MeanAndVariance"), (0, .class_ 70), (0, u "com/example/pulsewarden/pulsewarden/DelayModel$MeanAndVariance$Bound"), (0, .class_ 72), (0, u "com/example/pulsewarden/pulsewarden/DelayModel$Exponential"), (0, .class_ 74), (0, u "com/example/pulsewarden/pulsewarden/DelayModel$Exponential$Lossy"), (0, .class_ 76), (0, u "com/example/pulsewarden/pulsewarden/DelayModel$Exponential$Lossless"), (0, .class_ 78), (0, u "com/example/pulsewarden/pulsewarden/DelayModel$LogUndelivered")] 22

/-- com/example/pulsewarden/pulsewarden/DelayModel -/
def k3 : Class := { plain "com/example/pulsewarden/pulsewarden/DelayModel" (some 0) with
  accessFlags := 1537
  interfaces := #[]
  cf := some (fileOf pool3 2 #[.nestMembers #[67, 69, 71, 73, 75, 77]] #[] 1537 46 #[] #[])
  fields := #[]
  methods := #[]
  instanceTypes := #[]
  staticTypes := #[]
  resolved := Array.replicate 101 none
  statics := none }

def pool4 : Array CpInfo := pool [(1, .methodref 2 3), (0, .class_ 4), (0, .nameAndType 5 6), (0, u "java/lang/Record"), (0, u "<init>"), (0, u "()V"), (2, .double 9218868437227405312), (10, .fieldref 21 22), (0, .class_ 23), (0, .nameAndType 24 25), (0, u "com/example/pulsewarden/pulsewarden/DelayModel$MeanAndVariance"), (0, u "meanSeconds"), (0, u "D"), (0, .fieldref 21 27), (0, .nameAndType 28 25), (0, u "varianceSeconds2"), (0, .fieldref 21 30), (0, .nameAndType 31 25), (0, u "floorSeconds"), (2, u "(DDD)V"), (7, u "(D)D"), (1, .class_ 46), (1, u "com/example/pulsewarden/pulsewarden/DelayModel"), (67, u "leastTail")] 47

def k4c0 : Code := { maxStack := 8, maxLocals := 7, code := prog_15_method_1_code, exceptionTable := #[], attributes := #[] }
def k4m0 : Method := { name := "<init>", desc := "(DDD)V", sig := { parameters := [.double, .double, .double], returnType := none }, accessFlags := 1, code := some k4c0 }
def k4c1 : Code := { maxStack := 8, maxLocals := 5, code := prog_15_method_5_code, exceptionTable := #[], attributes := #[] }
def k4m1 : Method := { name := "leastTail", desc := "(D)D", sig := { parameters := [.double], returnType := some .double }, accessFlags := 1, code := some k4c1 }
/-- com/example/pulsewarden/pulsewarden/DelayModel$MeanAndVariance -/
def k4 : Class := { plain "com/example/pulsewarden/pulsewarden/DelayModel$MeanAndVariance" (some 2) with
  accessFlags := 49
  interfaces := #[3]
  cf := some (fileOf pool4 21 #[.nestHost 44] #[{ accessFlags := 1, nameIndex := 5, descriptorIndex := 34, attributes := #[] }, { accessFlags := 1, nameIndex := 114, descriptorIndex := 42, attributes := #[] }] 49 2 #[44] #[{ accessFlags := 18, nameIndex := 24, descriptorIndex := 25, attributes := #[] }, { accessFlags := 18, nameIndex := 28, descriptorIndex := 25, attributes := #[] }, { accessFlags := 18, nameIndex := 31, descriptorIndex := 25, attributes := #[] }])
  fields := #[{ name := "meanSeconds", type := .double, accessFlags := 18, slot := 0, constantValue := 0 }, { name := "varianceSeconds2", type := .double, accessFlags := 18, slot := 1, constantValue := 0 }, { name := "floorSeconds", type := .double, accessFlags := 18, slot := 2, constantValue := 0 }]
  methods := #[k4m0, k4m1]
  instanceTypes := #[.double, .double, .double]
  staticTypes := #[]
  resolved := Array.replicate 162 none
  statics := none }

def pool5 : Array CpInfo := pool [(1, u "java/lang/Cloneable"), (0, .class_ 1), (0, u "java/lang/Object"), (0, .class_ 3)] 3

/-- java/lang/Cloneable -/
def k5 : Class := { plain "java/lang/Cloneable" (some 0) with
  accessFlags := 1537
  interfaces := #[]
  cf := some (fileOf pool5 2 #[] #[] 1537 4 #[] #[])
  fields := #[]
  methods := #[]
  instanceTypes := #[]
  staticTypes := #[]
  resolved := Array.replicate 8 none
  statics := none }

def pool6 : Array CpInfo := pool [(1, u "java/io/Serializable"), (0, .class_ 1), (0, u "java/lang/Object"), (0, .class_ 3)] 3

/-- java/io/Serializable -/
def k6 : Class := { plain "java/io/Serializable" (some 0) with
  accessFlags := 1537
  interfaces := #[]
  cf := some (fileOf pool6 2 #[] #[] 1537 4 #[] #[])
  fields := #[]
  methods := #[]
  instanceTypes := #[]
  staticTypes := #[]
  resolved := Array.replicate 8 none
  statics := none }

/-- the primitive byte -/
def k7 : Class := { plain "byte" none with kind := .primitive 'B', accessFlags := 0x411 }
/-- [B -/
def k8 : Class := { plain "[B" (some 0) with kind := .array 7 .byte, interfaces := #[5, 6], accessFlags := 1041 }

/-- the primitive int -/
def k9 : Class := { plain "int" none with kind := .primitive 'I', accessFlags := 0x411 }
/-- [I -/
def k10 : Class := { plain "[I" (some 0) with kind := .array 9 .int, interfaces := #[5, 6], accessFlags := 1041 }

def heap : Heap := #[]
def classes : Array Class := #[k0, k1, k2, k3, k4, k5, k6, k7, k8, k9, k10]
def interned : List (Array UInt16 × Addr) := []
def slotsUsed : Nat := 0
def theMethod : MethodId := ⟨1, 1⟩
def args0 : Array Value := #[.int 1, .int 2, .int 1, .int 0]
def aboutOver (below : List Frame) : State where
  vm := { classes := classes, interned := interned.toArray }
  heap := heap
  slotsUsed := slotsUsed
  threads := #[{ frames := .invoking theMethod args0 :: below }]
def below0 : List Frame := [.native { method := ⟨0, 0⟩, args := #[] }]
def about1 : State := aboutOver below0
def p0 : Program := .bare "" "" ""
def e0 : Env := launch0.env 0 0 0
theorem w_frames : about1.frames = Frame.invoking theMethod args0 :: below0 := rfl
set_option maxRecDepth 65536 in
theorem w_args : argsFit about1.vm theMethod args0 = true := by decide +kernel
set_option maxRecDepth 65536 in
theorem w_heap : heapFits about1 = true := by decide +kernel
set_option maxRecDepth 65536 in
theorem w_runnable : about1.curStatus? = some .runnable := by decide +kernel
set_option maxRecDepth 65536 in
theorem w_alone : about1.alone = true := by decide +kernel
set_option maxRecDepth 65536 in
theorem w_named : about1.methodNamed? x = some theMethod := by decide +kernel
set_option maxRecDepth 65536 in
theorem w_hears : about1.hears theMethod below0 = true := by decide +kernel
set_option maxRecDepth 65536 in
theorem w_ripe : about1.ripe theMethod args0 below0 = true := by decide +kernel
theorem w_running : about1.status = .running := rfl
set_option maxRecDepth 65536 in
theorem w_room : about1.hasRoom e0.platform room_1 = true :=
  launch0.hasRoom_least _ room_1 (by decide +kernel) (by decide +kernel) (by decide +kernel) (by decide +kernel) (by decide +kernel) (by decide +kernel)
theorem allAtoms_all (ts : List Jvm.Cond) (a : Array Jvm.Value) (st : Jvm.State) : (allAtoms ts).before a st = ts.all (fun c => c.before a st) := by
  induction ts with
  | nil => rfl
  | cons c t ih =>
    show (Jvm.Cond.and c (allAtoms t)).before a st = _
    rw [Jvm.Cond.before_and, ih, List.all_cons]
def words1 : List Jvm.Cond := Jvm.Cond.code x code maxLocals ret :: tables_1
/-- a 'code' word, met by the world's own term for the bytes: nothing is compared byte by byte -/
theorem code_word {y : MethodName} {bytes : ByteArray} {mx : Nat} {rt : Option FieldType} {a : Array Value} {s : State} {m : MethodId} {meth : Method} {c : Code} (h1 : s.methodNamed? y = some m) (h2 : s.vm.method? m = some meth) (h3 : meth.code = some c) (h4 : c.code = bytes)
    (h5 : (c.maxLocals == mx && c.exceptionTable.isEmpty && decide (c.maxStack ≤ mostOperands) && decide (meth.sig.returnType = rt) && !meth.locks && decide (parseMethodDescriptor y.desc = some meth.sig)) = true) : (Jvm.Cond.code y bytes mx rt).before a s = true := by
  simp only [Bool.and_eq_true, beq_iff_eq, Bool.not_eq_true', decide_eq_true_eq] at h5
  obtain ⟨⟨⟨⟨⟨g1, g2⟩, g3⟩, g4⟩, g5⟩, g6⟩ := h5
  simp [Cond.before, Cond.holds, Cond.value, h1, h2, h3, h4, g1, g2, g3, g4, g5, g6]
def isCode : Jvm.Cond → Bool
  | .code _ _ _ _ => true
  | _ => false
theorem all_split {L : List Jvm.Cond} {P : Jvm.Cond → Bool} (h1 : L.all (fun c => isCode c || P c) = true) (h2 : ∀ c ∈ L.filter isCode, P c = true) : L.all P = true := by
  refine List.all_eq_true.mpr fun c hc => ?_
  have h := List.all_eq_true.mp h1 c hc
  rcases Bool.eq_false_or_eq_true (isCode c) with hi | hi
  · exact h2 c (List.mem_filter.mpr ⟨hc, hi⟩)
  · simpa [hi] using h
set_option maxRecDepth 65536 in
theorem w_c0 : (Jvm.Cond.code x code maxLocals ret).before args0 about1 = true := code_word (m := ⟨1, 1⟩) (meth := k1m1) (c := k1c1) (by decide +kernel) rfl rfl rfl (by decide +kernel)
set_option maxRecDepth 65536 in
theorem w_c1 : (Jvm.Cond.code ({ cls := "com/example/pulsewarden/pulsewarden/DelayModel$MeanAndVariance", name := "<init>", desc := "(DDD)V" } : Jvm.MethodName) prog_15_method_1_code (7 : Nat) (Option.none : Option Jvm.ClassFile.FieldType)).before args0 about1 = true := code_word (m := ⟨4, 0⟩) (meth := k4m0) (c := k4c0) (by decide +kernel) rfl rfl rfl (by decide +kernel)
set_option maxRecDepth 65536 in
theorem w_c2 : (Jvm.Cond.code ({ cls := "java/lang/Record", name := "<init>", desc := "()V" } : Jvm.MethodName) jdk_30_method_1_code (1 : Nat) (Option.none : Option Jvm.ClassFile.FieldType)).before args0 about1 = true := code_word (m := ⟨2, 0⟩) (meth := k2m0) (c := k2c0) (by decide +kernel) rfl rfl rfl (by decide +kernel)
set_option maxRecDepth 65536 in
theorem w_c3 : (Jvm.Cond.code ({ cls := "java/lang/Object", name := "<init>", desc := "()V" } : Jvm.MethodName) object_method_1_code (1 : Nat) (Option.none : Option Jvm.ClassFile.FieldType)).before args0 about1 = true := code_word (m := ⟨0, 0⟩) (meth := k0m0) (c := k0c0) (by decide +kernel) rfl rfl rfl (by decide +kernel)
set_option maxRecDepth 65536 in
theorem w_c4 : (Jvm.Cond.code ({ cls := "com/example/pulsewarden/pulsewarden/DelayModel$MeanAndVariance", name := "leastTail", desc := "(D)D" } : Jvm.MethodName) prog_15_method_5_code (5 : Nat) (Option.some Jvm.ClassFile.FieldType.double)).before args0 about1 = true := code_word (m := ⟨4, 1⟩) (meth := k4m1) (c := k4c1) (by decide +kernel) rfl rfl rfl (by decide +kernel)
def codes1 : List Jvm.Cond := [Jvm.Cond.code x code maxLocals ret, Jvm.Cond.code ({ cls := "com/example/pulsewarden/pulsewarden/DelayModel$MeanAndVariance", name := "<init>", desc := "(DDD)V" } : Jvm.MethodName) prog_15_method_1_code (7 : Nat) (Option.none : Option Jvm.ClassFile.FieldType), Jvm.Cond.code ({ cls := "java/lang/Record", name := "<init>", desc := "()V" } : Jvm.MethodName) jdk_30_method_1_code (1 : Nat) (Option.none : Option Jvm.ClassFile.FieldType), Jvm.Cond.code ({ cls := "java/lang/Object", name := "<init>", desc := "()V" } : Jvm.MethodName) object_method_1_code (1 : Nat) (Option.none : Option Jvm.ClassFile.FieldType), Jvm.Cond.code ({ cls := "com/example/pulsewarden/pulsewarden/DelayModel$MeanAndVariance", name := "leastTail", desc := "(D)D" } : Jvm.MethodName) prog_15_method_5_code (5 : Nat) (Option.some Jvm.ClassFile.FieldType.double)]
set_option maxRecDepth 65536 in
theorem codes_eq : words1.filter isCode = codes1 := rfl
theorem w_codes : ∀ c ∈ words1.filter isCode, c.before args0 about1 = true := by
  rw [codes_eq]
  intro c hc
  simp only [codes1, List.mem_cons, List.not_mem_nil, or_false] at hc
  rcases hc with rfl | rfl | rfl | rfl | rfl
  · exact w_c0
  · exact w_c1
  · exact w_c2
  · exact w_c3
  · exact w_c4
set_option maxRecDepth 65536 in
theorem w_t1 : (words1.take 24).all (fun c => isCode c || c.before args0 about1) = true := by decide +kernel
set_option maxRecDepth 65536 in
theorem w_t2 : (words1.drop 24).all (fun c => isCode c || c.before args0 about1) = true := by decide +kernel
theorem w_tables : (allAtoms (Jvm.Cond.code x code maxLocals ret :: tables_1)).before args0 about1 = true := by
  rw [allAtoms_all]
  show words1.all (fun c => c.before args0 about1) = true
  refine all_split ?_ w_codes
  rw [← List.take_append_drop 24 words1, List.all_append, w_t1, w_t2]
  rfl
set_option maxRecDepth 65536 in
theorem w_case : (Jvm.Cond.and given_1 narrow_1).before args0 about1 = true := by decide +kernel
theorem w_applies : (headSpec (Jvm.Cond.code x code maxLocals ret :: tables_1) room_1).applies x e0.platform about1 = true :=
  (Spec.applies_iff w_frames).mpr ⟨w_running, w_runnable, w_alone, w_named, w_hears, w_ripe, w_room, w_tables⟩
theorem atStart : AtStart classFile x code maxLocals ret World_1 tables_1 room_1 Calls_1 rest_1 Pre_1 launch0 p0 e0 about1 theMethod args0 below0 :=
  ⟨lists_1, trivial, launch0.admits_env _ _ _, launch0.least_env, fairChoices_fair.cas, fairChoices_fair.clock, w_frames, w_args, w_heap, w_applies, trivial, trivial, w_case⟩
end start1
theorem witness_1 : WitnessClaimed_1 := ⟨start1.p0, start1.e0, start1.about1, start1.theMethod, start1.args0, start1.below0, start1.atStart⟩
end Jvm.Pilot.@@N@@
