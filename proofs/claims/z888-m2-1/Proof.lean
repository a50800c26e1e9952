import JvmDerived
import JvmDerived.Pilot.@@N@@Statement
import JvmDerived.Pilot.@@N@@Code
set_option linter.unusedVariables false
set_option linter.unusedSimpArgs false
@@BLOCK:NumsL.lean.txt@@
namespace Jvm.RoadKit
open Sem ClassFile Op Lib Jvm.Stand Jvm.Free Jvm.LawKit
section New
variable {p : Program} {l : Launch} {e : Env} {R : Room} {s : State} {m : MethodId} {args : Array Value} {below : List Frame} {meth : Method} {c : Code} {T : State} {locs : List Loc} {cells slots : Nat}
theorem retI (X : Stand p l e R s m args below meth c T locs cells slots) (hx : p.tables.exec = Jvm.exec) {pc : Nat} {Ls : Array Slot} {z : Int32} {rest : List Value} (hret : meth.sig.returnType = some .int) (hd : decode c.code pc = .ok (.ireturn, 1)) {fs : List Frame}
    (hl : ∀ (f : JFrame) (acts : List Action), f.method = m → f.locked = none → f.entered = [] → (doReturn e (T.setTop f) acts (some (.int z))).1 = T.setFrames fs) : Steps p.tables e below (T.setTop (mkF m pc Ls (.int z :: rest))) (T.setFrames fs) := by
  have hm' : T.vm.method? m = some meth := X.method'
  have hn : narrow .int (.int z) = .int z := rfl
  show Steps p.tables e below (T.setTop { method := m, pc := pc, locals := Ls, stack := _ :: rest, locked := none }) _
  jvm_step X.here [X.here.top, hx, hd, hm', hret, hn]
  first | (intro acts; rw [hl _ acts rfl rfl rfl]) | rw [hl _ _ rfl rfl rfl]
  exact Steps.refl _
end New
end Jvm.RoadKit
namespace Jvm.OwnFP
open Jvm.FP
/-- a double's value in units of 2^-1074 -/
def zv (a : UInt64) : Int := Core.zval Core.b64 (Core.val64 a)
/-- how many units make one -/
def U : Int := (Core.one64 : Int)
theorem U_pos : 0 < U := by have := Core.one64_pos; unfold U; omega
theorem U_pow (k : Nat) (h : k ≤ 1074) : U = 2 ^ (1074 - k) * 2 ^ k := by
  have e : (2 : Int) ^ (1074 - k) * 2 ^ k = 2 ^ 1074 := by rw [← Int.pow_add]; congr 1; omega
  rw [e]; unfold U Core.one64; rw [Int.natCast_pow]; rfl
theorem pow_pos (k : Nat) : (0 : Int) < 2 ^ k := Int.pow_pos (by decide)
theorem notNan {a : UInt64} (h : Core.DFin a) : Core.val64 a ≠ .nan := by obtain ⟨s, c, q, h⟩ := h; rw [h]; exact Core.Datum.noConfusion
theorem fin_parts {a : UInt64} (h : Core.DFin a) : ∃ (s : Bool) (c i : Nat), Core.val64 a = .fin s c ((i : Int) - 1074) ∧ Core.fits Core.b64 (.fin s c ((i : Int) - 1074)) ∧ zv a = Core.signed s (c * 2 ^ i) := by
  obtain ⟨s, c, q, h⟩ := h
  have hf := Core.val64_fits a
  rw [h] at hf
  have hq : -1074 ≤ q := by have := hf.2.1; rw [Core.qmin_b64] at this; exact this
  obtain ⟨i, hi⟩ : ∃ i : Nat, q = (i : Int) - 1074 := ⟨(q + 1074).toNat, by omega⟩
  subst hi
  refine ⟨s, c, i, h, hf, ?_⟩
  unfold zv Core.zval; rw [h]
  show Core.signed s (c * 2 ^ ((i : Int) - 1074 - Core.b64.qmin).toNat) = _
  rw [Core.qmin_b64, show ((i : Int) - 1074 - -1074).toNat = i by omega]
/-- rounding a quotient is monotone: at most a number of the format -/
theorem ratio_le {s : Bool} {A B : Nat} {e e0 : Int} {V : Core.Datum} (hB : 0 < B) (hV : Core.fits Core.b64 V) (hn : V ≠ .nan) (h0 : e0 ≤ Core.b64.qmin) (h0e : e0 ≤ e)
    (h : Core.signed s (Core.inUnits A e e0) ≤ Core.zval Core.b64 V * ((2 ^ (Core.b64.qmin - e0).toNat * B : Nat) : Int)) :
    Core.zval Core.b64 (Core.roundRatio Core.b64 s A B e) ≤ Core.zval Core.b64 V := by
  have hle := Core.zmag_roundRatio_le Core.good_b64 (s := s) (A := A) hB hV hn h0 h0e
  have hge := Core.zmag_roundRatio_ge Core.good_b64 (s := s) (A := A) hB hV h0 h0e
  have hP : 0 < 2 ^ (Core.b64.qmin - e0).toNat * B := Nat.mul_pos (Nat.two_pow_pos _) hB
  rw [Nat.mul_assoc] at hle hge
  unfold Core.zval at h ⊢
  rw [Core.sgn_roundRatio]
  rw [← Core.signed_mul] at h
  have hz : Core.zmag Core.b64 V * (2 ^ (Core.b64.qmin - e0).toNat * B) = 0 → Core.zmag Core.b64 V = 0 := fun q => by
    rcases Nat.mul_eq_zero.mp q with q | q
    · exact q
    · omega
  generalize Core.zmag Core.b64 V * (2 ^ (Core.b64.qmin - e0).toNat * B) = vP at *
  generalize Core.sgn V = t at *
  generalize Core.zmag Core.b64 V = z at *
  generalize Core.zmag Core.b64 (Core.roundRatio Core.b64 s A B e) = r at *
  generalize Core.inUnits A e e0 = x at *
  cases s <;> cases t <;> simp only [Core.signed, if_true, Bool.false_eq_true, if_false] at h ⊢
  · have := hle (by omega); omega
  · have := hle (by omega); have := hz (by omega); omega
  · omega
  · have := hge (by omega); omega
theorem ratio_ge {s : Bool} {A B : Nat} {e e0 : Int} {V : Core.Datum} (hB : 0 < B) (hV : Core.fits Core.b64 V) (hn : V ≠ .nan) (h0 : e0 ≤ Core.b64.qmin) (h0e : e0 ≤ e)
    (h : Core.zval Core.b64 V * ((2 ^ (Core.b64.qmin - e0).toNat * B : Nat) : Int) ≤ Core.signed s (Core.inUnits A e e0)) :
    Core.zval Core.b64 V ≤ Core.zval Core.b64 (Core.roundRatio Core.b64 s A B e) := by
  have h1 := ratio_le (s := !s) (V := Core.negate V) hB (Core.negate_fits hV) (Core.negate_ne_nan hn) h0 h0e (by
    rw [Core.zval_negate, Int.neg_mul, Core.signed_not]; exact Int.neg_le_neg h)
  rw [Core.zval_negate, ← Core.negate_roundRatio, Core.zval_negate] at h1
  omega
theorem signed_pos_parts {t : Bool} {n : Nat} (h : 0 < Core.signed t n) : t = false ∧ 0 < n := by
  cases t <;> simp [Core.signed] at h ⊢ <;> omega
/-- the quotient as a rounded ratio -/
theorem ddiv_parts {a b : UInt64} (ha : Core.DFin a) (hb : Core.DFin b) (pb : 0 < zv b) :
    ∃ (s : Bool) (c d i j : Nat), zv a = Core.signed s (c * 2 ^ i) ∧ zv b = ((d * 2 ^ j : Nat) : Int) ∧ 0 < d ∧ Core.val64 (FP.ddiv a b) = Core.roundRatio Core.b64 s c d ((i : Int) - (j : Int)) := by
  obtain ⟨s, c, i, h1, f1, z1⟩ := fin_parts ha
  obtain ⟨t, d, j, h2, f2, z2⟩ := fin_parts hb
  rw [z2] at pb
  obtain ⟨rfl, hd⟩ := signed_pos_parts pb
  have hd' : 0 < d := Nat.pos_of_mul_pos_right hd
  refine ⟨s, c, d, i, j, z1, z2, hd', ?_⟩
  show Core.val64 (Core.ddiv a b) = _
  rw [Core.val64_ddiv, h1, h2]
  show (if d = 0 then _ else Core.roundRatio Core.b64 (s != false) c d ((i : Int) - 1074 - ((j : Int) - 1074))) = _
  rw [if_neg (by omega), show ((i : Int) - 1074 - ((j : Int) - 1074)) = (i : Int) - j by omega]
  cases s <;> rfl
theorem div_key {s : Bool} {c d i j : Nat} : Core.signed s (Core.inUnits c ((i : Int) - j) (-1074 - (j : Int))) = Core.signed s (c * 2 ^ i) * U ∧ ((2 ^ (Core.b64.qmin - (-1074 - (j : Int))).toNat * d : Nat) : Int) = ((d * 2 ^ j : Nat) : Int) := by
  constructor
  · unfold Core.inUnits
    rw [show ((i : Int) - j - (-1074 - (j : Int))).toNat = i + 1074 by omega, Nat.pow_add, ← Nat.mul_assoc, Core.signed_mul]
    rfl
  · rw [Core.qmin_b64, show (-1074 - (-1074 - (j : Int))).toNat = j by omega, Nat.mul_comm]
theorem ddiv_le {a b V : UInt64} (ha : Core.DFin a) (hb : Core.DFin b) (pb : 0 < zv b) (hV : Core.val64 V ≠ .nan) (h : zv a * U ≤ zv V * zv b) : zv (FP.ddiv a b) ≤ zv V := by
  obtain ⟨s, c, d, i, j, z1, z2, hd, hr⟩ := ddiv_parts ha hb pb
  have e : zv (FP.ddiv a b) = Core.zval Core.b64 (Core.roundRatio Core.b64 s c d ((i : Int) - (j : Int))) := by unfold zv; rw [hr]
  rw [e]
  refine ratio_le (e0 := -1074 - (j : Int)) hd (Core.val64_fits V) hV (by rw [Core.qmin_b64]; omega) (by omega) ?_
  rw [(div_key (d := d)).1, (div_key (s := s) (c := c) (i := i)).2, ← z1, ← z2]; exact h
theorem ddiv_ge {a b V : UInt64} (ha : Core.DFin a) (hb : Core.DFin b) (pb : 0 < zv b) (hV : Core.val64 V ≠ .nan) (h : zv V * zv b ≤ zv a * U) : zv V ≤ zv (FP.ddiv a b) := by
  obtain ⟨s, c, d, i, j, z1, z2, hd, hr⟩ := ddiv_parts ha hb pb
  have e : zv (FP.ddiv a b) = Core.zval Core.b64 (Core.roundRatio Core.b64 s c d ((i : Int) - (j : Int))) := by unfold zv; rw [hr]
  rw [e]
  refine ratio_ge (e0 := -1074 - (j : Int)) hd (Core.val64_fits V) hV (by rw [Core.qmin_b64]; omega) (by omega) ?_
  rw [(div_key (d := d)).1, (div_key (s := s) (c := c) (i := i)).2, ← z1, ← z2]; exact h
theorem ddiv_nn {a b : UInt64} (ha : Core.DFin a) (hb : Core.DFin b) (pb : 0 < zv b) : Core.val64 (FP.ddiv a b) ≠ .nan := by
  obtain ⟨s, c, d, i, j, z1, z2, hd, hr⟩ := ddiv_parts ha hb pb
  rw [hr]; exact Core.roundRatio_ne_nan _ _ _ _ _
/-- two quotients of one value -/
theorem ddiv_congr {a b a' b' : UInt64} (ha : Core.DFin a) (hb : Core.DFin b) (pb : 0 < zv b) (ha' : Core.DFin a') (hb' : Core.DFin b') (pb' : 0 < zv b') (hs : Core.sgn (Core.val64 a) = Core.sgn (Core.val64 a')) (h : zv a * zv b' = zv a' * zv b) : FP.ddiv a b = FP.ddiv a' b' := by
  obtain ⟨s, c, i, h1, f1, z1⟩ := fin_parts ha
  obtain ⟨s', c', i', h1', f1', z1'⟩ := fin_parts ha'
  obtain ⟨t, d, j, h2, f2, z2⟩ := fin_parts hb
  obtain ⟨t', d', j', h2', f2', z2'⟩ := fin_parts hb'
  rw [z2] at pb; rw [z2'] at pb'
  obtain ⟨rfl, hd⟩ := signed_pos_parts pb
  obtain ⟨rfl, hd'⟩ := signed_pos_parts pb'
  have hd1 : 0 < d := Nat.pos_of_mul_pos_right hd
  have hd1' : 0 < d' := Nat.pos_of_mul_pos_right hd'
  have es : s = s' := by rw [h1, h1'] at hs; exact hs
  subst es
  show Core.of64 (Core.quotient Core.b64 (Core.val64 a) (Core.val64 b)) = Core.of64 (Core.quotient Core.b64 (Core.val64 a') (Core.val64 b'))
  congr 1
  rw [h1, h2, h1', h2']
  show (if d = 0 then _ else Core.roundRatio Core.b64 (s != false) c d ((i : Int) - 1074 - ((j : Int) - 1074))) = (if d' = 0 then _ else Core.roundRatio Core.b64 (s != false) c' d' ((i' : Int) - 1074 - ((j' : Int) - 1074)))
  rw [if_neg (by omega), if_neg (by omega)]
  apply Core.roundRatio_congr hd1 hd1'
  have hn : (c * 2 ^ i) * (d' * 2 ^ j') = (c' * 2 ^ i') * (d * 2 ^ j) := by
    rw [z1, z1', z2, z2'] at h
    have : ∀ n : Nat, Core.signed false n = (n : Int) := fun _ => rfl
    rw [this, this, ← Core.signed_mul, ← Core.signed_mul] at h
    have := congrArg Int.natAbs h
    rwa [Core.natAbs_signed, Core.natAbs_signed] at this
  generalize hE : (i : Int) - 1074 - ((j : Int) - 1074) = E
  generalize hE' : (i' : Int) - 1074 - ((j' : Int) - 1074) = E'
  have k1 : c * d' * 2 ^ (i + j') = c' * d * 2 ^ (i' + j) := by
    rw [Nat.pow_add, Nat.pow_add]
    calc c * d' * (2 ^ i * 2 ^ j') = (c * 2 ^ i) * (d' * 2 ^ j') := by ac_rfl
      _ = (c' * 2 ^ i') * (d * 2 ^ j) := hn
      _ = c' * d * (2 ^ i' * 2 ^ j) := by ac_rfl
  by_cases hle : i' + j ≤ i + j'
  · have e1 : (E - E').toNat = i + j' - (i' + j) := by omega
    have e2 : (E' - E).toNat = 0 := by omega
    rw [e1, e2]
    have : 2 ^ (i + j') = 2 ^ (i + j' - (i' + j)) * 2 ^ (i' + j) := by rw [← Nat.pow_add]; congr 1; omega
    rw [this, ← Nat.mul_assoc] at k1
    simpa using Nat.eq_of_mul_eq_mul_right (Nat.two_pow_pos _) k1
  · have e1 : (E - E').toNat = 0 := by omega
    have e2 : (E' - E).toNat = i' + j - (i + j') := by omega
    rw [e1, e2]
    have : 2 ^ (i' + j) = 2 ^ (i' + j - (i + j')) * 2 ^ (i + j') := by rw [← Nat.pow_add]; congr 1; omega
    rw [this, ← Nat.mul_assoc] at k1
    simpa using Nat.eq_of_mul_eq_mul_right (Nat.two_pow_pos _) k1
theorem dmul_parts {a b : UInt64} (ha : Core.DFin a) (hb : Core.DFin b) :
    ∃ (s : Bool) (n : Nat) (e : Int), Core.val64 (FP.dmul a b) = Core.round Core.b64 (.fin s n e) ∧ -2148 ≤ e ∧ Core.signed s (Core.inUnits n e (-2148)) = zv a * zv b := by
  obtain ⟨s, c, i, h1, f1, z1⟩ := fin_parts ha
  obtain ⟨t, d, j, h2, f2, z2⟩ := fin_parts hb
  obtain ⟨p1, p2, p3⟩ := Core.product_units f1 f2
  refine ⟨s != t, c * d, (i : Int) - 1074 + ((j : Int) - 1074), ?_, by omega, ?_⟩
  · show Core.val64 (Core.dmul a b) = _
    rw [Core.val64_dmul, h1, h2, p1]
  · rw [z1, z2]
    unfold Core.inUnits
    rw [show ((i : Int) - 1074 + ((j : Int) - 1074) - (-2148)).toNat = i + j by omega, Nat.pow_add,
      show c * d * (2 ^ i * 2 ^ j) = (c * 2 ^ i) * (d * 2 ^ j) by ac_rfl, Core.signed_xor]
theorem mul_key : ((2 ^ (Core.b64.qmin - (-2148 : Int)).toNat : Nat) : Int) = U := by
  rw [Core.qmin_b64]; rfl
theorem dmul_le {a b V : UInt64} (ha : Core.DFin a) (hb : Core.DFin b) (hV : Core.val64 V ≠ .nan) (h : zv a * zv b ≤ zv V * U) : zv (FP.dmul a b) ≤ zv V := by
  obtain ⟨s, n, e, h1, h2, h3⟩ := dmul_parts ha hb
  have e1 : zv (FP.dmul a b) = Core.zval Core.b64 (Core.round Core.b64 (.fin s n e)) := by unfold zv; rw [h1]
  rw [e1]
  refine Core.zval_round_le Core.good_b64 (e0 := -2148) (Core.val64_fits V) hV (by rw [Core.qmin_b64]; decide) h2 ?_
  rw [h3, mul_key]; exact h
theorem dmul_ge {a b V : UInt64} (ha : Core.DFin a) (hb : Core.DFin b) (hV : Core.val64 V ≠ .nan) (h : zv V * U ≤ zv a * zv b) : zv V ≤ zv (FP.dmul a b) := by
  obtain ⟨s, n, e, h1, h2, h3⟩ := dmul_parts ha hb
  have e1 : zv (FP.dmul a b) = Core.zval Core.b64 (Core.round Core.b64 (.fin s n e)) := by unfold zv; rw [h1]
  rw [e1]
  refine Core.zval_round_ge Core.good_b64 (e0 := -2148) (Core.val64_fits V) hV (by rw [Core.qmin_b64]; decide) h2 ?_
  rw [h3, mul_key]; exact h
theorem dmul_nn {a b : UInt64} (ha : Core.DFin a) (hb : Core.DFin b) : Core.val64 (FP.dmul a b) ≠ .nan := by
  obtain ⟨s, n, e, h1, h2, h3⟩ := dmul_parts ha hb
  rw [h1]; exact Core.roundRatio_ne_nan _ _ _ _ _
theorem dadd_le {a b V : UInt64} (ha : Core.DFin a) (hb : Core.DFin b) (hV : Core.val64 V ≠ .nan) (h : zv a + zv b ≤ zv V) : zv (FP.dadd a b) ≤ zv V := by
  have := Core.sum_le Core.good_b64 ha hb (Core.val64_fits a) (Core.val64_fits b) (Core.val64_fits V) hV h
  unfold zv; show Core.zval Core.b64 (Core.val64 (Core.dadd a b)) ≤ _
  rw [Core.val64_dadd]; exact this
theorem dadd_ge {a b V : UInt64} (ha : Core.DFin a) (hb : Core.DFin b) (hV : Core.val64 V ≠ .nan) (h : zv V ≤ zv a + zv b) : zv V ≤ zv (FP.dadd a b) := by
  have := Core.sum_ge Core.good_b64 ha hb (Core.val64_fits a) (Core.val64_fits b) (Core.val64_fits V) hV h
  unfold zv; show _ ≤ Core.zval Core.b64 (Core.val64 (Core.dadd a b))
  rw [Core.val64_dadd]; exact this
theorem dadd_nn {a b : UInt64} (ha : Core.DFin a) (hb : Core.DFin b) : Core.val64 (FP.dadd a b) ≠ .nan := by
  have := Core.dadd_out (notNaN_of ha) hb
  exact (Core.notNaN_iff _).mp this
where notNaN_of {a : UInt64} (h : Core.DFin a) : Core.dIsNaN a = false := (Core.notNaN_iff a).mpr (notNan h)
theorem zv_dneg (a : UInt64) : zv (FP.dneg a) = - zv a := by
  unfold zv; rw [FP.val64_dneg, Core.zval_negate]
theorem fin_dneg {a : UInt64} (h : Core.DFin a) : Core.DFin (FP.dneg a) := by
  obtain ⟨s, c, q, h⟩ := h
  refine ⟨!s, c, q, ?_⟩
  rw [FP.val64_dneg, h]; rfl
theorem dsub_dadd {a b : UInt64} (hb : Core.DFin b) : FP.dsub a b = FP.dadd a (FP.dneg b) := by
  have h1 : FP.dneg b = Core.dneg b := FP.dneg_core ((Core.notNaN_iff b).mpr (notNan hb))
  rw [h1]; exact Core.dsub_eq a b
theorem dsub_le {a b V : UInt64} (ha : Core.DFin a) (hb : Core.DFin b) (hV : Core.val64 V ≠ .nan) (h : zv a - zv b ≤ zv V) : zv (FP.dsub a b) ≤ zv V := by
  rw [dsub_dadd hb]; exact dadd_le ha (fin_dneg hb) hV (by rw [zv_dneg]; omega)
theorem dsub_ge {a b V : UInt64} (ha : Core.DFin a) (hb : Core.DFin b) (hV : Core.val64 V ≠ .nan) (h : zv V ≤ zv a - zv b) : zv V ≤ zv (FP.dsub a b) := by
  rw [dsub_dadd hb]; exact dadd_ge ha (fin_dneg hb) hV (by rw [zv_dneg]; omega)
theorem dsub_nn {a b : UInt64} (ha : Core.DFin a) (hb : Core.DFin b) : Core.val64 (FP.dsub a b) ≠ .nan := by
  rw [dsub_dadd hb]; exact dadd_nn ha (fin_dneg hb)
/-- finite, if it lies between two finite ones -/
theorem fin_between {a V W : UInt64} (n : Core.val64 a ≠ .nan) (hV : Core.DFin V) (hW : Core.DFin W) (h1 : zv V ≤ zv a) (h2 : zv a ≤ zv W) : Core.DFin a := by
  have hv := hV.zval_lt; have hw := hW.zval_lt
  unfold zv Core.zval at h1 h2
  cases e : Core.val64 a with
  | nan => exact absurd e n
  | fin s c q => exact ⟨s, c, q, e⟩
  | inf s =>
    exfalso
    rw [e] at h1 h2
    have t : Core.zmag Core.b64 (.inf s) = Core.b64.tails * 2 ^ (Core.b64.exps - 2) := rfl
    rw [t] at h1 h2
    generalize Core.b64.tails * 2 ^ (Core.b64.exps - 2) = top at *
    generalize Core.zmag Core.b64 (Core.val64 V) = v at *
    generalize Core.zmag Core.b64 (Core.val64 W) = w at *
    generalize Core.sgn (Core.val64 V) = sv at *
    generalize Core.sgn (Core.val64 W) = sw at *
    cases s <;> cases sv <;> cases sw <;> simp [Core.signed, Core.sgn] at h1 h2 <;> omega
theorem signed_of (n : Int) : Core.signed (decide (n < 0)) n.natAbs = n := by
  unfold Core.signed
  by_cases q : n < 0
  · simp [q]; omega
  · simp [q]; omega
/-- n * 2^E units are a double -/
theorem repE (n : Int) (E : Nat) (hn : n.natAbs < 2 ^ 53) (hE : E ≤ 2045) : ∃ V, Core.DFin V ∧ zv V = n * 2 ^ E := by
  have hq : Core.b64.qmax = 971 := by decide
  obtain ⟨c', q', h1, h2⟩ := Core.round_exact Core.good_b64 (decide (n < 0)) (c := n.natAbs) (q := (E : Int) - 1074) hn (by rw [Core.qmin_b64]; omega) (by rw [hq]; omega)
  have h3 : Core.val64 (Core.of64 (Core.round Core.b64 (.fin (decide (n < 0)) n.natAbs ((E : Int) - 1074)))) = .fin (decide (n < 0)) c' q' := by
    rw [Core.val64_of64 (Core.round_fits Core.good_b64 _), h1]
  refine ⟨_, ⟨_, _, _, h3⟩, ?_⟩
  unfold zv Core.zval
  rw [h3]
  show Core.signed (decide (n < 0)) (Core.inUnits c' q' Core.b64.qmin) = _
  rw [h2]
  unfold Core.inUnits
  rw [Core.qmin_b64, show ((E : Int) - 1074 - -1074).toNat = E by omega, Core.signed_mul, signed_of, Int.natCast_pow]
  rfl
/-- n / 2^k is a double -/
theorem rep (n : Int) (k : Nat) (hn : n.natAbs ≤ 2 ^ 53) (hk : k ≤ 1000) : ∃ V, Core.DFin V ∧ zv V * 2 ^ k = n * U := by
  by_cases h : n.natAbs < 2 ^ 53
  · obtain ⟨V, fV, zV⟩ := repE n (1074 - k) h (by omega)
    exact ⟨V, fV, by rw [zV, U_pow k (by omega), Int.mul_assoc]⟩
  · by_cases hs : n < 0
    · obtain ⟨V, fV, zV⟩ := repE (-1) (53 + (1074 - k)) (by decide) (by omega)
      exact ⟨V, fV, by rw [zV, U_pow k (by omega), show n = -1 * 2 ^ 53 by omega, Int.pow_add]; ac_rfl⟩
    · obtain ⟨V, fV, zV⟩ := repE 1 (53 + (1074 - k)) (by decide) (by omega)
      exact ⟨V, fV, by rw [zV, U_pow k (by omega), show n = 1 * 2 ^ 53 by omega, Int.pow_add]; ac_rfl⟩
/-- and so are, with the infinities, the numbers up to 2^53 * 2^E -/
theorem repI (n : Int) (E : Nat) (hn : n.natAbs ≤ 2 ^ 53) (hE : E ≤ 2045) : ∃ V, Core.val64 V ≠ .nan ∧ zv V = n * 2 ^ E := by
  by_cases h : n.natAbs < 2 ^ 53
  · obtain ⟨V, fV, zV⟩ := repE n E h hE; exact ⟨V, notNan fV, zV⟩
  · by_cases hE2 : E + 53 ≤ 2045
    · by_cases hs : n < 0
      · obtain ⟨V, fV, zV⟩ := repE (-1) (53 + E) (by decide) (by omega)
        exact ⟨V, notNan fV, by rw [zV, show n = -1 * 2 ^ 53 by omega, Int.pow_add, Int.mul_assoc]⟩
      · obtain ⟨V, fV, zV⟩ := repE 1 (53 + E) (by decide) (by omega)
        exact ⟨V, notNan fV, by rw [zV, show n = 1 * 2 ^ 53 by omega, Int.pow_add, Int.mul_assoc]⟩
    · by_cases hE3 : E = 2045
      · subst hE3
        have v1 : Core.val64 9218868437227405312 = .inf false := by decide +kernel
        have v2 : Core.val64 18442240474082181120 = .inf true := by decide +kernel
        have z1 : Core.zmag Core.b64 (.inf false) = 2 ^ 53 * 2 ^ 2045 := by decide +kernel
        by_cases hs : n < 0
        · refine ⟨18442240474082181120, by rw [v2]; exact Core.Datum.noConfusion, ?_⟩
          unfold zv Core.zval; rw [v2]
          show Core.signed true (Core.zmag Core.b64 (.inf false)) = _
          rw [z1, Core.signed_mul, show n = -2 ^ 53 by omega, Int.natCast_pow]; rfl
        · refine ⟨9218868437227405312, by rw [v1]; exact Core.Datum.noConfusion, ?_⟩
          unfold zv Core.zval; rw [v1]
          show Core.signed false (Core.zmag Core.b64 (.inf false)) = _
          rw [z1, Core.signed_mul, show n = 2 ^ 53 by omega, Int.natCast_pow]; rfl
      · by_cases hs : n < 0
        · obtain ⟨V, fV, zV⟩ := repE (-2 ^ 52) (1 + E) (by decide) (by omega)
          exact ⟨V, notNan fV, by rw [zV, show n = -2 ^ 52 * 2 ^ 1 by omega, Int.pow_add, Int.mul_assoc]⟩
        · obtain ⟨V, fV, zV⟩ := repE (2 ^ 52) (1 + E) (by decide) (by omega)
          exact ⟨V, notNan fV, by rw [zV, show n = 2 ^ 52 * 2 ^ 1 by omega, Int.pow_add, Int.mul_assoc]⟩
theorem dmul_eq {a b V : UInt64} (ha : Core.DFin a) (hb : Core.DFin b) (hV : Core.val64 V ≠ .nan) (h : zv a * zv b = zv V * U) : zv (FP.dmul a b) = zv V := by
  have := dmul_le ha hb hV (Int.le_of_eq h); have := dmul_ge ha hb hV (Int.le_of_eq h.symm); omega
/-! ## values n / 2^k -/
/-- finite, and worth n / 2^k -/
def DS (n : Int) (k : Nat) (a : UInt64) : Prop := Core.DFin a ∧ zv a * 2 ^ k = n * U
def Le (a : UInt64) (n : Int) (k : Nat) : Prop := zv a * 2 ^ k ≤ n * U
def Ge (a : UInt64) (n : Int) (k : Nat) : Prop := n * U ≤ zv a * 2 ^ k
theorem DS.le {n : Int} {k : Nat} {a : UInt64} (h : DS n k a) : Le a n k := Int.le_of_eq h.2
theorem DS.ge {n : Int} {k : Nat} {a : UInt64} (h : DS n k a) : Ge a n k := Int.le_of_eq h.2.symm
theorem DS.int {i : Int} {a : UInt64} (h : Core.DInt i a) : DS i 0 a := by
  refine ⟨?_, ?_⟩
  · unfold Core.DInt at h
    cases e : Core.val64 a with
    | nan => rw [e] at h; exact h.elim
    | inf => rw [e] at h; exact h.elim
    | fin s c q => exact ⟨s, c, q, e⟩
  · show zv a * 2 ^ 0 = i * U
    rw [Int.pow_zero, Int.mul_one]; exact Core.DInt_zval h
theorem DS.i2d (x : Int32) : DS x.toInt 0 (FP.i2d x) := DS.int (Core.i2d_int x)
theorem DS.l2d {x : Int64} (h : x.toInt.natAbs ≤ 2 ^ 53) : DS x.toInt 0 (FP.l2d x) := DS.int (Core.l2d_int h)
theorem mul_cancel {a b c : Int} (hc : 0 < c) (h : a * c = b * c) : a = b := Int.eq_of_mul_eq_mul_right (by omega) h
theorem le_cancel {a b c : Int} (hc : 0 < c) (h : a * c ≤ b * c) : a ≤ b := Int.le_of_mul_le_mul_right h hc
theorem DS.up {n : Int} {k : Nat} {a : UInt64} (h : DS n k a) (j : Nat) : DS (n * 2 ^ j) (k + j) a := ⟨h.1, by
  rw [Int.pow_add, ← Int.mul_assoc, h.2]; grind⟩
theorem Le.up {n : Int} {k : Nat} {a : UInt64} (h : Le a n k) (j : Nat) : Le a (n * 2 ^ j) (k + j) := by
  unfold Le at *
  have := Int.mul_le_mul_of_nonneg_right h (Int.le_of_lt (pow_pos j))
  rw [Int.pow_add]; grind
theorem Ge.up {n : Int} {k : Nat} {a : UInt64} (h : Ge a n k) (j : Nat) : Ge a (n * 2 ^ j) (k + j) := by
  unfold Ge at *
  have := Int.mul_le_mul_of_nonneg_right h (Int.le_of_lt (pow_pos j))
  rw [Int.pow_add]; grind
/-- what lies between two bounds n / 2^k is finite -/
theorem fin_of {a : UInt64} {n m : Int} {k j : Nat} (nn : Core.val64 a ≠ .nan) (h1 : Ge a n k) (h2 : Le a m j) (bn : n.natAbs ≤ 2 ^ 53) (bm : m.natAbs ≤ 2 ^ 53) (hk : k ≤ 1000) (hj : j ≤ 1000) : Core.DFin a := by
  obtain ⟨V, fV, zV⟩ := rep n k bn hk
  obtain ⟨W, fW, zW⟩ := rep m j bm hj
  refine fin_between nn fV fW ?_ ?_
  · exact le_cancel (pow_pos k) (by unfold Ge at h1; omega)
  · exact le_cancel (pow_pos j) (by unfold Le at h2; omega)
theorem DS.of {a : UInt64} {n : Int} {k : Nat} (nn : Core.val64 a ≠ .nan) (h1 : Ge a n k) (h2 : Le a n k) (bn : n.natAbs ≤ 2 ^ 53) (hk : k ≤ 1000) : DS n k a :=
  ⟨fin_of nn h1 h2 bn bn hk hk, by unfold Ge at h1; unfold Le at h2; omega⟩
/-! the operations against bounds -/
theorem add_Le {a b : UInt64} {n m q : Int} {k : Nat} (fa : Core.DFin a) (fb : Core.DFin b) (ha : Le a n k) (hb : Le b m k) (h : n + m ≤ q) (bq : q.natAbs ≤ 2 ^ 53) (hk : k ≤ 1000) : Le (FP.dadd a b) q k := by
  obtain ⟨V, fV, zV⟩ := rep q k bq hk
  have h1 : zv (FP.dadd a b) ≤ zv V := dadd_le fa fb (notNan fV) (le_cancel (pow_pos k) (by
    unfold Le at ha hb
    rw [Int.add_mul, zV]
    have := Int.mul_le_mul_of_nonneg_right h (Int.le_of_lt U_pos)
    rw [Int.add_mul] at this; omega))
  unfold Le; rw [← zV]; exact Int.mul_le_mul_of_nonneg_right h1 (Int.le_of_lt (pow_pos k))
theorem add_Ge {a b : UInt64} {n m q : Int} {k : Nat} (fa : Core.DFin a) (fb : Core.DFin b) (ha : Ge a n k) (hb : Ge b m k) (h : q ≤ n + m) (bq : q.natAbs ≤ 2 ^ 53) (hk : k ≤ 1000) : Ge (FP.dadd a b) q k := by
  obtain ⟨V, fV, zV⟩ := rep q k bq hk
  have h1 : zv V ≤ zv (FP.dadd a b) := dadd_ge fa fb (notNan fV) (le_cancel (pow_pos k) (by
    unfold Ge at ha hb
    rw [Int.add_mul, zV]
    have := Int.mul_le_mul_of_nonneg_right h (Int.le_of_lt U_pos)
    rw [Int.add_mul] at this; omega))
  unfold Ge; rw [← zV]; exact Int.mul_le_mul_of_nonneg_right h1 (Int.le_of_lt (pow_pos k))
theorem DS.add {a b : UInt64} {n m : Int} {k : Nat} (ha : DS n k a) (hb : DS m k b) (bq : (n + m).natAbs ≤ 2 ^ 53) (hk : k ≤ 1000) : DS (n + m) k (FP.dadd a b) :=
  DS.of (dadd_nn ha.1 hb.1) (add_Ge ha.1 hb.1 ha.ge hb.ge (Int.le_refl _) bq hk) (add_Le ha.1 hb.1 ha.le hb.le (Int.le_refl _) bq hk) bq hk
theorem DS.neg {a : UInt64} {n : Int} {k : Nat} (ha : DS n k a) : DS (-n) k (FP.dneg a) := ⟨fin_dneg ha.1, by rw [zv_dneg, Int.neg_mul, ha.2, Int.neg_mul]⟩
theorem DS.sub {a b : UInt64} {n m : Int} {k : Nat} (ha : DS n k a) (hb : DS m k b) (bq : (n - m).natAbs ≤ 2 ^ 53) (hk : k ≤ 1000) : DS (n - m) k (FP.dsub a b) := by
  rw [dsub_dadd hb.1, show n - m = n + -m by omega]; exact ha.add hb.neg (by rw [← Int.sub_eq_add_neg]; exact bq) hk
theorem DS.mul {a b : UInt64} {n m : Int} {k j : Nat} (ha : DS n k a) (hb : DS m j b) (bq : (n * m).natAbs ≤ 2 ^ 53) (hk : k + j ≤ 1000) : DS (n * m) (k + j) (FP.dmul a b) := by
  obtain ⟨V, fV, zV⟩ := rep (n * m) (k + j) bq hk
  have e : zv a * zv b = zv V * U := by
    have h1 := ha.2; have h2 := hb.2
    refine mul_cancel (pow_pos (k + j)) ?_
    calc zv a * zv b * 2 ^ (k + j) = (zv a * 2 ^ k) * (zv b * 2 ^ j) := by rw [Int.pow_add]; grind
      _ = (n * U) * (m * U) := by rw [h1, h2]
      _ = (n * m * U) * U := by grind
      _ = zv V * U * 2 ^ (k + j) := by rw [← zV]; grind
  have g1 := dmul_le ha.1 hb.1 (notNan fV) (Int.le_of_eq e)
  have g2 := dmul_ge ha.1 hb.1 (notNan fV) (Int.le_of_eq e.symm)
  have g : zv (FP.dmul a b) = zv V := by omega
  exact ⟨fin_between (dmul_nn ha.1 hb.1) fV fV (by omega) (by omega), by rw [g, zV]⟩
theorem DS.pos {b : UInt64} {m : Int} {j : Nat} (hb : DS m j b) (hm : 0 < m) : 0 < zv b := by
  have h1 : 0 < zv b * 2 ^ j := by rw [hb.2]; exact Int.mul_pos hm U_pos
  exact Int.pos_of_mul_pos_left h1 (pow_pos j)
/-- a quotient against a bound q / 2^l -/
theorem div_Le {a b : UInt64} {n m q : Int} {k j l : Nat} (ha : DS n k a) (hb : DS m j b) (hm : 0 < m) (h : n * 2 ^ j * 2 ^ l ≤ q * m * 2 ^ k) (bq : q.natAbs ≤ 2 ^ 53) (hl : l ≤ 1000) : Le (FP.ddiv a b) q l := by
  obtain ⟨V, fV, zV⟩ := rep q l bq hl
  have h1 : zv (FP.ddiv a b) ≤ zv V := ddiv_le ha.1 hb.1 (hb.pos hm) (notNan fV) (by
    refine le_cancel (pow_pos (k + j + l)) ?_
    have e1 : zv a * U * 2 ^ (k + j + l) = (n * 2 ^ j * 2 ^ l) * (U * U) := by
      calc zv a * U * 2 ^ (k + j + l) = (zv a * 2 ^ k) * U * 2 ^ j * 2 ^ l := by rw [Int.pow_add, Int.pow_add]; grind
        _ = _ := by rw [ha.2]; grind
    have e2 : zv V * zv b * 2 ^ (k + j + l) = (q * m * 2 ^ k) * (U * U) := by
      calc zv V * zv b * 2 ^ (k + j + l) = (zv V * 2 ^ l) * (zv b * 2 ^ j) * 2 ^ k := by rw [Int.pow_add, Int.pow_add]; grind
        _ = _ := by rw [zV, hb.2]; grind
    rw [e1, e2]
    exact Int.mul_le_mul_of_nonneg_right h (Int.le_of_lt (Int.mul_pos U_pos U_pos)))
  unfold Le; rw [← zV]; exact Int.mul_le_mul_of_nonneg_right h1 (Int.le_of_lt (pow_pos l))
theorem div_Ge {a b : UInt64} {n m q : Int} {k j l : Nat} (ha : DS n k a) (hb : DS m j b) (hm : 0 < m) (h : q * m * 2 ^ k ≤ n * 2 ^ j * 2 ^ l) (bq : q.natAbs ≤ 2 ^ 53) (hl : l ≤ 1000) : Ge (FP.ddiv a b) q l := by
  obtain ⟨V, fV, zV⟩ := rep q l bq hl
  have h1 : zv V ≤ zv (FP.ddiv a b) := ddiv_ge ha.1 hb.1 (hb.pos hm) (notNan fV) (by
    refine le_cancel (pow_pos (k + j + l)) ?_
    have e1 : zv a * U * 2 ^ (k + j + l) = (n * 2 ^ j * 2 ^ l) * (U * U) := by
      calc zv a * U * 2 ^ (k + j + l) = (zv a * 2 ^ k) * U * 2 ^ j * 2 ^ l := by rw [Int.pow_add, Int.pow_add]; grind
        _ = _ := by rw [ha.2]; grind
    have e2 : zv V * zv b * 2 ^ (k + j + l) = (q * m * 2 ^ k) * (U * U) := by
      calc zv V * zv b * 2 ^ (k + j + l) = (zv V * 2 ^ l) * (zv b * 2 ^ j) * 2 ^ k := by rw [Int.pow_add, Int.pow_add]; grind
        _ = _ := by rw [zV, hb.2]; grind
    rw [e1, e2]
    exact Int.mul_le_mul_of_nonneg_right h (Int.le_of_lt (Int.mul_pos U_pos U_pos)))
  unfold Ge; rw [← zV]; exact Int.mul_le_mul_of_nonneg_right h1 (Int.le_of_lt (pow_pos l))
theorem DS.div {a b : UInt64} {n m q : Int} {k j l : Nat} (ha : DS n k a) (hb : DS m j b) (hm : 0 < m) (h : n * 2 ^ j * 2 ^ l = q * m * 2 ^ k) (bq : q.natAbs ≤ 2 ^ 53) (hl : l ≤ 1000) : DS q l (FP.ddiv a b) :=
  DS.of (ddiv_nn ha.1 hb.1 (hb.pos hm)) (div_Ge ha hb hm (Int.le_of_eq h.symm) bq hl) (div_Le ha hb hm (Int.le_of_eq h) bq hl) bq hl
/-! comparisons -/
theorem cmp_zv {a b : UInt64} (ha : Core.val64 a ≠ .nan) (hb : Core.val64 b ≠ .nan) : FP.dcmp a b = some (compare (zv a) (zv b)) := Core.dcmp_zval ha hb
theorem cmpV_of {a b : UInt64} (ha : Core.val64 a ≠ .nan) (hb : Core.val64 b ≠ .nan) (o : ClassFile.CmpOp) : Op.cmpValue (FP.dcmp a b) o = if zv a < zv b then -1 else if zv a = zv b then 0 else 1 := by
  rw [cmp_zv ha hb, Core.compare_ite]
  split
  · rfl
  · split <;> rfl
theorem cmp_gt {a b : UInt64} (ha : Core.val64 a ≠ .nan) (hb : Core.val64 b ≠ .nan) (h : zv b < zv a) (o : ClassFile.CmpOp) : Op.cmpValue (FP.dcmp a b) o = 1 := by
  rw [cmpV_of ha hb, if_neg (by omega), if_neg (by omega)]
theorem cmp_lt {a b : UInt64} (ha : Core.val64 a ≠ .nan) (hb : Core.val64 b ≠ .nan) (h : zv a < zv b) (o : ClassFile.CmpOp) : Op.cmpValue (FP.dcmp a b) o = -1 := by
  rw [cmpV_of ha hb, if_pos h]
theorem cmp_eq {a b : UInt64} (ha : Core.val64 a ≠ .nan) (hb : Core.val64 b ≠ .nan) (h : zv a = zv b) (o : ClassFile.CmpOp) : Op.cmpValue (FP.dcmp a b) o = 0 := by
  rw [cmpV_of ha hb, if_neg (by omega), if_pos h]
theorem zv_zero : zv FP.dconst0 = 0 := Core.zval64_zero
theorem cmp_neg {a b : UInt64} {k : Int32} {o : ClassFile.CmpOp} (h : Op.cmpValue (FP.dcmp a b) o = k) (ha : Core.val64 a ≠ .nan) (hb : Core.val64 b ≠ .nan) : k < 0 ↔ zv a < zv b := by
  rw [← h, cmpV_of ha hb]; split
  · exact ⟨fun _ => by assumption, fun _ => by decide⟩
  · split
    · exact ⟨fun h => absurd h (by decide), fun h => absurd h (by assumption)⟩
    · exact ⟨fun h => absurd h (by decide), fun h => absurd h (by assumption)⟩
theorem cmp_pos {a b : UInt64} {k : Int32} {o : ClassFile.CmpOp} (h : Op.cmpValue (FP.dcmp a b) o = k) (ha : Core.val64 a ≠ .nan) (hb : Core.val64 b ≠ .nan) : 0 < k ↔ zv b < zv a := by
  rw [← h, cmpV_of ha hb]; split
  · exact ⟨fun h => absurd h (by decide), fun h => by omega⟩
  · split
    · exact ⟨fun h => absurd h (by decide), fun h => by omega⟩
    · exact ⟨fun h => by omega, fun _ => by decide⟩
theorem cmp_nul {a b : UInt64} {k : Int32} {o : ClassFile.CmpOp} (h : Op.cmpValue (FP.dcmp a b) o = k) (ha : Core.val64 a ≠ .nan) (hb : Core.val64 b ≠ .nan) : k = 0 ↔ zv a = zv b := by
  rw [← h, cmpV_of ha hb]; split
  · exact ⟨fun h => absurd h (by decide), fun h => by omega⟩
  · split
    · exact ⟨fun _ => by assumption, fun _ => rfl⟩
    · exact ⟨fun h => absurd h (by decide), fun h => by omega⟩
theorem lt_of {a b : UInt64} {n m : Int} {k : Nat} (h1 : Le a n k) (h2 : Ge b m k) (h : n < m) : zv a < zv b := by
  unfold Le at h1; unfold Ge at h2
  have : n * U < m * U := Int.mul_lt_mul_of_pos_right h U_pos
  exact Int.lt_of_mul_lt_mul_right (a := 2 ^ k) (by omega) (Int.le_of_lt (pow_pos k))
theorem le_of {a b : UInt64} {n m : Int} {k : Nat} (h1 : Le a n k) (h2 : Ge b m k) (h : n ≤ m) : zv a ≤ zv b := by
  unfold Le at h1; unfold Ge at h2
  have : n * U ≤ m * U := Int.mul_le_mul_of_nonneg_right h (Int.le_of_lt U_pos)
  exact Int.le_of_mul_le_mul_right (a := 2 ^ k) (by omega) (pow_pos k)
theorem DS.cmp {a b : UInt64} {n m : Int} {k : Nat} (ha : DS n k a) (hb : DS m k b) (o : ClassFile.CmpOp) : Op.cmpValue (FP.dcmp a b) o = if n < m then -1 else if n = m then 0 else 1 := by
  rw [cmpV_of (notNan ha.1) (notNan hb.1)]
  by_cases h1 : n < m
  · rw [if_pos h1, if_pos (lt_of ha.le hb.ge h1)]
  · by_cases h2 : n = m
    · have e : zv a = zv b := by
        subst h2; have := le_of ha.le hb.ge (Int.le_refl _); have := le_of hb.le ha.ge (Int.le_refl _); omega
      rw [if_neg h1, if_pos h2, if_neg (by omega), if_pos e]
    · have := lt_of hb.le ha.ge (show m < n by omega)
      rw [if_neg h1, if_neg h2, if_neg (by omega), if_neg (by omega)]
theorem DS.zero : DS 0 0 FP.dconst0 := ⟨⟨false, 0, _, Core.val64_dconst0⟩, by
  have : zv FP.dconst0 = 0 := Core.zval64_zero
  rw [this]; simp⟩
theorem DS.one : DS 1 0 FP.dconst1 := DS.int Core.dint_one
theorem zv_one : zv FP.dconst1 = U := by have := DS.one.2; rwa [Int.pow_zero, Int.mul_one, Int.one_mul] at this
theorem DS.noNaN {n : Int} {k : Nat} {a : UInt64} (h : DS n k a) : Jvm.Free.Fl.NoNaN64 a := (Jvm.Free.Fl.fin64_core.mpr h.1).noNaN
theorem noNaN_of {a : UInt64} (h : Core.val64 a ≠ .nan) : Jvm.Free.Fl.NoNaN64 a := Jvm.Free.Fl.noNaN64_no.mpr ((Core.notNaN_iff a).mpr h)
end Jvm.OwnFP
namespace Jvm.OwnFP
open Jvm.FP
theorem sgn_pos {a : UInt64} (h : 0 < zv a) : Core.sgn (Core.val64 a) = false := by
  unfold zv Core.zval at h
  cases e : Core.sgn (Core.val64 a) with
  | false => rfl
  | true => rw [e] at h; simp only [Core.signed, if_true] at h; omega
/-- one quotient by two roads -/
theorem DS.div_same {a a' b b' : UInt64} {n d : Int} {k j : Nat} (ha : DS n k a) (ha' : DS n k a') (hb : DS d j b) (hb' : DS d j b') (hn : 0 < n) (hd : 0 < d) : FP.ddiv a b = FP.ddiv a' b' := by
  have e1 : zv a = zv a' := mul_cancel (pow_pos k) (by rw [ha.2, ha'.2])
  have e2 : zv b = zv b' := mul_cancel (pow_pos j) (by rw [hb.2, hb'.2])
  refine ddiv_congr ha.1 hb.1 (hb.pos hd) ha'.1 hb'.1 (hb'.pos hd) ?_ (by rw [e1, e2])
  rw [sgn_pos (ha.pos hn), sgn_pos (ha'.pos hn)]
end Jvm.OwnFP
namespace Jvm.OwnFP
open Jvm.FP
theorem Le.neg {a : UInt64} {n : Int} {k : Nat} (h : Le a n k) : Ge (FP.dneg a) (-n) k := by unfold Le at h; unfold Ge; rw [zv_dneg, Int.neg_mul, Int.neg_mul]; omega
theorem Ge.neg {a : UInt64} {n : Int} {k : Nat} (h : Ge a n k) : Le (FP.dneg a) (-n) k := by unfold Ge at h; unfold Le; rw [zv_dneg, Int.neg_mul, Int.neg_mul]; omega
theorem sub_Le {a b : UInt64} {n m q : Int} {k : Nat} (fa : Core.DFin a) (fb : Core.DFin b) (ha : Le a n k) (hb : Ge b m k) (h : n - m ≤ q) (bq : q.natAbs ≤ 2 ^ 53) (hk : k ≤ 1000) : Le (FP.dsub a b) q k := by
  rw [dsub_dadd fb]; exact add_Le fa (fin_dneg fb) ha hb.neg (by omega) bq hk
theorem sub_Ge {a b : UInt64} {n m q : Int} {k : Nat} (fa : Core.DFin a) (fb : Core.DFin b) (ha : Ge a n k) (hb : Le b m k) (h : q ≤ n - m) (bq : q.natAbs ≤ 2 ^ 53) (hk : k ≤ 1000) : Ge (FP.dsub a b) q k := by
  rw [dsub_dadd fb]; exact add_Ge fa (fin_dneg fb) ha hb.neg (by omega) bq hk
/-- one quotient at two scales -/
theorem DS.div_scale {a a' b b' : UInt64} {n d : Int} {k k' : Nat} (ha : DS n k a) (ha' : DS n k' a') (hb : DS d k b) (hb' : DS d k' b') (hn : 0 < n) (hd : 0 < d) : FP.ddiv a b = FP.ddiv a' b' := by
  refine ddiv_congr ha.1 hb.1 (hb.pos hd) ha'.1 hb'.1 (hb'.pos hd) ?_ ?_
  · rw [sgn_pos (ha.pos hn), sgn_pos (ha'.pos hn)]
  · refine mul_cancel (pow_pos (k + k')) ?_
    calc zv a * zv b' * 2 ^ (k + k') = (zv a * 2 ^ k) * (zv b' * 2 ^ k') := by rw [Int.pow_add]; ac_rfl
      _ = (zv a' * 2 ^ k') * (zv b * 2 ^ k) := by rw [ha.2, hb'.2, ha'.2, hb.2]
      _ = zv a' * zv b * 2 ^ (k + k') := by rw [Int.pow_add]; ac_rfl
end Jvm.OwnFP
namespace Jvm.OwnArr
open Jvm Jvm.ClassFile Sem Op Lib Jvm.Free Jvm.Stand Jvm.LawKit Jvm.RoadKit
section
variable {p : Program} {l : Launch} {e : Env} {R : Room} {s : State} {m : MethodId} {args : Array Value} {below : List Frame} {meth : Method} {c : Code} {T : State} {locs : List Loc} {cells slots : Nat} {Z : State} {h h' : Heap} {a b : Addr} {ty : FieldType} {n : Nat} {f : Nat → Value}
/-- the array at a has n places of the kind ty; place j holds f j -/
def Ag (Z : State) (h : Heap) (a : Addr) (ty : FieldType) (n : Nat) (f : Nat → Value) : Prop := ∃ cl : Cell, Arr Z h a cl ty ∧ cl.slots.size = n ∧ ∀ j, j < n → cl.slots[j]? = some (f j)
theorem Ag.lt (F : Ag Z h a ty n f) : a < h.size := by obtain ⟨c, A, -⟩ := F; exact A.lt
theorem Ag.ext (F : Ag Z h a ty n f) (E : Ext h h') : Ag Z h' a ty n f := by obtain ⟨c, A, r⟩ := F; exact ⟨c, A.ext E, r⟩
theorem Ag.other {sl : Nat} {v : Value} (F : Ag Z h b ty n f) (W : Wr h h' a sl v) (q : b ≠ a) : Ag Z h' b ty n f := by obtain ⟨c, A, r⟩ := F; exact ⟨c, A.other W q, r⟩
theorem Ag.keep {ws : List Addr} (F : Ag Z h a ty n f) (K : Keep h h' ws) (q : a ∉ ws) : Ag Z h' a ty n f := by obtain ⟨c, A, r⟩ := F; exact ⟨c, ⟨K.2.1 a c A.1 q, A.2⟩, r⟩
theorem Ag.congr {g : Nat → Value} (F : Ag Z h a ty n f) (q : ∀ j, j < n → f j = g j) : Ag Z h a ty n g := by obtain ⟨c, A, S, H⟩ := F; exact ⟨c, A, S, fun j hj => by rw [H j hj, q j hj]⟩
theorem Ag.set {j : Nat} {v : Value} (F : Ag Z h a ty n f) (W : Wr h h' a j v) : Ag Z h' a ty n (fun i => if i = j then v else f i) := by
  obtain ⟨c, A, S, H⟩ := F
  refine ⟨c.setSlot j v, A.same W, by rw [sz_set]; exact S, fun i hi => ?_⟩
  show (c.slots.setIfInBounds j v)[i]? = some (if i = j then v else f i)
  by_cases q : i = j
  · subst q; rw [if_pos rfl, Array.getElem?_setIfInBounds_self_of_lt (by omega)]
  · rw [if_neg q, Array.getElem?_setIfInBounds_ne (Ne.symm q)]; exact H i hi
theorem Ag.new {k : ClassId} {z : Int32} (A : Arr Z h a (newA k ty z) ty) {N : Nat} (hz : z.toInt = (N : Int)) : Ag Z h a ty N (fun _ => defaultValue ty) := by
  have e : z.toNatClampNeg = N := by rw [Int32.toNatClampNeg]; omega
  refine ⟨_, A, by rw [sz_new, e], fun j hj => ?_⟩
  show (Array.replicate z.toNatClampNeg (defaultValue ty))[j]? = _
  rw [e]; simp [hj]
theorem nat32 {j : Int32} {J : Nat} (hj : j.toInt = (J : Int)) : j.toNatClampNeg = J := by rw [Int32.toNatClampNeg]; omega
theorem inb {cl : Cell} {j : Int32} {J : Nat} (hj : j.toInt = (J : Int)) (S : cl.slots.size = n) (hn : J < n) : ¬ (j < 0 ∨ cl.slots.size ≤ j.toNatClampNeg) := by
  rw [nat32 hj, S]
  rintro (q | q)
  · have := Int32.lt_iff_toInt_lt.mp q; rw [Int32.toInt_zero] at this; omega
  · omega
theorem ldD (X : Stand p l e R s m args below meth c T locs cells slots) (hx : p.tables.exec = Jvm.exec) (hZ : Z.Warmed39 s.vm) (eT : T.heap = h) (F : Ag Z h a .double n f) {j : Int32} {J : Nat} (hj : j.toInt = (J : Int)) (hn : J < n) {x : UInt64} (hv : f J = .double x) {g : JFrame} (hg : g.method = m) {rest : List Value} (hs : g.stack = .int j :: .ref a :: rest) (hd : decode c.code g.pc = .ok (.daload, 1)) {target : State}
    (hr : Steps p.tables e below (T.setTop { g with pc := g.pc + 1, stack := .double x :: rest }) target) : Steps p.tables e below (T.setTop g) target := by
  obtain ⟨cl, A, S, H⟩ := F
  exact X.daload hx (by rw [eT]; exact A.1) (State.isArrayOf_alike hZ.alike A.2.1) A.2.2 (inb hj S hn) (by rw [nat32 hj, H J hn, hv]) hg hs hd _ hr
theorem ldI (X : Stand p l e R s m args below meth c T locs cells slots) (hx : p.tables.exec = Jvm.exec) (hZ : Z.Warmed39 s.vm) (eT : T.heap = h) (F : Ag Z h a .int n f) {j : Int32} {J : Nat} (hj : j.toInt = (J : Int)) (hn : J < n) {x : Int32} (hv : f J = .int x) {g : JFrame} (hg : g.method = m) {rest : List Value} (hs : g.stack = .int j :: .ref a :: rest) (hd : decode c.code g.pc = .ok (.iaload, 1)) {target : State}
    (hr : Steps p.tables e below (T.setTop { g with pc := g.pc + 1, stack := .int x :: rest }) target) : Steps p.tables e below (T.setTop g) target := by
  obtain ⟨cl, A, S, H⟩ := F
  exact X.iaload hx (by rw [eT]; exact A.1) (State.isArrayOf_alike hZ.alike A.2.1) A.2.2 (inb hj S hn) (by rw [nat32 hj, H J hn, hv]) hg hs hd _ hr
theorem ldJ (X : Stand p l e R s m args below meth c T locs cells slots) (hx : p.tables.exec = Jvm.exec) (hZ : Z.Warmed39 s.vm) (eT : T.heap = h) (F : Ag Z h a .long n f) {j : Int32} {J : Nat} (hj : j.toInt = (J : Int)) (hn : J < n) {x : Int64} (hv : f J = .long x) {g : JFrame} (hg : g.method = m) {rest : List Value} (hs : g.stack = .int j :: .ref a :: rest) (hd : decode c.code g.pc = .ok (.laload, 1)) {target : State}
    (hr : Steps p.tables e below (T.setTop { g with pc := g.pc + 1, stack := .long x :: rest }) target) : Steps p.tables e below (T.setTop g) target := by
  obtain ⟨cl, A, S, H⟩ := F
  exact X.laload hx (by rw [eT]; exact A.1) (State.isArrayOf_alike hZ.alike A.2.1) A.2.2 (inb hj S hn) (by rw [nat32 hj, H J hn, hv]) hg hs hd _ hr
theorem lenA (X : Stand p l e R s m args below meth c T locs cells slots) (hx : p.tables.exec = Jvm.exec) (hZ : Z.Warmed39 s.vm) (eT : T.heap = h) (F : Ag Z h a ty n f) {z : Int32} (hz : z.toInt = (n : Int)) {g : JFrame} (hg : g.method = m) {rest : List Value} (hs : g.stack = .ref a :: rest) (hd : decode c.code g.pc = .ok (.arraylength, 1)) {target : State}
    (hr : Steps p.tables e below (T.setTop { g with pc := g.pc + 1, stack := .int z :: rest }) target) : Steps p.tables e below (T.setTop g) target := by
  obtain ⟨cl, A, S, H⟩ := F
  have q : cl.slots.size.toInt32 = z := by
    have h1 := Int32.toInt_lt z
    apply Int32.toInt_inj.mp
    rw [S, hz]; exact Int32.toInt_ofNat_small (by omega)
  exact X.arraylength hx (by rw [eT]; exact A.1) (State.isArrayOf_alike hZ.alike A.2.1) hg hs hd _ (by rw [q]; exact hr)
theorem stDA (X : Stand p l e R s m args below meth c T locs cells slots) (hx : p.tables.exec = Jvm.exec) (hZ : Z.Warmed39 s.vm) (eT : T.heap = h) (F : Ag Z h a .double n f) {j : Int32} {J : Nat} (hj : j.toInt = (J : Int)) (hn : J < n) {x : UInt64} {g : JFrame} (hg : g.method = m) {rest : List Value} (hs : g.stack = .double x :: .int j :: .ref a :: rest) (hd : decode c.code g.pc = .ok (.dastore, 1)) :
    ∃ T' h', Stand p l e R s m args below meth c T' (locs ++ [⟨a, J⟩]) cells slots ∧ T'.heap = h' ∧ Wr h h' a J (.double x) ∧ ∀ target, Steps p.tables e below (T'.setTop { g with pc := g.pc + 1, stack := rest }) target → Steps p.tables e below (T.setTop g) target := by
  obtain ⟨cl, A, S, H⟩ := F
  have q := stD X hx hZ eT A (inb hj S hn) hg hs hd
  rw [nat32 hj] at q; exact q
theorem stIA (X : Stand p l e R s m args below meth c T locs cells slots) (hx : p.tables.exec = Jvm.exec) (hZ : Z.Warmed39 s.vm) (eT : T.heap = h) (F : Ag Z h a .int n f) {j : Int32} {J : Nat} (hj : j.toInt = (J : Int)) (hn : J < n) {x : Int32} {g : JFrame} (hg : g.method = m) {rest : List Value} (hs : g.stack = .int x :: .int j :: .ref a :: rest) (hd : decode c.code g.pc = .ok (.iastore, 1)) :
    ∃ T' h', Stand p l e R s m args below meth c T' (locs ++ [⟨a, J⟩]) cells slots ∧ T'.heap = h' ∧ Wr h h' a J (.int x) ∧ ∀ target, Steps p.tables e below (T'.setTop { g with pc := g.pc + 1, stack := rest }) target → Steps p.tables e below (T.setTop g) target := by
  obtain ⟨cl, A, S, H⟩ := F
  have q := stI X hx hZ eT A (inb hj S hn) hg hs hd
  rw [nat32 hj] at q; exact q
theorem stJA (X : Stand p l e R s m args below meth c T locs cells slots) (hx : p.tables.exec = Jvm.exec) (hZ : Z.Warmed39 s.vm) (eT : T.heap = h) (F : Ag Z h a .long n f) {j : Int32} {J : Nat} (hj : j.toInt = (J : Int)) (hn : J < n) {x : Int64} {g : JFrame} (hg : g.method = m) {rest : List Value} (hs : g.stack = .long x :: .int j :: .ref a :: rest) (hd : decode c.code g.pc = .ok (.lastore, 1)) :
    ∃ T' h', Stand p l e R s m args below meth c T' (locs ++ [⟨a, J⟩]) cells slots ∧ T'.heap = h' ∧ Wr h h' a J (.long x) ∧ ∀ target, Steps p.tables e below (T'.setTop { g with pc := g.pc + 1, stack := rest }) target → Steps p.tables e below (T.setTop g) target := by
  obtain ⟨cl, A, S, H⟩ := F
  have q := stJ X hx hZ eT A (inb hj S hn) hg hs hd
  rw [nat32 hj] at q; exact q
end
end Jvm.OwnArr
namespace Jvm.Pilot.@@N@@
open Jvm Jvm.ClassFile Sem Op Lib Jvm.Free Jvm.Stand Jvm.LawKit Jvm.RoadKit Bundle Jvm.Pilot.@@N@@.Jvm.D
open Jvm.OwnFP Jvm.FP
theorem pn_com_example_streamgrove_streamgrove_learners_ClassScoresHighestPinLaw : plainName "com/example/streamgrove/streamgrove/learners/ClassScoresHighestPinLaw" = true := by first | (simp [plainName, overriddenIn]; done) | decide +kernel
theorem pn_com_example_streamgrove_streamgrove_learners_ClassScores : plainName "com/example/streamgrove/streamgrove/learners/ClassScores" = true := by first | (simp [plainName, overriddenIn]; done) | decide +kernel
theorem pd___D_I : parseMethodDescriptor "([D)I" = some ⟨[(.array .double)], some .int⟩ := by decide +kernel
theorem pd__IIIIII_I : parseMethodDescriptor "(IIIIII)I" = some ⟨[.int, .int, .int, .int, .int, .int], some .int⟩ := by decide +kernel
theorem pd__II_I : parseMethodDescriptor "(II)I" = some ⟨[.int, .int], some .int⟩ := by decide +kernel
/-- place i holds the greatest of the first N numbers, and is the first one that does -/
def Best (y : Nat → Int) (N i : Nat) : Prop := (∀ j, j < N → y j ≤ y i) ∧ (∀ j, j < i → y j < y i) ∧ (i < N ∨ (N = 0 ∧ i = 0))
theorem Best.unique {y : Nat → Int} {N i i' : Nat} (h : Best y N i) (h' : Best y N i') : i = i' := by
  obtain ⟨a1, a2, a3⟩ := h; obtain ⟨b1, b2, b3⟩ := h'
  rcases a3 with a3 | ⟨a3, a4⟩
  · rcases b3 with b3 | ⟨b3, b4⟩
    · rcases Nat.lt_trichotomy i i' with q | q | q
      · have := b2 i q; have := a1 i' b3; omega
      · exact q
      · have := a2 i' q; have := b1 i a3; omega
    · omega
  · rcases b3 with b3 | ⟨b3, b4⟩ <;> omega
theorem Best.scale {y : Nat → Int} {z : Nat → Int} {N i : Nat} (h : Best z N i) (e : ∀ j, j < N → z j = y j * U) (hN : 0 < N) : Best y N i := by
  obtain ⟨a1, a2, a3⟩ := h
  have hi : i < N := by omega
  refine ⟨fun j hj => ?_, fun j hj => ?_, a3⟩
  · have := a1 j hj; rw [e j hj, e i hi] at this; exact le_cancel U_pos this
  · have := a2 j hj; rw [e j (by omega), e i hi] at this; exact Int.lt_of_mul_lt_mul_right this (Int.le_of_lt U_pos)
def five (a b c d e : Int32) (j : Nat) : Int := match j with | 0 => a.toInt | 1 => b.toInt | 2 => c.toInt | 3 => d.toInt | _ => e.toInt
theorem max_k {v x y : Int32} (h : v = (if x < y then y else x)) : x.toInt ≤ v.toInt ∧ y.toInt ≤ v.toInt ∧ (v.toInt = x.toInt ∨ v.toInt = y.toInt) := by
  by_cases q : x < y
  · rw [if_pos q] at h; have := Int32.lt_iff_toInt_lt.mp q; rw [h]; omega
  · rw [if_neg q] at h; have : ¬ x.toInt < y.toInt := fun r => q (Int32.lt_iff_toInt_lt.mpr r); rw [h]; omega
theorem ne_k {x y : Int32} (h : ¬ x = y) : ¬ x.toInt = y.toInt := fun q => h (Int32.toInt_inj.mp q)
theorem d3_0 : decode jdk_29_method_65_code 0 = .ok (.iload_n 0, 1) := by decide +kernel
theorem d3_1 : decode jdk_29_method_65_code 1 = .ok (.iload_n 1, 1) := by decide +kernel
theorem d3_2 : decode jdk_29_method_65_code 2 = .ok (.if_icmp .lt 7, 3) := by decide +kernel
theorem d3_5 : decode jdk_29_method_65_code 5 = .ok (.iload_n 0, 1) := by decide +kernel
theorem d3_6 : decode jdk_29_method_65_code 6 = .ok (.goto 4, 3) := by decide +kernel
theorem d3_9 : decode jdk_29_method_65_code 9 = .ok (.iload_n 1, 1) := by decide +kernel
theorem d3_10 : decode jdk_29_method_65_code 10 = .ok (.ireturn, 1) := by decide +kernel
theorem ef_3 (m : MethodId) (px : Int32) (py : Int32) : entryFrame m #[(.int px), (.int py)] 2 = (mkF m 0 #[.val (.int px), .val (.int py)] []) := by first | (simp [entryFrame, mkF, argsToLocals, Value.category]; done) | rfl
def Q_3 (Z : State) (px : Int32) (py : Int32) (h0 : Heap) (n0 : Nat) (v : Option Value) (h : Heap) (L : List Loc) : Prop := v = some (.int (if px < py then py else px)) ∧ Fr n0 L ∧ h = h0
set_option maxRecDepth 65536 in
set_option maxHeartbeats 2000000 in
theorem rm_3 (l : Launch) (Z : State) (a0 : Array Value) (hw : ∀ d ∈ tables_1, d.before a0 Z = true) (ws : List Jvm.Cond) (px : Int32) (py : Int32) (h0 : Heap) (n0 : Nat) (Z0 : n0 ≤ h0.size)  :
    MetFree l (⟨"java/lang/Math", "max", "(II)I"⟩ : MethodName) (head1 (Jvm.Cond.code (⟨"java/lang/Math", "max", "(II)I"⟩ : MethodName) jdk_29_method_65_code 2 (some .int) :: ws) ({ frames := 0, cells := 0, slots := 0, locals := 0 } : Room)) (fun aa UU => aa = #[(.int px), (.int py)] ∧ Z.Warmed39 UU.vm ∧ UU.heap = h0) (fun _ _ _ _ _ => True) (fun _ UU oo UU' => ∃ v L, oo = .returned v ∧ Q_3 Z px py h0 n0 v UU'.heap L ∧ FrameEnd UU oo UU' L ({ frames := 0, cells := 0, slots := 0, locals := 0 } : Room).cells ({ frames := 0, cells := 0, slots := 0, locals := 0 } : Room).slots) := by
  refine MetFree.of_bodySF (Jvm.Free.JP.mathPlain rfl (by decide +kernel)) hisR ?_
  intro p e s m args below meth c s₁ Bd hml0 hP hK
  obtain ⟨rfl, hZ, hh⟩ := hP
  have hx := Bd.exec
  have hby := Bd.bytes
  have hml : c.maxLocals = 2 := hml0
  have hown : s.vm.findClass "java/lang/Math" = some m.cls := findClass_of_methodNamed Bd.named
  have hnaM := (name_of_methodNamed Bd.named Bd.method).1
  have X0 : Stand p l e ({ frames := 0, cells := 0, slots := 0, locals := 0 } : Room) s m #[(.int px), (.int py)] below meth c s₁ [] 0 0 := Stand.of_body Bd
  have e0 : s₁.heap = h0 := by rw [← hh, Bd.state]; rfl
  have N0 := Fr.nil n0
  have pre0 : ∀ t, Steps p.tables e below (s₁.setTop (entryFrame m #[(.int px), (.int py)] 2)) t → Steps p.tables e below (s₁.setTop (entryFrame m #[(.int px), (.int py)] 2)) t := fun t k => k
  have c0 : ∀ t, Steps p.tables e below (s₁.setTop (mkF m 0 #[.val (.int px), .val (.int py)] [])) t → Steps p.tables e below (s₁.setTop (entryFrame m #[(.int px), (.int py)] 2)) t := fun t k => castTop (ef_3 m px py) k
  have c1 : ∀ t, Steps p.tables e below (s₁.setTop (mkF m 2 #[.val (.int px), .val (.int py)] [(.int py), (.int px)])) t → Steps p.tables e below (s₁.setTop (entryFrame m #[(.int px), (.int py)] 2)) t := fun t k => c0 t (by
    show Steps p.tables e below (s₁.setTop (mkF m 0 #[.val (.int px), .val (.int py)] [])) _
    refine XS.iloadN X0.here hx rfl (hb hby d3_0) rfl ?_
    show Steps p.tables e below (s₁.setTop (mkF m 1 #[.val (.int px), .val (.int py)] [(.int px)])) _
    refine XS.iloadN X0.here hx rfl (hb hby d3_1) rfl ?_
    show Steps p.tables e below (s₁.setTop (mkF m 2 #[.val (.int px), .val (.int py)] [(.int py), (.int px)])) _
    exact k)
  obtain ⟨rr, hrr⟩ : ∃ v : Int32, v = (if px < py then py else px) := ⟨_, rfl⟩
  have c2 : ∀ t, Steps p.tables e below (s₁.setTop (mkF m 10 #[.val (.int px), .val (.int py)] [(.int rr)])) t → Steps p.tables e below (s₁.setTop (entryFrame m #[(.int px), (.int py)] 2)) t := fun t k => c1 t (by
    rw [hrr] at k
    show Steps p.tables e below (s₁.setTop (mkF m 2 #[.val (.int px), .val (.int py)] [(.int py), (.int px)])) _
    by_cases q2_0 : px < py
    · try simp only [if_pos q2_0] at k
      refine XS.icmpYes X0.here hx rfl (pc0 := 2) (pc' := 9) rfl (hb hby d3_2) rfl (XT.ii_lt_t q2_0) (by decide) (by decide) ?_
      show Steps p.tables e below (s₁.setTop (mkF m 9 #[.val (.int px), .val (.int py)] [])) _
      refine XS.iloadN X0.here hx rfl (hb hby d3_9) rfl ?_
      show Steps p.tables e below (s₁.setTop (mkF m 10 #[.val (.int px), .val (.int py)] [(.int py)])) _
      exact k
    · try simp only [if_neg q2_0] at k
      refine XS.icmpNo X0.here hx rfl (hb hby d3_2) rfl (XT.ii_lt_f q2_0) ?_
      show Steps p.tables e below (s₁.setTop (mkF m 5 #[.val (.int px), .val (.int py)] [])) _
      refine XS.iloadN X0.here hx rfl (hb hby d3_5) rfl ?_
      show Steps p.tables e below (s₁.setTop (mkF m 6 #[.val (.int px), .val (.int py)] [(.int px)])) _
      refine XS.goto X0.here hx rfl (pc0 := 6) (pc' := 10) rfl (hb hby d3_6) (by decide) (by decide) ?_
      show Steps p.tables e below (s₁.setTop (mkF m 10 #[.val (.int px), .val (.int py)] [(.int px)])) _
      exact k)
  obtain ⟨fs, hr, hrun, hended, hW, hsame⟩ := X0.leave (v := (some (.int rr))) (fun h => by rw [Bd.returns] at h; cases h)
  refine ⟨_, _, pre0 _ (c2 _ (retI X0 hx Bd.returns (hb hby d3_10) hr)), hrun, hended, _, _, rfl, ?_, ⟨_, rfl⟩, hW, hsame.mono (by decide) (by decide)⟩
  show Q_3 Z px py h0 n0 _ s₁.heap _
  rw [e0]
  exact ⟨by rw [hrr], N0, rfl⟩
theorem d2_0 : decode method_3_code 0 = .ok (.iload_n 0, 1) := by decide +kernel
theorem d2_1 : decode method_3_code 1 = .ok (.ifCond .ne 5, 3) := by decide +kernel
theorem d2_4 : decode method_3_code 4 = .ok (.iconst 0, 1) := by decide +kernel
theorem d2_5 : decode method_3_code 5 = .ok (.ireturn, 1) := by decide +kernel
theorem ef_2_0 (m : MethodId) (pa : Int32) (pb : Int32) (pc : Int32) (pd : Int32) (pe : Int32) : entryFrame m #[(.int (0 : Int32)), (.int pa), (.int pb), (.int pc), (.int pd), (.int pe)] 7 = (mkF m 0 #[.val (.int (0 : Int32)), .val (.int pa), .val (.int pb), .val (.int pc), .val (.int pd), .val (.int pe), .unset] []) := by first | (simp [entryFrame, mkF, argsToLocals, Value.category]; done) | rfl
def Q_2_0 (Z : State) (pa : Int32) (pb : Int32) (pc : Int32) (pd : Int32) (pe : Int32) (h0 : Heap) (n0 : Nat) (v : Option Value) (h : Heap) (L : List Loc) : Prop := (∃ i : Nat, i < 5 ∧ v = some (.int (Int32.ofNat i)) ∧ Best (five pa pb pc pd pe) 0 i) ∧ Fr n0 L ∧ h = h0
set_option maxRecDepth 65536 in
set_option maxHeartbeats 2000000 in
theorem rm_2_0 (l : Launch) (Z : State) (a0 : Array Value) (hw : ∀ d ∈ tables_1, d.before a0 Z = true) (ws : List Jvm.Cond) (pa : Int32) (pb : Int32) (pc : Int32) (pd : Int32) (pe : Int32) (h0 : Heap) (n0 : Nat) (Z0 : n0 ≤ h0.size)  :
    MetFree l (⟨"com/example/streamgrove/streamgrove/learners/ClassScoresHighestPinLaw", "expected", "(IIIIII)I"⟩ : MethodName) (head1 (Jvm.Cond.code (⟨"com/example/streamgrove/streamgrove/learners/ClassScoresHighestPinLaw", "expected", "(IIIIII)I"⟩ : MethodName) method_3_code 7 (some .int) :: ws) ({ frames := 1, cells := 0, slots := 0, locals := 16 } : Room)) (fun aa UU => aa = #[(.int (0 : Int32)), (.int pa), (.int pb), (.int pc), (.int pd), (.int pe)] ∧ Z.Warmed39 UU.vm ∧ UU.heap = h0) (fun _ _ _ _ _ => True) (fun _ UU oo UU' => ∃ v L, oo = .returned v ∧ Q_2_0 Z pa pb pc pd pe h0 n0 v UU'.heap L ∧ FrameEnd UU oo UU' L ({ frames := 1, cells := 0, slots := 0, locals := 16 } : Room).cells ({ frames := 1, cells := 0, slots := 0, locals := 16 } : Room).slots) := by
  refine MetFree.of_bodySF (plainFor_of_name pn_com_example_streamgrove_streamgrove_learners_ClassScoresHighestPinLaw) hisR ?_
  intro p e s m args below meth c s₁ Bd hml0 hP hK
  obtain ⟨rfl, hZ, hh⟩ := hP
  have hx := Bd.exec
  have hby := Bd.bytes
  have hml : c.maxLocals = 7 := hml0
  have hown : s.vm.findClass "com/example/streamgrove/streamgrove/learners/ClassScoresHighestPinLaw" = some m.cls := findClass_of_methodNamed Bd.named
  have hnaM := (name_of_methodNamed Bd.named Bd.method).1
  have X0 : Stand p l e ({ frames := 1, cells := 0, slots := 0, locals := 16 } : Room) s m #[(.int (0 : Int32)), (.int pa), (.int pb), (.int pc), (.int pd), (.int pe)] below meth c s₁ [] 0 0 := Stand.of_body Bd
  have e0 : s₁.heap = h0 := by rw [← hh, Bd.state]; rfl
  have N0 := Fr.nil n0
  have pre0 : ∀ t, Steps p.tables e below (s₁.setTop (entryFrame m #[(.int (0 : Int32)), (.int pa), (.int pb), (.int pc), (.int pd), (.int pe)] 7)) t → Steps p.tables e below (s₁.setTop (entryFrame m #[(.int (0 : Int32)), (.int pa), (.int pb), (.int pc), (.int pd), (.int pe)] 7)) t := fun t k => k
  have c0 : ∀ t, Steps p.tables e below (s₁.setTop (mkF m 0 #[.val (.int (0 : Int32)), .val (.int pa), .val (.int pb), .val (.int pc), .val (.int pd), .val (.int pe), .unset] [])) t → Steps p.tables e below (s₁.setTop (entryFrame m #[(.int (0 : Int32)), (.int pa), (.int pb), (.int pc), (.int pd), (.int pe)] 7)) t := fun t k => castTop (ef_2_0 m pa pb pc pd pe) k
  have c1 : ∀ t, Steps p.tables e below (s₁.setTop (mkF m 5 #[.val (.int (0 : Int32)), .val (.int pa), .val (.int pb), .val (.int pc), .val (.int pd), .val (.int pe), .unset] [(.int (0 : Int32))])) t → Steps p.tables e below (s₁.setTop (entryFrame m #[(.int (0 : Int32)), (.int pa), (.int pb), (.int pc), (.int pd), (.int pe)] 7)) t := fun t k => c0 t (by
    show Steps p.tables e below (s₁.setTop (mkF m 0 #[.val (.int (0 : Int32)), .val (.int pa), .val (.int pb), .val (.int pc), .val (.int pd), .val (.int pe), .unset] [])) _
    refine XS.iloadN X0.here hx rfl (hb hby d2_0) rfl ?_
    show Steps p.tables e below (s₁.setTop (mkF m 1 #[.val (.int (0 : Int32)), .val (.int pa), .val (.int pb), .val (.int pc), .val (.int pd), .val (.int pe), .unset] [(.int (0 : Int32))])) _
    refine XS.ifNo X0.here hx rfl (hb hby d2_1) rfl (XT.i0_ne_f (by decide)) ?_
    show Steps p.tables e below (s₁.setTop (mkF m 4 #[.val (.int (0 : Int32)), .val (.int pa), .val (.int pb), .val (.int pc), .val (.int pd), .val (.int pe), .unset] [])) _
    refine XS.iconst X0.here hx rfl (hb hby d2_4) ?_
    show Steps p.tables e below (s₁.setTop (mkF m 5 #[.val (.int (0 : Int32)), .val (.int pa), .val (.int pb), .val (.int pc), .val (.int pd), .val (.int pe), .unset] [(.int (0 : Int32))])) _
    exact k)
  obtain ⟨fs, hr, hrun, hended, hW, hsame⟩ := X0.leave (v := (some (.int (0 : Int32)))) (fun h => by rw [Bd.returns] at h; cases h)
  refine ⟨_, _, pre0 _ (c1 _ (retI X0 hx Bd.returns (hb hby d2_5) hr)), hrun, hended, _, _, rfl, ?_, ⟨_, rfl⟩, hW, hsame.mono (by decide) (by decide)⟩
  show Q_2_0 Z pa pb pc pd pe h0 n0 _ s₁.heap _
  rw [e0]
  exact ⟨⟨0, by decide, rfl, fun j hj => absurd hj (Nat.not_lt_zero j), fun j hj => absurd hj (Nat.not_lt_zero j), Or.inr ⟨rfl, rfl⟩⟩, N0, rfl⟩
theorem d2_6 : decode method_3_code 6 = .ok (.iload_n 1, 1) := by decide +kernel
theorem d2_7 : decode method_3_code 7 = .ok (.istore 6, 2) := by decide +kernel
theorem d2_9 : decode method_3_code 9 = .ok (.iload_n 0, 1) := by decide +kernel
theorem d2_10 : decode method_3_code 10 = .ok (.iconst 1, 1) := by decide +kernel
theorem d2_11 : decode method_3_code 11 = .ok (.if_icmp .le 11, 3) := by decide +kernel
theorem d2_22 : decode method_3_code 22 = .ok (.iload_n 0, 1) := by decide +kernel
theorem d2_23 : decode method_3_code 23 = .ok (.iconst 2, 1) := by decide +kernel
theorem d2_24 : decode method_3_code 24 = .ok (.if_icmp .le 11, 3) := by decide +kernel
theorem d2_35 : decode method_3_code 35 = .ok (.iload_n 0, 1) := by decide +kernel
theorem d2_36 : decode method_3_code 36 = .ok (.iconst 3, 1) := by decide +kernel
theorem d2_37 : decode method_3_code 37 = .ok (.if_icmp .le 12, 3) := by decide +kernel
theorem d2_49 : decode method_3_code 49 = .ok (.iload_n 0, 1) := by decide +kernel
theorem d2_50 : decode method_3_code 50 = .ok (.iconst 4, 1) := by decide +kernel
theorem d2_51 : decode method_3_code 51 = .ok (.if_icmp .le 12, 3) := by decide +kernel
theorem d2_63 : decode method_3_code 63 = .ok (.iload_n 1, 1) := by decide +kernel
theorem d2_64 : decode method_3_code 64 = .ok (.iload 6, 2) := by decide +kernel
theorem d2_66 : decode method_3_code 66 = .ok (.if_icmp .ne 5, 3) := by decide +kernel
theorem d2_69 : decode method_3_code 69 = .ok (.iconst 0, 1) := by decide +kernel
theorem d2_70 : decode method_3_code 70 = .ok (.ireturn, 1) := by decide +kernel
theorem d2_71 : decode method_3_code 71 = .ok (.iload_n 0, 1) := by decide +kernel
theorem d2_72 : decode method_3_code 72 = .ok (.iconst 1, 1) := by decide +kernel
theorem d2_73 : decode method_3_code 73 = .ok (.if_icmp .le 11, 3) := by decide +kernel
theorem d2_84 : decode method_3_code 84 = .ok (.iload_n 0, 1) := by decide +kernel
theorem d2_85 : decode method_3_code 85 = .ok (.iconst 2, 1) := by decide +kernel
theorem d2_86 : decode method_3_code 86 = .ok (.if_icmp .le 11, 3) := by decide +kernel
theorem d2_97 : decode method_3_code 97 = .ok (.iload_n 0, 1) := by decide +kernel
theorem d2_98 : decode method_3_code 98 = .ok (.iconst 3, 1) := by decide +kernel
theorem d2_99 : decode method_3_code 99 = .ok (.if_icmp .le 12, 3) := by decide +kernel
theorem d2_111 : decode method_3_code 111 = .ok (.iconst 4, 1) := by decide +kernel
theorem d2_112 : decode method_3_code 112 = .ok (.ireturn, 1) := by decide +kernel
theorem ef_2_1 (m : MethodId) (pa : Int32) (pb : Int32) (pc : Int32) (pd : Int32) (pe : Int32) : entryFrame m #[(.int (1 : Int32)), (.int pa), (.int pb), (.int pc), (.int pd), (.int pe)] 7 = (mkF m 0 #[.val (.int (1 : Int32)), .val (.int pa), .val (.int pb), .val (.int pc), .val (.int pd), .val (.int pe), .unset] []) := by first | (simp [entryFrame, mkF, argsToLocals, Value.category]; done) | rfl
def Q_2_1 (Z : State) (pa : Int32) (pb : Int32) (pc : Int32) (pd : Int32) (pe : Int32) (h0 : Heap) (n0 : Nat) (v : Option Value) (h : Heap) (L : List Loc) : Prop := (∃ i : Nat, i < 5 ∧ v = some (.int (Int32.ofNat i)) ∧ Best (five pa pb pc pd pe) 1 i) ∧ Fr n0 L ∧ h = h0
set_option maxRecDepth 65536 in
set_option maxHeartbeats 2000000 in
theorem rm_2_1 (l : Launch) (Z : State) (a0 : Array Value) (hw : ∀ d ∈ tables_1, d.before a0 Z = true) (ws : List Jvm.Cond) (pa : Int32) (pb : Int32) (pc : Int32) (pd : Int32) (pe : Int32) (h0 : Heap) (n0 : Nat) (Z0 : n0 ≤ h0.size)  :
    MetFree l (⟨"com/example/streamgrove/streamgrove/learners/ClassScoresHighestPinLaw", "expected", "(IIIIII)I"⟩ : MethodName) (head1 (Jvm.Cond.code (⟨"com/example/streamgrove/streamgrove/learners/ClassScoresHighestPinLaw", "expected", "(IIIIII)I"⟩ : MethodName) method_3_code 7 (some .int) :: ws) ({ frames := 1, cells := 0, slots := 0, locals := 16 } : Room)) (fun aa UU => aa = #[(.int (1 : Int32)), (.int pa), (.int pb), (.int pc), (.int pd), (.int pe)] ∧ Z.Warmed39 UU.vm ∧ UU.heap = h0) (fun _ _ _ _ _ => True) (fun _ UU oo UU' => ∃ v L, oo = .returned v ∧ Q_2_1 Z pa pb pc pd pe h0 n0 v UU'.heap L ∧ FrameEnd UU oo UU' L ({ frames := 1, cells := 0, slots := 0, locals := 16 } : Room).cells ({ frames := 1, cells := 0, slots := 0, locals := 16 } : Room).slots) := by
  refine MetFree.of_bodySF (plainFor_of_name pn_com_example_streamgrove_streamgrove_learners_ClassScoresHighestPinLaw) hisR ?_
  intro p e s m args below meth c s₁ Bd hml0 hP hK
  obtain ⟨rfl, hZ, hh⟩ := hP
  have hx := Bd.exec
  have hby := Bd.bytes
  have hml : c.maxLocals = 7 := hml0
  have hown : s.vm.findClass "com/example/streamgrove/streamgrove/learners/ClassScoresHighestPinLaw" = some m.cls := findClass_of_methodNamed Bd.named
  have hnaM := (name_of_methodNamed Bd.named Bd.method).1
  have X0 : Stand p l e ({ frames := 1, cells := 0, slots := 0, locals := 16 } : Room) s m #[(.int (1 : Int32)), (.int pa), (.int pb), (.int pc), (.int pd), (.int pe)] below meth c s₁ [] 0 0 := Stand.of_body Bd
  have e0 : s₁.heap = h0 := by rw [← hh, Bd.state]; rfl
  have N0 := Fr.nil n0
  have pre0 : ∀ t, Steps p.tables e below (s₁.setTop (entryFrame m #[(.int (1 : Int32)), (.int pa), (.int pb), (.int pc), (.int pd), (.int pe)] 7)) t → Steps p.tables e below (s₁.setTop (entryFrame m #[(.int (1 : Int32)), (.int pa), (.int pb), (.int pc), (.int pd), (.int pe)] 7)) t := fun t k => k
  have c0 : ∀ t, Steps p.tables e below (s₁.setTop (mkF m 0 #[.val (.int (1 : Int32)), .val (.int pa), .val (.int pb), .val (.int pc), .val (.int pd), .val (.int pe), .unset] [])) t → Steps p.tables e below (s₁.setTop (entryFrame m #[(.int (1 : Int32)), (.int pa), (.int pb), (.int pc), (.int pd), (.int pe)] 7)) t := fun t k => castTop (ef_2_1 m pa pb pc pd pe) k
  have c1 : ∀ t, Steps p.tables e below (s₁.setTop (mkF m 66 #[.val (.int (1 : Int32)), .val (.int pa), .val (.int pb), .val (.int pc), .val (.int pd), .val (.int pe), .val (.int pa)] [(.int pa), (.int pa)])) t → Steps p.tables e below (s₁.setTop (entryFrame m #[(.int (1 : Int32)), (.int pa), (.int pb), (.int pc), (.int pd), (.int pe)] 7)) t := fun t k => c0 t (by
    show Steps p.tables e below (s₁.setTop (mkF m 0 #[.val (.int (1 : Int32)), .val (.int pa), .val (.int pb), .val (.int pc), .val (.int pd), .val (.int pe), .unset] [])) _
    refine XS.iloadN X0.here hx rfl (hb hby d2_0) rfl ?_
    show Steps p.tables e below (s₁.setTop (mkF m 1 #[.val (.int (1 : Int32)), .val (.int pa), .val (.int pb), .val (.int pc), .val (.int pd), .val (.int pe), .unset] [(.int (1 : Int32))])) _
    refine XS.ifYes X0.here hx rfl (pc0 := 1) (pc' := 6) rfl (hb hby d2_1) rfl (XT.i0_ne_t (by decide)) (by decide) (by decide) ?_
    show Steps p.tables e below (s₁.setTop (mkF m 6 #[.val (.int (1 : Int32)), .val (.int pa), .val (.int pb), .val (.int pc), .val (.int pd), .val (.int pe), .unset] [])) _
    refine XS.iloadN X0.here hx rfl (hb hby d2_6) rfl ?_
    show Steps p.tables e below (s₁.setTop (mkF m 7 #[.val (.int (1 : Int32)), .val (.int pa), .val (.int pb), .val (.int pc), .val (.int pd), .val (.int pe), .unset] [(.int pa)])) _
    refine XS.istore X0.here hx rfl (hb hby d2_7) rfl (l' := #[.val (.int (1 : Int32)), .val (.int pa), .val (.int pb), .val (.int pc), .val (.int pd), .val (.int pe), .val (.int pa)]) rfl ?_
    show Steps p.tables e below (s₁.setTop (mkF m 9 #[.val (.int (1 : Int32)), .val (.int pa), .val (.int pb), .val (.int pc), .val (.int pd), .val (.int pe), .val (.int pa)] [])) _
    refine XS.iloadN X0.here hx rfl (hb hby d2_9) rfl ?_
    show Steps p.tables e below (s₁.setTop (mkF m 10 #[.val (.int (1 : Int32)), .val (.int pa), .val (.int pb), .val (.int pc), .val (.int pd), .val (.int pe), .val (.int pa)] [(.int (1 : Int32))])) _
    refine XS.iconst X0.here hx rfl (hb hby d2_10) ?_
    show Steps p.tables e below (s₁.setTop (mkF m 11 #[.val (.int (1 : Int32)), .val (.int pa), .val (.int pb), .val (.int pc), .val (.int pd), .val (.int pe), .val (.int pa)] [(.int (1 : Int32)), (.int (1 : Int32))])) _
    refine XS.icmpYes X0.here hx rfl (pc0 := 11) (pc' := 22) rfl (hb hby d2_11) rfl (XT.ii_le_t (by decide)) (by decide) (by decide) ?_
    show Steps p.tables e below (s₁.setTop (mkF m 22 #[.val (.int (1 : Int32)), .val (.int pa), .val (.int pb), .val (.int pc), .val (.int pd), .val (.int pe), .val (.int pa)] [])) _
    refine XS.iloadN X0.here hx rfl (hb hby d2_22) rfl ?_
    show Steps p.tables e below (s₁.setTop (mkF m 23 #[.val (.int (1 : Int32)), .val (.int pa), .val (.int pb), .val (.int pc), .val (.int pd), .val (.int pe), .val (.int pa)] [(.int (1 : Int32))])) _
    refine XS.iconst X0.here hx rfl (hb hby d2_23) ?_
    show Steps p.tables e below (s₁.setTop (mkF m 24 #[.val (.int (1 : Int32)), .val (.int pa), .val (.int pb), .val (.int pc), .val (.int pd), .val (.int pe), .val (.int pa)] [(.int (2 : Int32)), (.int (1 : Int32))])) _
    refine XS.icmpYes X0.here hx rfl (pc0 := 24) (pc' := 35) rfl (hb hby d2_24) rfl (XT.ii_le_t (by decide)) (by decide) (by decide) ?_
    show Steps p.tables e below (s₁.setTop (mkF m 35 #[.val (.int (1 : Int32)), .val (.int pa), .val (.int pb), .val (.int pc), .val (.int pd), .val (.int pe), .val (.int pa)] [])) _
    refine XS.iloadN X0.here hx rfl (hb hby d2_35) rfl ?_
    show Steps p.tables e below (s₁.setTop (mkF m 36 #[.val (.int (1 : Int32)), .val (.int pa), .val (.int pb), .val (.int pc), .val (.int pd), .val (.int pe), .val (.int pa)] [(.int (1 : Int32))])) _
    refine XS.iconst X0.here hx rfl (hb hby d2_36) ?_
    show Steps p.tables e below (s₁.setTop (mkF m 37 #[.val (.int (1 : Int32)), .val (.int pa), .val (.int pb), .val (.int pc), .val (.int pd), .val (.int pe), .val (.int pa)] [(.int (3 : Int32)), (.int (1 : Int32))])) _
    refine XS.icmpYes X0.here hx rfl (pc0 := 37) (pc' := 49) rfl (hb hby d2_37) rfl (XT.ii_le_t (by decide)) (by decide) (by decide) ?_
    show Steps p.tables e below (s₁.setTop (mkF m 49 #[.val (.int (1 : Int32)), .val (.int pa), .val (.int pb), .val (.int pc), .val (.int pd), .val (.int pe), .val (.int pa)] [])) _
    refine XS.iloadN X0.here hx rfl (hb hby d2_49) rfl ?_
    show Steps p.tables e below (s₁.setTop (mkF m 50 #[.val (.int (1 : Int32)), .val (.int pa), .val (.int pb), .val (.int pc), .val (.int pd), .val (.int pe), .val (.int pa)] [(.int (1 : Int32))])) _
    refine XS.iconst X0.here hx rfl (hb hby d2_50) ?_
    show Steps p.tables e below (s₁.setTop (mkF m 51 #[.val (.int (1 : Int32)), .val (.int pa), .val (.int pb), .val (.int pc), .val (.int pd), .val (.int pe), .val (.int pa)] [(.int (4 : Int32)), (.int (1 : Int32))])) _
    refine XS.icmpYes X0.here hx rfl (pc0 := 51) (pc' := 63) rfl (hb hby d2_51) rfl (XT.ii_le_t (by decide)) (by decide) (by decide) ?_
    show Steps p.tables e below (s₁.setTop (mkF m 63 #[.val (.int (1 : Int32)), .val (.int pa), .val (.int pb), .val (.int pc), .val (.int pd), .val (.int pe), .val (.int pa)] [])) _
    refine XS.iloadN X0.here hx rfl (hb hby d2_63) rfl ?_
    show Steps p.tables e below (s₁.setTop (mkF m 64 #[.val (.int (1 : Int32)), .val (.int pa), .val (.int pb), .val (.int pc), .val (.int pd), .val (.int pe), .val (.int pa)] [(.int pa)])) _
    refine XS.iload X0.here hx rfl (hb hby d2_64) rfl ?_
    show Steps p.tables e below (s₁.setTop (mkF m 66 #[.val (.int (1 : Int32)), .val (.int pa), .val (.int pb), .val (.int pc), .val (.int pd), .val (.int pe), .val (.int pa)] [(.int pa), (.int pa)])) _
    exact k)
  by_cases q66 : pa = pa
  · skip
    have r66 := congrArg Int32.toInt q66
    have c2 : ∀ t, Steps p.tables e below (s₁.setTop (mkF m 70 #[.val (.int (1 : Int32)), .val (.int pa), .val (.int pb), .val (.int pc), .val (.int pd), .val (.int pe), .val (.int pa)] [(.int (0 : Int32))])) t → Steps p.tables e below (s₁.setTop (entryFrame m #[(.int (1 : Int32)), (.int pa), (.int pb), (.int pc), (.int pd), (.int pe)] 7)) t := fun t k => c1 t (by
      show Steps p.tables e below (s₁.setTop (mkF m 66 #[.val (.int (1 : Int32)), .val (.int pa), .val (.int pb), .val (.int pc), .val (.int pd), .val (.int pe), .val (.int pa)] [(.int pa), (.int pa)])) _
      refine XS.icmpNo X0.here hx rfl (hb hby d2_66) rfl (XT.ii_ne_f q66) ?_
      show Steps p.tables e below (s₁.setTop (mkF m 69 #[.val (.int (1 : Int32)), .val (.int pa), .val (.int pb), .val (.int pc), .val (.int pd), .val (.int pe), .val (.int pa)] [])) _
      refine XS.iconst X0.here hx rfl (hb hby d2_69) ?_
      show Steps p.tables e below (s₁.setTop (mkF m 70 #[.val (.int (1 : Int32)), .val (.int pa), .val (.int pb), .val (.int pc), .val (.int pd), .val (.int pe), .val (.int pa)] [(.int (0 : Int32))])) _
      exact k)
    obtain ⟨fs, hr, hrun, hended, hW, hsame⟩ := X0.leave (v := (some (.int (0 : Int32)))) (fun h => by rw [Bd.returns] at h; cases h)
    refine ⟨_, _, pre0 _ (c2 _ (retI X0 hx Bd.returns (hb hby d2_70) hr)), hrun, hended, _, _, rfl, ?_, ⟨_, rfl⟩, hW, hsame.mono (by decide) (by decide)⟩
    show Q_2_1 Z pa pb pc pd pe h0 n0 _ s₁.heap _
    rw [e0]
    exact ⟨⟨0, by decide, rfl, (fun j hj => by
      match j, hj with
      | 0, _ => show pa.toInt ≤ pa.toInt; omega), (fun j hj => absurd hj (Nat.not_lt_zero j)), Or.inl (by decide)⟩, N0, rfl⟩
  · skip
    have r66 := ne_k q66
    have c3 : ∀ t, Steps p.tables e below (s₁.setTop (mkF m 112 #[.val (.int (1 : Int32)), .val (.int pa), .val (.int pb), .val (.int pc), .val (.int pd), .val (.int pe), .val (.int pa)] [(.int (4 : Int32))])) t → Steps p.tables e below (s₁.setTop (entryFrame m #[(.int (1 : Int32)), (.int pa), (.int pb), (.int pc), (.int pd), (.int pe)] 7)) t := fun t k => c1 t (by
      show Steps p.tables e below (s₁.setTop (mkF m 66 #[.val (.int (1 : Int32)), .val (.int pa), .val (.int pb), .val (.int pc), .val (.int pd), .val (.int pe), .val (.int pa)] [(.int pa), (.int pa)])) _
      refine XS.icmpYes X0.here hx rfl (pc0 := 66) (pc' := 71) rfl (hb hby d2_66) rfl (XT.ii_ne_t q66) (by decide) (by decide) ?_
      show Steps p.tables e below (s₁.setTop (mkF m 71 #[.val (.int (1 : Int32)), .val (.int pa), .val (.int pb), .val (.int pc), .val (.int pd), .val (.int pe), .val (.int pa)] [])) _
      refine XS.iloadN X0.here hx rfl (hb hby d2_71) rfl ?_
      show Steps p.tables e below (s₁.setTop (mkF m 72 #[.val (.int (1 : Int32)), .val (.int pa), .val (.int pb), .val (.int pc), .val (.int pd), .val (.int pe), .val (.int pa)] [(.int (1 : Int32))])) _
      refine XS.iconst X0.here hx rfl (hb hby d2_72) ?_
      show Steps p.tables e below (s₁.setTop (mkF m 73 #[.val (.int (1 : Int32)), .val (.int pa), .val (.int pb), .val (.int pc), .val (.int pd), .val (.int pe), .val (.int pa)] [(.int (1 : Int32)), (.int (1 : Int32))])) _
      refine XS.icmpYes X0.here hx rfl (pc0 := 73) (pc' := 84) rfl (hb hby d2_73) rfl (XT.ii_le_t (by decide)) (by decide) (by decide) ?_
      show Steps p.tables e below (s₁.setTop (mkF m 84 #[.val (.int (1 : Int32)), .val (.int pa), .val (.int pb), .val (.int pc), .val (.int pd), .val (.int pe), .val (.int pa)] [])) _
      refine XS.iloadN X0.here hx rfl (hb hby d2_84) rfl ?_
      show Steps p.tables e below (s₁.setTop (mkF m 85 #[.val (.int (1 : Int32)), .val (.int pa), .val (.int pb), .val (.int pc), .val (.int pd), .val (.int pe), .val (.int pa)] [(.int (1 : Int32))])) _
      refine XS.iconst X0.here hx rfl (hb hby d2_85) ?_
      show Steps p.tables e below (s₁.setTop (mkF m 86 #[.val (.int (1 : Int32)), .val (.int pa), .val (.int pb), .val (.int pc), .val (.int pd), .val (.int pe), .val (.int pa)] [(.int (2 : Int32)), (.int (1 : Int32))])) _
      refine XS.icmpYes X0.here hx rfl (pc0 := 86) (pc' := 97) rfl (hb hby d2_86) rfl (XT.ii_le_t (by decide)) (by decide) (by decide) ?_
      show Steps p.tables e below (s₁.setTop (mkF m 97 #[.val (.int (1 : Int32)), .val (.int pa), .val (.int pb), .val (.int pc), .val (.int pd), .val (.int pe), .val (.int pa)] [])) _
      refine XS.iloadN X0.here hx rfl (hb hby d2_97) rfl ?_
      show Steps p.tables e below (s₁.setTop (mkF m 98 #[.val (.int (1 : Int32)), .val (.int pa), .val (.int pb), .val (.int pc), .val (.int pd), .val (.int pe), .val (.int pa)] [(.int (1 : Int32))])) _
      refine XS.iconst X0.here hx rfl (hb hby d2_98) ?_
      show Steps p.tables e below (s₁.setTop (mkF m 99 #[.val (.int (1 : Int32)), .val (.int pa), .val (.int pb), .val (.int pc), .val (.int pd), .val (.int pe), .val (.int pa)] [(.int (3 : Int32)), (.int (1 : Int32))])) _
      refine XS.icmpYes X0.here hx rfl (pc0 := 99) (pc' := 111) rfl (hb hby d2_99) rfl (XT.ii_le_t (by decide)) (by decide) (by decide) ?_
      show Steps p.tables e below (s₁.setTop (mkF m 111 #[.val (.int (1 : Int32)), .val (.int pa), .val (.int pb), .val (.int pc), .val (.int pd), .val (.int pe), .val (.int pa)] [])) _
      refine XS.iconst X0.here hx rfl (hb hby d2_111) ?_
      show Steps p.tables e below (s₁.setTop (mkF m 112 #[.val (.int (1 : Int32)), .val (.int pa), .val (.int pb), .val (.int pc), .val (.int pd), .val (.int pe), .val (.int pa)] [(.int (4 : Int32))])) _
      exact k)
    obtain ⟨fs, hr, hrun, hended, hW, hsame⟩ := X0.leave (v := (some (.int (4 : Int32)))) (fun h => by rw [Bd.returns] at h; cases h)
    refine ⟨_, _, pre0 _ (c3 _ (retI X0 hx Bd.returns (hb hby d2_112) hr)), hrun, hended, _, _, rfl, ?_, ⟨_, rfl⟩, hW, hsame.mono (by decide) (by decide)⟩
    show Q_2_1 Z pa pb pc pd pe h0 n0 _ s₁.heap _
    rw [e0]
    exfalso; omega
theorem d2_14 : decode method_3_code 14 = .ok (.iload 6, 2) := by decide +kernel
theorem d2_16 : decode method_3_code 16 = .ok (.iload_n 2, 1) := by decide +kernel
theorem d2_17 : decode method_3_code 17 = .ok (.invokestatic 19, 3) := by decide +kernel
theorem d2_20 : decode method_3_code 20 = .ok (.istore 6, 2) := by decide +kernel
theorem d2_76 : decode method_3_code 76 = .ok (.iload_n 2, 1) := by decide +kernel
theorem d2_77 : decode method_3_code 77 = .ok (.iload 6, 2) := by decide +kernel
theorem d2_79 : decode method_3_code 79 = .ok (.if_icmp .ne 5, 3) := by decide +kernel
theorem d2_82 : decode method_3_code 82 = .ok (.iconst 1, 1) := by decide +kernel
theorem d2_83 : decode method_3_code 83 = .ok (.ireturn, 1) := by decide +kernel
theorem ef_2_2 (m : MethodId) (pa : Int32) (pb : Int32) (pc : Int32) (pd : Int32) (pe : Int32) : entryFrame m #[(.int (2 : Int32)), (.int pa), (.int pb), (.int pc), (.int pd), (.int pe)] 7 = (mkF m 0 #[.val (.int (2 : Int32)), .val (.int pa), .val (.int pb), .val (.int pc), .val (.int pd), .val (.int pe), .unset] []) := by first | (simp [entryFrame, mkF, argsToLocals, Value.category]; done) | rfl
def Q_2_2 (Z : State) (pa : Int32) (pb : Int32) (pc : Int32) (pd : Int32) (pe : Int32) (h0 : Heap) (n0 : Nat) (v : Option Value) (h : Heap) (L : List Loc) : Prop := (∃ i : Nat, i < 5 ∧ v = some (.int (Int32.ofNat i)) ∧ Best (five pa pb pc pd pe) 2 i) ∧ Fr n0 L ∧ h = h0
set_option maxRecDepth 65536 in
set_option maxHeartbeats 2000000 in
theorem rm_2_2 (l : Launch) (Z : State) (a0 : Array Value) (hw : ∀ d ∈ tables_1, d.before a0 Z = true) (ws : List Jvm.Cond) (pa : Int32) (pb : Int32) (pc : Int32) (pd : Int32) (pe : Int32) (h0 : Heap) (n0 : Nat) (Z0 : n0 ≤ h0.size)  :
    MetFree l (⟨"com/example/streamgrove/streamgrove/learners/ClassScoresHighestPinLaw", "expected", "(IIIIII)I"⟩ : MethodName) (head1 (Jvm.Cond.code (⟨"com/example/streamgrove/streamgrove/learners/ClassScoresHighestPinLaw", "expected", "(IIIIII)I"⟩ : MethodName) method_3_code 7 (some .int) :: ws) ({ frames := 1, cells := 0, slots := 0, locals := 16 } : Room)) (fun aa UU => aa = #[(.int (2 : Int32)), (.int pa), (.int pb), (.int pc), (.int pd), (.int pe)] ∧ Z.Warmed39 UU.vm ∧ UU.heap = h0) (fun _ _ _ _ _ => True) (fun _ UU oo UU' => ∃ v L, oo = .returned v ∧ Q_2_2 Z pa pb pc pd pe h0 n0 v UU'.heap L ∧ FrameEnd UU oo UU' L ({ frames := 1, cells := 0, slots := 0, locals := 16 } : Room).cells ({ frames := 1, cells := 0, slots := 0, locals := 16 } : Room).slots) := by
  refine MetFree.of_bodySF (plainFor_of_name pn_com_example_streamgrove_streamgrove_learners_ClassScoresHighestPinLaw) hisR ?_
  intro p e s m args below meth c s₁ Bd hml0 hP hK
  obtain ⟨rfl, hZ, hh⟩ := hP
  have hx := Bd.exec
  have hby := Bd.bytes
  have hml : c.maxLocals = 7 := hml0
  have hown : s.vm.findClass "com/example/streamgrove/streamgrove/learners/ClassScoresHighestPinLaw" = some m.cls := findClass_of_methodNamed Bd.named
  have hnaM := (name_of_methodNamed Bd.named Bd.method).1
  have X0 : Stand p l e ({ frames := 1, cells := 0, slots := 0, locals := 16 } : Room) s m #[(.int (2 : Int32)), (.int pa), (.int pb), (.int pc), (.int pd), (.int pe)] below meth c s₁ [] 0 0 := Stand.of_body Bd
  have e0 : s₁.heap = h0 := by rw [← hh, Bd.state]; rfl
  have N0 := Fr.nil n0
  have pre0 : ∀ t, Steps p.tables e below (s₁.setTop (entryFrame m #[(.int (2 : Int32)), (.int pa), (.int pb), (.int pc), (.int pd), (.int pe)] 7)) t → Steps p.tables e below (s₁.setTop (entryFrame m #[(.int (2 : Int32)), (.int pa), (.int pb), (.int pc), (.int pd), (.int pe)] 7)) t := fun t k => k
  have c0 : ∀ t, Steps p.tables e below (s₁.setTop (mkF m 0 #[.val (.int (2 : Int32)), .val (.int pa), .val (.int pb), .val (.int pc), .val (.int pd), .val (.int pe), .unset] [])) t → Steps p.tables e below (s₁.setTop (entryFrame m #[(.int (2 : Int32)), (.int pa), (.int pb), (.int pc), (.int pd), (.int pe)] 7)) t := fun t k => castTop (ef_2_2 m pa pb pc pd pe) k
  have c1 : ∀ t, Steps p.tables e below (s₁.setTop (mkF m 17 #[.val (.int (2 : Int32)), .val (.int pa), .val (.int pb), .val (.int pc), .val (.int pd), .val (.int pe), .val (.int pa)] [(.int pb), (.int pa)])) t → Steps p.tables e below (s₁.setTop (entryFrame m #[(.int (2 : Int32)), (.int pa), (.int pb), (.int pc), (.int pd), (.int pe)] 7)) t := fun t k => c0 t (by
    show Steps p.tables e below (s₁.setTop (mkF m 0 #[.val (.int (2 : Int32)), .val (.int pa), .val (.int pb), .val (.int pc), .val (.int pd), .val (.int pe), .unset] [])) _
    refine XS.iloadN X0.here hx rfl (hb hby d2_0) rfl ?_
    show Steps p.tables e below (s₁.setTop (mkF m 1 #[.val (.int (2 : Int32)), .val (.int pa), .val (.int pb), .val (.int pc), .val (.int pd), .val (.int pe), .unset] [(.int (2 : Int32))])) _
    refine XS.ifYes X0.here hx rfl (pc0 := 1) (pc' := 6) rfl (hb hby d2_1) rfl (XT.i0_ne_t (by decide)) (by decide) (by decide) ?_
    show Steps p.tables e below (s₁.setTop (mkF m 6 #[.val (.int (2 : Int32)), .val (.int pa), .val (.int pb), .val (.int pc), .val (.int pd), .val (.int pe), .unset] [])) _
    refine XS.iloadN X0.here hx rfl (hb hby d2_6) rfl ?_
    show Steps p.tables e below (s₁.setTop (mkF m 7 #[.val (.int (2 : Int32)), .val (.int pa), .val (.int pb), .val (.int pc), .val (.int pd), .val (.int pe), .unset] [(.int pa)])) _
    refine XS.istore X0.here hx rfl (hb hby d2_7) rfl (l' := #[.val (.int (2 : Int32)), .val (.int pa), .val (.int pb), .val (.int pc), .val (.int pd), .val (.int pe), .val (.int pa)]) rfl ?_
    show Steps p.tables e below (s₁.setTop (mkF m 9 #[.val (.int (2 : Int32)), .val (.int pa), .val (.int pb), .val (.int pc), .val (.int pd), .val (.int pe), .val (.int pa)] [])) _
    refine XS.iloadN X0.here hx rfl (hb hby d2_9) rfl ?_
    show Steps p.tables e below (s₁.setTop (mkF m 10 #[.val (.int (2 : Int32)), .val (.int pa), .val (.int pb), .val (.int pc), .val (.int pd), .val (.int pe), .val (.int pa)] [(.int (2 : Int32))])) _
    refine XS.iconst X0.here hx rfl (hb hby d2_10) ?_
    show Steps p.tables e below (s₁.setTop (mkF m 11 #[.val (.int (2 : Int32)), .val (.int pa), .val (.int pb), .val (.int pc), .val (.int pd), .val (.int pe), .val (.int pa)] [(.int (1 : Int32)), (.int (2 : Int32))])) _
    refine XS.icmpNo X0.here hx rfl (hb hby d2_11) rfl (XT.ii_le_f (by decide)) ?_
    show Steps p.tables e below (s₁.setTop (mkF m 14 #[.val (.int (2 : Int32)), .val (.int pa), .val (.int pb), .val (.int pc), .val (.int pd), .val (.int pe), .val (.int pa)] [])) _
    refine XS.iload X0.here hx rfl (hb hby d2_14) rfl ?_
    show Steps p.tables e below (s₁.setTop (mkF m 16 #[.val (.int (2 : Int32)), .val (.int pa), .val (.int pb), .val (.int pc), .val (.int pd), .val (.int pe), .val (.int pa)] [(.int pa)])) _
    refine XS.iloadN X0.here hx rfl (hb hby d2_16) rfl ?_
    show Steps p.tables e below (s₁.setTop (mkF m 17 #[.val (.int (2 : Int32)), .val (.int pa), .val (.int pb), .val (.int pc), .val (.int pd), .val (.int pe), .val (.int pa)] [(.int pb), (.int pa)])) _
    exact k)
  obtain ⟨_, _, ⟨T2, L2, k2', n2⟩, -, X2, ⟨Lc2, hQ2, l2, y2, z2⟩, st2⟩ := Jvm.LawKit.callS X0 hx (y := (⟨"java/lang/Math", "max", "(II)I"⟩ : MethodName)) hown (mvT hZ (hw _ (List.mem_of_getElem? (i := 9) rfl))) (mvT hZ (hw _ (List.mem_of_getElem? (i := 10) rfl))) (mvT hZ (hw _ (List.mem_of_getElem? (i := 11) rfl))) (mvT hZ (hw _ (List.mem_of_getElem? (i := 12) rfl))) (by decide) (backOf (W := 0) (rm_3 l Z a0 hw [] pa pb h0 n0 Z0) hZ (hw _ (List.mem_of_getElem? (i := 12) rfl)) (hw _ (List.mem_of_getElem? (i := 11) rfl)) (by decide) (by decide)) (g := (mkF m 17 #[.val (.int (2 : Int32)), .val (.int pa), .val (.int pb), .val (.int pc), .val (.int pd), .val (.int pe), .val (.int pa)] [(.int pb), (.int pa)])) rfl (by rw [hml]; rfl) (argsL := [(.int pa), (.int pb)]) (rest := []) (lenOf pd__II_I rfl) rfl (by show 2 * 0 + _ ≤ _; exact Nat.le_of_eq rfl) (hb hby d2_17) (fun _ _ => ⟨rfl, e0, (by decide : 0 + 0 ≤ _), (by decide : 0 + 0 ≤ _)⟩)
  dsimp only [Pt.U, Pt.locs, Pt.cells, Pt.slots] at X2 l2 y2 z2 st2 hQ2
  subst l2 y2 z2
  obtain ⟨rfl, N2, e2⟩ := hQ2
  have M2 := Fr.app N0 N2
  have c3 : ∀ t, Steps p.tables e below (T2.setTop (mkF m 20 #[.val (.int (2 : Int32)), .val (.int pa), .val (.int pb), .val (.int pc), .val (.int pd), .val (.int pe), .val (.int pa)] [(.int (if pa < pb then pb else pa))])) t → Steps p.tables e below (s₁.setTop (entryFrame m #[(.int (2 : Int32)), (.int pa), (.int pb), (.int pc), (.int pd), (.int pe)] 7)) t := fun t k => c1 t (st2 _ k)
  obtain ⟨m1, hm1⟩ : ∃ v : Int32, v = (if pa < pb then pb else pa) := ⟨_, rfl⟩
  have c4 : ∀ t, Steps p.tables e below (T2.setTop (mkF m 22 #[.val (.int (2 : Int32)), .val (.int pa), .val (.int pb), .val (.int pc), .val (.int pd), .val (.int pe), .val (.int m1)] [])) t → Steps p.tables e below (s₁.setTop (entryFrame m #[(.int (2 : Int32)), (.int pa), (.int pb), (.int pc), (.int pd), (.int pe)] 7)) t := fun t k => c3 t (by
    rw [hm1] at k
    show Steps p.tables e below (T2.setTop (mkF m 20 #[.val (.int (2 : Int32)), .val (.int pa), .val (.int pb), .val (.int pc), .val (.int pd), .val (.int pe), .val (.int pa)] [(.int (if pa < pb then pb else pa))])) _
    refine XS.istore X2.here hx rfl (hb hby d2_20) rfl (l' := #[.val (.int (2 : Int32)), .val (.int pa), .val (.int pb), .val (.int pc), .val (.int pd), .val (.int pe), .val (.int (if pa < pb then pb else pa))]) rfl ?_
    show Steps p.tables e below (T2.setTop (mkF m 22 #[.val (.int (2 : Int32)), .val (.int pa), .val (.int pb), .val (.int pc), .val (.int pd), .val (.int pe), .val (.int (if pa < pb then pb else pa))] [])) _
    exact k)
  have km1 := max_k hm1
  have c5 : ∀ t, Steps p.tables e below (T2.setTop (mkF m 66 #[.val (.int (2 : Int32)), .val (.int pa), .val (.int pb), .val (.int pc), .val (.int pd), .val (.int pe), .val (.int m1)] [(.int m1), (.int pa)])) t → Steps p.tables e below (s₁.setTop (entryFrame m #[(.int (2 : Int32)), (.int pa), (.int pb), (.int pc), (.int pd), (.int pe)] 7)) t := fun t k => c4 t (by
    show Steps p.tables e below (T2.setTop (mkF m 22 #[.val (.int (2 : Int32)), .val (.int pa), .val (.int pb), .val (.int pc), .val (.int pd), .val (.int pe), .val (.int m1)] [])) _
    refine XS.iloadN X2.here hx rfl (hb hby d2_22) rfl ?_
    show Steps p.tables e below (T2.setTop (mkF m 23 #[.val (.int (2 : Int32)), .val (.int pa), .val (.int pb), .val (.int pc), .val (.int pd), .val (.int pe), .val (.int m1)] [(.int (2 : Int32))])) _
    refine XS.iconst X2.here hx rfl (hb hby d2_23) ?_
    show Steps p.tables e below (T2.setTop (mkF m 24 #[.val (.int (2 : Int32)), .val (.int pa), .val (.int pb), .val (.int pc), .val (.int pd), .val (.int pe), .val (.int m1)] [(.int (2 : Int32)), (.int (2 : Int32))])) _
    refine XS.icmpYes X2.here hx rfl (pc0 := 24) (pc' := 35) rfl (hb hby d2_24) rfl (XT.ii_le_t (by decide)) (by decide) (by decide) ?_
    show Steps p.tables e below (T2.setTop (mkF m 35 #[.val (.int (2 : Int32)), .val (.int pa), .val (.int pb), .val (.int pc), .val (.int pd), .val (.int pe), .val (.int m1)] [])) _
    refine XS.iloadN X2.here hx rfl (hb hby d2_35) rfl ?_
    show Steps p.tables e below (T2.setTop (mkF m 36 #[.val (.int (2 : Int32)), .val (.int pa), .val (.int pb), .val (.int pc), .val (.int pd), .val (.int pe), .val (.int m1)] [(.int (2 : Int32))])) _
    refine XS.iconst X2.here hx rfl (hb hby d2_36) ?_
    show Steps p.tables e below (T2.setTop (mkF m 37 #[.val (.int (2 : Int32)), .val (.int pa), .val (.int pb), .val (.int pc), .val (.int pd), .val (.int pe), .val (.int m1)] [(.int (3 : Int32)), (.int (2 : Int32))])) _
    refine XS.icmpYes X2.here hx rfl (pc0 := 37) (pc' := 49) rfl (hb hby d2_37) rfl (XT.ii_le_t (by decide)) (by decide) (by decide) ?_
    show Steps p.tables e below (T2.setTop (mkF m 49 #[.val (.int (2 : Int32)), .val (.int pa), .val (.int pb), .val (.int pc), .val (.int pd), .val (.int pe), .val (.int m1)] [])) _
    refine XS.iloadN X2.here hx rfl (hb hby d2_49) rfl ?_
    show Steps p.tables e below (T2.setTop (mkF m 50 #[.val (.int (2 : Int32)), .val (.int pa), .val (.int pb), .val (.int pc), .val (.int pd), .val (.int pe), .val (.int m1)] [(.int (2 : Int32))])) _
    refine XS.iconst X2.here hx rfl (hb hby d2_50) ?_
    show Steps p.tables e below (T2.setTop (mkF m 51 #[.val (.int (2 : Int32)), .val (.int pa), .val (.int pb), .val (.int pc), .val (.int pd), .val (.int pe), .val (.int m1)] [(.int (4 : Int32)), (.int (2 : Int32))])) _
    refine XS.icmpYes X2.here hx rfl (pc0 := 51) (pc' := 63) rfl (hb hby d2_51) rfl (XT.ii_le_t (by decide)) (by decide) (by decide) ?_
    show Steps p.tables e below (T2.setTop (mkF m 63 #[.val (.int (2 : Int32)), .val (.int pa), .val (.int pb), .val (.int pc), .val (.int pd), .val (.int pe), .val (.int m1)] [])) _
    refine XS.iloadN X2.here hx rfl (hb hby d2_63) rfl ?_
    show Steps p.tables e below (T2.setTop (mkF m 64 #[.val (.int (2 : Int32)), .val (.int pa), .val (.int pb), .val (.int pc), .val (.int pd), .val (.int pe), .val (.int m1)] [(.int pa)])) _
    refine XS.iload X2.here hx rfl (hb hby d2_64) rfl ?_
    show Steps p.tables e below (T2.setTop (mkF m 66 #[.val (.int (2 : Int32)), .val (.int pa), .val (.int pb), .val (.int pc), .val (.int pd), .val (.int pe), .val (.int m1)] [(.int m1), (.int pa)])) _
    exact k)
  by_cases q66 : pa = m1
  · skip
    have r66 := congrArg Int32.toInt q66
    have c6 : ∀ t, Steps p.tables e below (T2.setTop (mkF m 70 #[.val (.int (2 : Int32)), .val (.int pa), .val (.int pb), .val (.int pc), .val (.int pd), .val (.int pe), .val (.int m1)] [(.int (0 : Int32))])) t → Steps p.tables e below (s₁.setTop (entryFrame m #[(.int (2 : Int32)), (.int pa), (.int pb), (.int pc), (.int pd), (.int pe)] 7)) t := fun t k => c5 t (by
      show Steps p.tables e below (T2.setTop (mkF m 66 #[.val (.int (2 : Int32)), .val (.int pa), .val (.int pb), .val (.int pc), .val (.int pd), .val (.int pe), .val (.int m1)] [(.int m1), (.int pa)])) _
      refine XS.icmpNo X2.here hx rfl (hb hby d2_66) rfl (XT.ii_ne_f q66) ?_
      show Steps p.tables e below (T2.setTop (mkF m 69 #[.val (.int (2 : Int32)), .val (.int pa), .val (.int pb), .val (.int pc), .val (.int pd), .val (.int pe), .val (.int m1)] [])) _
      refine XS.iconst X2.here hx rfl (hb hby d2_69) ?_
      show Steps p.tables e below (T2.setTop (mkF m 70 #[.val (.int (2 : Int32)), .val (.int pa), .val (.int pb), .val (.int pc), .val (.int pd), .val (.int pe), .val (.int m1)] [(.int (0 : Int32))])) _
      exact k)
    obtain ⟨fs, hr, hrun, hended, hW, hsame⟩ := X2.leave (v := (some (.int (0 : Int32)))) (fun h => by rw [Bd.returns] at h; cases h)
    refine ⟨_, _, pre0 _ (c6 _ (retI X2 hx Bd.returns (hb hby d2_70) hr)), hrun, hended, _, _, rfl, ?_, ⟨_, rfl⟩, hW, hsame.mono (by decide) (by decide)⟩
    show Q_2_2 Z pa pb pc pd pe h0 n0 _ T2.heap _
    rw [e2]
    exact ⟨⟨0, by decide, rfl, (fun j hj => by
      match j, hj with
      | 0, _ => show pa.toInt ≤ pa.toInt; omega
      | 1, _ => show pb.toInt ≤ pa.toInt; omega), (fun j hj => absurd hj (Nat.not_lt_zero j)), Or.inl (by decide)⟩, M2, rfl⟩
  · skip
    have r66 := ne_k q66
    have c7 : ∀ t, Steps p.tables e below (T2.setTop (mkF m 79 #[.val (.int (2 : Int32)), .val (.int pa), .val (.int pb), .val (.int pc), .val (.int pd), .val (.int pe), .val (.int m1)] [(.int m1), (.int pb)])) t → Steps p.tables e below (s₁.setTop (entryFrame m #[(.int (2 : Int32)), (.int pa), (.int pb), (.int pc), (.int pd), (.int pe)] 7)) t := fun t k => c5 t (by
      show Steps p.tables e below (T2.setTop (mkF m 66 #[.val (.int (2 : Int32)), .val (.int pa), .val (.int pb), .val (.int pc), .val (.int pd), .val (.int pe), .val (.int m1)] [(.int m1), (.int pa)])) _
      refine XS.icmpYes X2.here hx rfl (pc0 := 66) (pc' := 71) rfl (hb hby d2_66) rfl (XT.ii_ne_t q66) (by decide) (by decide) ?_
      show Steps p.tables e below (T2.setTop (mkF m 71 #[.val (.int (2 : Int32)), .val (.int pa), .val (.int pb), .val (.int pc), .val (.int pd), .val (.int pe), .val (.int m1)] [])) _
      refine XS.iloadN X2.here hx rfl (hb hby d2_71) rfl ?_
      show Steps p.tables e below (T2.setTop (mkF m 72 #[.val (.int (2 : Int32)), .val (.int pa), .val (.int pb), .val (.int pc), .val (.int pd), .val (.int pe), .val (.int m1)] [(.int (2 : Int32))])) _
      refine XS.iconst X2.here hx rfl (hb hby d2_72) ?_
      show Steps p.tables e below (T2.setTop (mkF m 73 #[.val (.int (2 : Int32)), .val (.int pa), .val (.int pb), .val (.int pc), .val (.int pd), .val (.int pe), .val (.int m1)] [(.int (1 : Int32)), (.int (2 : Int32))])) _
      refine XS.icmpNo X2.here hx rfl (hb hby d2_73) rfl (XT.ii_le_f (by decide)) ?_
      show Steps p.tables e below (T2.setTop (mkF m 76 #[.val (.int (2 : Int32)), .val (.int pa), .val (.int pb), .val (.int pc), .val (.int pd), .val (.int pe), .val (.int m1)] [])) _
      refine XS.iloadN X2.here hx rfl (hb hby d2_76) rfl ?_
      show Steps p.tables e below (T2.setTop (mkF m 77 #[.val (.int (2 : Int32)), .val (.int pa), .val (.int pb), .val (.int pc), .val (.int pd), .val (.int pe), .val (.int m1)] [(.int pb)])) _
      refine XS.iload X2.here hx rfl (hb hby d2_77) rfl ?_
      show Steps p.tables e below (T2.setTop (mkF m 79 #[.val (.int (2 : Int32)), .val (.int pa), .val (.int pb), .val (.int pc), .val (.int pd), .val (.int pe), .val (.int m1)] [(.int m1), (.int pb)])) _
      exact k)
    by_cases q79 : pb = m1
    · skip
      have r79 := congrArg Int32.toInt q79
      have c8 : ∀ t, Steps p.tables e below (T2.setTop (mkF m 83 #[.val (.int (2 : Int32)), .val (.int pa), .val (.int pb), .val (.int pc), .val (.int pd), .val (.int pe), .val (.int m1)] [(.int (1 : Int32))])) t → Steps p.tables e below (s₁.setTop (entryFrame m #[(.int (2 : Int32)), (.int pa), (.int pb), (.int pc), (.int pd), (.int pe)] 7)) t := fun t k => c7 t (by
        show Steps p.tables e below (T2.setTop (mkF m 79 #[.val (.int (2 : Int32)), .val (.int pa), .val (.int pb), .val (.int pc), .val (.int pd), .val (.int pe), .val (.int m1)] [(.int m1), (.int pb)])) _
        refine XS.icmpNo X2.here hx rfl (hb hby d2_79) rfl (XT.ii_ne_f q79) ?_
        show Steps p.tables e below (T2.setTop (mkF m 82 #[.val (.int (2 : Int32)), .val (.int pa), .val (.int pb), .val (.int pc), .val (.int pd), .val (.int pe), .val (.int m1)] [])) _
        refine XS.iconst X2.here hx rfl (hb hby d2_82) ?_
        show Steps p.tables e below (T2.setTop (mkF m 83 #[.val (.int (2 : Int32)), .val (.int pa), .val (.int pb), .val (.int pc), .val (.int pd), .val (.int pe), .val (.int m1)] [(.int (1 : Int32))])) _
        exact k)
      obtain ⟨fs, hr, hrun, hended, hW, hsame⟩ := X2.leave (v := (some (.int (1 : Int32)))) (fun h => by rw [Bd.returns] at h; cases h)
      refine ⟨_, _, pre0 _ (c8 _ (retI X2 hx Bd.returns (hb hby d2_83) hr)), hrun, hended, _, _, rfl, ?_, ⟨_, rfl⟩, hW, hsame.mono (by decide) (by decide)⟩
      show Q_2_2 Z pa pb pc pd pe h0 n0 _ T2.heap _
      rw [e2]
      exact ⟨⟨1, by decide, rfl, (fun j hj => by
        match j, hj with
        | 0, _ => show pa.toInt ≤ pb.toInt; omega
        | 1, _ => show pb.toInt ≤ pb.toInt; omega), (fun j hj => by
        match j, hj with
        | 0, _ => show pa.toInt < pb.toInt; omega), Or.inl (by decide)⟩, M2, rfl⟩
    · skip
      have r79 := ne_k q79
      have c9 : ∀ t, Steps p.tables e below (T2.setTop (mkF m 112 #[.val (.int (2 : Int32)), .val (.int pa), .val (.int pb), .val (.int pc), .val (.int pd), .val (.int pe), .val (.int m1)] [(.int (4 : Int32))])) t → Steps p.tables e below (s₁.setTop (entryFrame m #[(.int (2 : Int32)), (.int pa), (.int pb), (.int pc), (.int pd), (.int pe)] 7)) t := fun t k => c7 t (by
        show Steps p.tables e below (T2.setTop (mkF m 79 #[.val (.int (2 : Int32)), .val (.int pa), .val (.int pb), .val (.int pc), .val (.int pd), .val (.int pe), .val (.int m1)] [(.int m1), (.int pb)])) _
        refine XS.icmpYes X2.here hx rfl (pc0 := 79) (pc' := 84) rfl (hb hby d2_79) rfl (XT.ii_ne_t q79) (by decide) (by decide) ?_
        show Steps p.tables e below (T2.setTop (mkF m 84 #[.val (.int (2 : Int32)), .val (.int pa), .val (.int pb), .val (.int pc), .val (.int pd), .val (.int pe), .val (.int m1)] [])) _
        refine XS.iloadN X2.here hx rfl (hb hby d2_84) rfl ?_
        show Steps p.tables e below (T2.setTop (mkF m 85 #[.val (.int (2 : Int32)), .val (.int pa), .val (.int pb), .val (.int pc), .val (.int pd), .val (.int pe), .val (.int m1)] [(.int (2 : Int32))])) _
        refine XS.iconst X2.here hx rfl (hb hby d2_85) ?_
        show Steps p.tables e below (T2.setTop (mkF m 86 #[.val (.int (2 : Int32)), .val (.int pa), .val (.int pb), .val (.int pc), .val (.int pd), .val (.int pe), .val (.int m1)] [(.int (2 : Int32)), (.int (2 : Int32))])) _
        refine XS.icmpYes X2.here hx rfl (pc0 := 86) (pc' := 97) rfl (hb hby d2_86) rfl (XT.ii_le_t (by decide)) (by decide) (by decide) ?_
        show Steps p.tables e below (T2.setTop (mkF m 97 #[.val (.int (2 : Int32)), .val (.int pa), .val (.int pb), .val (.int pc), .val (.int pd), .val (.int pe), .val (.int m1)] [])) _
        refine XS.iloadN X2.here hx rfl (hb hby d2_97) rfl ?_
        show Steps p.tables e below (T2.setTop (mkF m 98 #[.val (.int (2 : Int32)), .val (.int pa), .val (.int pb), .val (.int pc), .val (.int pd), .val (.int pe), .val (.int m1)] [(.int (2 : Int32))])) _
        refine XS.iconst X2.here hx rfl (hb hby d2_98) ?_
        show Steps p.tables e below (T2.setTop (mkF m 99 #[.val (.int (2 : Int32)), .val (.int pa), .val (.int pb), .val (.int pc), .val (.int pd), .val (.int pe), .val (.int m1)] [(.int (3 : Int32)), (.int (2 : Int32))])) _
        refine XS.icmpYes X2.here hx rfl (pc0 := 99) (pc' := 111) rfl (hb hby d2_99) rfl (XT.ii_le_t (by decide)) (by decide) (by decide) ?_
        show Steps p.tables e below (T2.setTop (mkF m 111 #[.val (.int (2 : Int32)), .val (.int pa), .val (.int pb), .val (.int pc), .val (.int pd), .val (.int pe), .val (.int m1)] [])) _
        refine XS.iconst X2.here hx rfl (hb hby d2_111) ?_
        show Steps p.tables e below (T2.setTop (mkF m 112 #[.val (.int (2 : Int32)), .val (.int pa), .val (.int pb), .val (.int pc), .val (.int pd), .val (.int pe), .val (.int m1)] [(.int (4 : Int32))])) _
        exact k)
      obtain ⟨fs, hr, hrun, hended, hW, hsame⟩ := X2.leave (v := (some (.int (4 : Int32)))) (fun h => by rw [Bd.returns] at h; cases h)
      refine ⟨_, _, pre0 _ (c9 _ (retI X2 hx Bd.returns (hb hby d2_112) hr)), hrun, hended, _, _, rfl, ?_, ⟨_, rfl⟩, hW, hsame.mono (by decide) (by decide)⟩
      show Q_2_2 Z pa pb pc pd pe h0 n0 _ T2.heap _
      rw [e2]
      exfalso; omega
theorem d2_27 : decode method_3_code 27 = .ok (.iload 6, 2) := by decide +kernel
theorem d2_29 : decode method_3_code 29 = .ok (.iload_n 3, 1) := by decide +kernel
theorem d2_30 : decode method_3_code 30 = .ok (.invokestatic 19, 3) := by decide +kernel
theorem d2_33 : decode method_3_code 33 = .ok (.istore 6, 2) := by decide +kernel
theorem d2_89 : decode method_3_code 89 = .ok (.iload_n 3, 1) := by decide +kernel
theorem d2_90 : decode method_3_code 90 = .ok (.iload 6, 2) := by decide +kernel
theorem d2_92 : decode method_3_code 92 = .ok (.if_icmp .ne 5, 3) := by decide +kernel
theorem d2_95 : decode method_3_code 95 = .ok (.iconst 2, 1) := by decide +kernel
theorem d2_96 : decode method_3_code 96 = .ok (.ireturn, 1) := by decide +kernel
theorem ef_2_3 (m : MethodId) (pa : Int32) (pb : Int32) (pc : Int32) (pd : Int32) (pe : Int32) : entryFrame m #[(.int (3 : Int32)), (.int pa), (.int pb), (.int pc), (.int pd), (.int pe)] 7 = (mkF m 0 #[.val (.int (3 : Int32)), .val (.int pa), .val (.int pb), .val (.int pc), .val (.int pd), .val (.int pe), .unset] []) := by first | (simp [entryFrame, mkF, argsToLocals, Value.category]; done) | rfl
def Q_2_3 (Z : State) (pa : Int32) (pb : Int32) (pc : Int32) (pd : Int32) (pe : Int32) (h0 : Heap) (n0 : Nat) (v : Option Value) (h : Heap) (L : List Loc) : Prop := (∃ i : Nat, i < 5 ∧ v = some (.int (Int32.ofNat i)) ∧ Best (five pa pb pc pd pe) 3 i) ∧ Fr n0 L ∧ h = h0
set_option maxRecDepth 65536 in
set_option maxHeartbeats 2000000 in
theorem rm_2_3 (l : Launch) (Z : State) (a0 : Array Value) (hw : ∀ d ∈ tables_1, d.before a0 Z = true) (ws : List Jvm.Cond) (pa : Int32) (pb : Int32) (pc : Int32) (pd : Int32) (pe : Int32) (h0 : Heap) (n0 : Nat) (Z0 : n0 ≤ h0.size)  :
    MetFree l (⟨"com/example/streamgrove/streamgrove/learners/ClassScoresHighestPinLaw", "expected", "(IIIIII)I"⟩ : MethodName) (head1 (Jvm.Cond.code (⟨"com/example/streamgrove/streamgrove/learners/ClassScoresHighestPinLaw", "expected", "(IIIIII)I"⟩ : MethodName) method_3_code 7 (some .int) :: ws) ({ frames := 1, cells := 0, slots := 0, locals := 16 } : Room)) (fun aa UU => aa = #[(.int (3 : Int32)), (.int pa), (.int pb), (.int pc), (.int pd), (.int pe)] ∧ Z.Warmed39 UU.vm ∧ UU.heap = h0) (fun _ _ _ _ _ => True) (fun _ UU oo UU' => ∃ v L, oo = .returned v ∧ Q_2_3 Z pa pb pc pd pe h0 n0 v UU'.heap L ∧ FrameEnd UU oo UU' L ({ frames := 1, cells := 0, slots := 0, locals := 16 } : Room).cells ({ frames := 1, cells := 0, slots := 0, locals := 16 } : Room).slots) := by
  refine MetFree.of_bodySF (plainFor_of_name pn_com_example_streamgrove_streamgrove_learners_ClassScoresHighestPinLaw) hisR ?_
  intro p e s m args below meth c s₁ Bd hml0 hP hK
  obtain ⟨rfl, hZ, hh⟩ := hP
  have hx := Bd.exec
  have hby := Bd.bytes
  have hml : c.maxLocals = 7 := hml0
  have hown : s.vm.findClass "com/example/streamgrove/streamgrove/learners/ClassScoresHighestPinLaw" = some m.cls := findClass_of_methodNamed Bd.named
  have hnaM := (name_of_methodNamed Bd.named Bd.method).1
  have X0 : Stand p l e ({ frames := 1, cells := 0, slots := 0, locals := 16 } : Room) s m #[(.int (3 : Int32)), (.int pa), (.int pb), (.int pc), (.int pd), (.int pe)] below meth c s₁ [] 0 0 := Stand.of_body Bd
  have e0 : s₁.heap = h0 := by rw [← hh, Bd.state]; rfl
  have N0 := Fr.nil n0
  have pre0 : ∀ t, Steps p.tables e below (s₁.setTop (entryFrame m #[(.int (3 : Int32)), (.int pa), (.int pb), (.int pc), (.int pd), (.int pe)] 7)) t → Steps p.tables e below (s₁.setTop (entryFrame m #[(.int (3 : Int32)), (.int pa), (.int pb), (.int pc), (.int pd), (.int pe)] 7)) t := fun t k => k
  have c0 : ∀ t, Steps p.tables e below (s₁.setTop (mkF m 0 #[.val (.int (3 : Int32)), .val (.int pa), .val (.int pb), .val (.int pc), .val (.int pd), .val (.int pe), .unset] [])) t → Steps p.tables e below (s₁.setTop (entryFrame m #[(.int (3 : Int32)), (.int pa), (.int pb), (.int pc), (.int pd), (.int pe)] 7)) t := fun t k => castTop (ef_2_3 m pa pb pc pd pe) k
  have c1 : ∀ t, Steps p.tables e below (s₁.setTop (mkF m 17 #[.val (.int (3 : Int32)), .val (.int pa), .val (.int pb), .val (.int pc), .val (.int pd), .val (.int pe), .val (.int pa)] [(.int pb), (.int pa)])) t → Steps p.tables e below (s₁.setTop (entryFrame m #[(.int (3 : Int32)), (.int pa), (.int pb), (.int pc), (.int pd), (.int pe)] 7)) t := fun t k => c0 t (by
    show Steps p.tables e below (s₁.setTop (mkF m 0 #[.val (.int (3 : Int32)), .val (.int pa), .val (.int pb), .val (.int pc), .val (.int pd), .val (.int pe), .unset] [])) _
    refine XS.iloadN X0.here hx rfl (hb hby d2_0) rfl ?_
    show Steps p.tables e below (s₁.setTop (mkF m 1 #[.val (.int (3 : Int32)), .val (.int pa), .val (.int pb), .val (.int pc), .val (.int pd), .val (.int pe), .unset] [(.int (3 : Int32))])) _
    refine XS.ifYes X0.here hx rfl (pc0 := 1) (pc' := 6) rfl (hb hby d2_1) rfl (XT.i0_ne_t (by decide)) (by decide) (by decide) ?_
    show Steps p.tables e below (s₁.setTop (mkF m 6 #[.val (.int (3 : Int32)), .val (.int pa), .val (.int pb), .val (.int pc), .val (.int pd), .val (.int pe), .unset] [])) _
    refine XS.iloadN X0.here hx rfl (hb hby d2_6) rfl ?_
    show Steps p.tables e below (s₁.setTop (mkF m 7 #[.val (.int (3 : Int32)), .val (.int pa), .val (.int pb), .val (.int pc), .val (.int pd), .val (.int pe), .unset] [(.int pa)])) _
    refine XS.istore X0.here hx rfl (hb hby d2_7) rfl (l' := #[.val (.int (3 : Int32)), .val (.int pa), .val (.int pb), .val (.int pc), .val (.int pd), .val (.int pe), .val (.int pa)]) rfl ?_
    show Steps p.tables e below (s₁.setTop (mkF m 9 #[.val (.int (3 : Int32)), .val (.int pa), .val (.int pb), .val (.int pc), .val (.int pd), .val (.int pe), .val (.int pa)] [])) _
    refine XS.iloadN X0.here hx rfl (hb hby d2_9) rfl ?_
    show Steps p.tables e below (s₁.setTop (mkF m 10 #[.val (.int (3 : Int32)), .val (.int pa), .val (.int pb), .val (.int pc), .val (.int pd), .val (.int pe), .val (.int pa)] [(.int (3 : Int32))])) _
    refine XS.iconst X0.here hx rfl (hb hby d2_10) ?_
    show Steps p.tables e below (s₁.setTop (mkF m 11 #[.val (.int (3 : Int32)), .val (.int pa), .val (.int pb), .val (.int pc), .val (.int pd), .val (.int pe), .val (.int pa)] [(.int (1 : Int32)), (.int (3 : Int32))])) _
    refine XS.icmpNo X0.here hx rfl (hb hby d2_11) rfl (XT.ii_le_f (by decide)) ?_
    show Steps p.tables e below (s₁.setTop (mkF m 14 #[.val (.int (3 : Int32)), .val (.int pa), .val (.int pb), .val (.int pc), .val (.int pd), .val (.int pe), .val (.int pa)] [])) _
    refine XS.iload X0.here hx rfl (hb hby d2_14) rfl ?_
    show Steps p.tables e below (s₁.setTop (mkF m 16 #[.val (.int (3 : Int32)), .val (.int pa), .val (.int pb), .val (.int pc), .val (.int pd), .val (.int pe), .val (.int pa)] [(.int pa)])) _
    refine XS.iloadN X0.here hx rfl (hb hby d2_16) rfl ?_
    show Steps p.tables e below (s₁.setTop (mkF m 17 #[.val (.int (3 : Int32)), .val (.int pa), .val (.int pb), .val (.int pc), .val (.int pd), .val (.int pe), .val (.int pa)] [(.int pb), (.int pa)])) _
    exact k)
  obtain ⟨_, _, ⟨T2, L2, k2', n2⟩, -, X2, ⟨Lc2, hQ2, l2, y2, z2⟩, st2⟩ := Jvm.LawKit.callS X0 hx (y := (⟨"java/lang/Math", "max", "(II)I"⟩ : MethodName)) hown (mvT hZ (hw _ (List.mem_of_getElem? (i := 9) rfl))) (mvT hZ (hw _ (List.mem_of_getElem? (i := 10) rfl))) (mvT hZ (hw _ (List.mem_of_getElem? (i := 11) rfl))) (mvT hZ (hw _ (List.mem_of_getElem? (i := 12) rfl))) (by decide) (backOf (W := 0) (rm_3 l Z a0 hw [] pa pb h0 n0 Z0) hZ (hw _ (List.mem_of_getElem? (i := 12) rfl)) (hw _ (List.mem_of_getElem? (i := 11) rfl)) (by decide) (by decide)) (g := (mkF m 17 #[.val (.int (3 : Int32)), .val (.int pa), .val (.int pb), .val (.int pc), .val (.int pd), .val (.int pe), .val (.int pa)] [(.int pb), (.int pa)])) rfl (by rw [hml]; rfl) (argsL := [(.int pa), (.int pb)]) (rest := []) (lenOf pd__II_I rfl) rfl (by show 2 * 0 + _ ≤ _; exact Nat.le_of_eq rfl) (hb hby d2_17) (fun _ _ => ⟨rfl, e0, (by decide : 0 + 0 ≤ _), (by decide : 0 + 0 ≤ _)⟩)
  dsimp only [Pt.U, Pt.locs, Pt.cells, Pt.slots] at X2 l2 y2 z2 st2 hQ2
  subst l2 y2 z2
  obtain ⟨rfl, N2, e2⟩ := hQ2
  have M2 := Fr.app N0 N2
  have c3 : ∀ t, Steps p.tables e below (T2.setTop (mkF m 20 #[.val (.int (3 : Int32)), .val (.int pa), .val (.int pb), .val (.int pc), .val (.int pd), .val (.int pe), .val (.int pa)] [(.int (if pa < pb then pb else pa))])) t → Steps p.tables e below (s₁.setTop (entryFrame m #[(.int (3 : Int32)), (.int pa), (.int pb), (.int pc), (.int pd), (.int pe)] 7)) t := fun t k => c1 t (st2 _ k)
  obtain ⟨m1, hm1⟩ : ∃ v : Int32, v = (if pa < pb then pb else pa) := ⟨_, rfl⟩
  have c4 : ∀ t, Steps p.tables e below (T2.setTop (mkF m 22 #[.val (.int (3 : Int32)), .val (.int pa), .val (.int pb), .val (.int pc), .val (.int pd), .val (.int pe), .val (.int m1)] [])) t → Steps p.tables e below (s₁.setTop (entryFrame m #[(.int (3 : Int32)), (.int pa), (.int pb), (.int pc), (.int pd), (.int pe)] 7)) t := fun t k => c3 t (by
    rw [hm1] at k
    show Steps p.tables e below (T2.setTop (mkF m 20 #[.val (.int (3 : Int32)), .val (.int pa), .val (.int pb), .val (.int pc), .val (.int pd), .val (.int pe), .val (.int pa)] [(.int (if pa < pb then pb else pa))])) _
    refine XS.istore X2.here hx rfl (hb hby d2_20) rfl (l' := #[.val (.int (3 : Int32)), .val (.int pa), .val (.int pb), .val (.int pc), .val (.int pd), .val (.int pe), .val (.int (if pa < pb then pb else pa))]) rfl ?_
    show Steps p.tables e below (T2.setTop (mkF m 22 #[.val (.int (3 : Int32)), .val (.int pa), .val (.int pb), .val (.int pc), .val (.int pd), .val (.int pe), .val (.int (if pa < pb then pb else pa))] [])) _
    exact k)
  have km1 := max_k hm1
  have c5 : ∀ t, Steps p.tables e below (T2.setTop (mkF m 30 #[.val (.int (3 : Int32)), .val (.int pa), .val (.int pb), .val (.int pc), .val (.int pd), .val (.int pe), .val (.int m1)] [(.int pc), (.int m1)])) t → Steps p.tables e below (s₁.setTop (entryFrame m #[(.int (3 : Int32)), (.int pa), (.int pb), (.int pc), (.int pd), (.int pe)] 7)) t := fun t k => c4 t (by
    show Steps p.tables e below (T2.setTop (mkF m 22 #[.val (.int (3 : Int32)), .val (.int pa), .val (.int pb), .val (.int pc), .val (.int pd), .val (.int pe), .val (.int m1)] [])) _
    refine XS.iloadN X2.here hx rfl (hb hby d2_22) rfl ?_
    show Steps p.tables e below (T2.setTop (mkF m 23 #[.val (.int (3 : Int32)), .val (.int pa), .val (.int pb), .val (.int pc), .val (.int pd), .val (.int pe), .val (.int m1)] [(.int (3 : Int32))])) _
    refine XS.iconst X2.here hx rfl (hb hby d2_23) ?_
    show Steps p.tables e below (T2.setTop (mkF m 24 #[.val (.int (3 : Int32)), .val (.int pa), .val (.int pb), .val (.int pc), .val (.int pd), .val (.int pe), .val (.int m1)] [(.int (2 : Int32)), (.int (3 : Int32))])) _
    refine XS.icmpNo X2.here hx rfl (hb hby d2_24) rfl (XT.ii_le_f (by decide)) ?_
    show Steps p.tables e below (T2.setTop (mkF m 27 #[.val (.int (3 : Int32)), .val (.int pa), .val (.int pb), .val (.int pc), .val (.int pd), .val (.int pe), .val (.int m1)] [])) _
    refine XS.iload X2.here hx rfl (hb hby d2_27) rfl ?_
    show Steps p.tables e below (T2.setTop (mkF m 29 #[.val (.int (3 : Int32)), .val (.int pa), .val (.int pb), .val (.int pc), .val (.int pd), .val (.int pe), .val (.int m1)] [(.int m1)])) _
    refine XS.iloadN X2.here hx rfl (hb hby d2_29) rfl ?_
    show Steps p.tables e below (T2.setTop (mkF m 30 #[.val (.int (3 : Int32)), .val (.int pa), .val (.int pb), .val (.int pc), .val (.int pd), .val (.int pe), .val (.int m1)] [(.int pc), (.int m1)])) _
    exact k)
  obtain ⟨_, _, ⟨T6, L6, k6', n6⟩, -, X6, ⟨Lc6, hQ6, l6, y6, z6⟩, st6⟩ := Jvm.LawKit.callS X2 hx (y := (⟨"java/lang/Math", "max", "(II)I"⟩ : MethodName)) hown (mvT hZ (hw _ (List.mem_of_getElem? (i := 9) rfl))) (mvT hZ (hw _ (List.mem_of_getElem? (i := 10) rfl))) (mvT hZ (hw _ (List.mem_of_getElem? (i := 11) rfl))) (mvT hZ (hw _ (List.mem_of_getElem? (i := 12) rfl))) (by decide) (backOf (W := 0) (rm_3 l Z a0 hw [] m1 pc h0 n0 Z0) hZ (hw _ (List.mem_of_getElem? (i := 12) rfl)) (hw _ (List.mem_of_getElem? (i := 11) rfl)) (by decide) (by decide)) (g := (mkF m 30 #[.val (.int (3 : Int32)), .val (.int pa), .val (.int pb), .val (.int pc), .val (.int pd), .val (.int pe), .val (.int m1)] [(.int pc), (.int m1)])) rfl (by rw [hml]; rfl) (argsL := [(.int m1), (.int pc)]) (rest := []) (lenOf pd__II_I rfl) rfl (by show 2 * 0 + _ ≤ _; exact Nat.le_of_eq rfl) (hb hby d2_30) (fun _ _ => ⟨rfl, e2, (by decide : 0 + 0 ≤ _), (by decide : 0 + 0 ≤ _)⟩)
  dsimp only [Pt.U, Pt.locs, Pt.cells, Pt.slots] at X6 l6 y6 z6 st6 hQ6
  subst l6 y6 z6
  obtain ⟨rfl, N6, e6⟩ := hQ6
  have M6 := Fr.app M2 N6
  have c7 : ∀ t, Steps p.tables e below (T6.setTop (mkF m 33 #[.val (.int (3 : Int32)), .val (.int pa), .val (.int pb), .val (.int pc), .val (.int pd), .val (.int pe), .val (.int m1)] [(.int (if m1 < pc then pc else m1))])) t → Steps p.tables e below (s₁.setTop (entryFrame m #[(.int (3 : Int32)), (.int pa), (.int pb), (.int pc), (.int pd), (.int pe)] 7)) t := fun t k => c5 t (st6 _ k)
  obtain ⟨m2, hm2⟩ : ∃ v : Int32, v = (if m1 < pc then pc else m1) := ⟨_, rfl⟩
  have c8 : ∀ t, Steps p.tables e below (T6.setTop (mkF m 35 #[.val (.int (3 : Int32)), .val (.int pa), .val (.int pb), .val (.int pc), .val (.int pd), .val (.int pe), .val (.int m2)] [])) t → Steps p.tables e below (s₁.setTop (entryFrame m #[(.int (3 : Int32)), (.int pa), (.int pb), (.int pc), (.int pd), (.int pe)] 7)) t := fun t k => c7 t (by
    rw [hm2] at k
    show Steps p.tables e below (T6.setTop (mkF m 33 #[.val (.int (3 : Int32)), .val (.int pa), .val (.int pb), .val (.int pc), .val (.int pd), .val (.int pe), .val (.int m1)] [(.int (if m1 < pc then pc else m1))])) _
    refine XS.istore X6.here hx rfl (hb hby d2_33) rfl (l' := #[.val (.int (3 : Int32)), .val (.int pa), .val (.int pb), .val (.int pc), .val (.int pd), .val (.int pe), .val (.int (if m1 < pc then pc else m1))]) rfl ?_
    show Steps p.tables e below (T6.setTop (mkF m 35 #[.val (.int (3 : Int32)), .val (.int pa), .val (.int pb), .val (.int pc), .val (.int pd), .val (.int pe), .val (.int (if m1 < pc then pc else m1))] [])) _
    exact k)
  have km2 := max_k hm2
  have c9 : ∀ t, Steps p.tables e below (T6.setTop (mkF m 66 #[.val (.int (3 : Int32)), .val (.int pa), .val (.int pb), .val (.int pc), .val (.int pd), .val (.int pe), .val (.int m2)] [(.int m2), (.int pa)])) t → Steps p.tables e below (s₁.setTop (entryFrame m #[(.int (3 : Int32)), (.int pa), (.int pb), (.int pc), (.int pd), (.int pe)] 7)) t := fun t k => c8 t (by
    show Steps p.tables e below (T6.setTop (mkF m 35 #[.val (.int (3 : Int32)), .val (.int pa), .val (.int pb), .val (.int pc), .val (.int pd), .val (.int pe), .val (.int m2)] [])) _
    refine XS.iloadN X6.here hx rfl (hb hby d2_35) rfl ?_
    show Steps p.tables e below (T6.setTop (mkF m 36 #[.val (.int (3 : Int32)), .val (.int pa), .val (.int pb), .val (.int pc), .val (.int pd), .val (.int pe), .val (.int m2)] [(.int (3 : Int32))])) _
    refine XS.iconst X6.here hx rfl (hb hby d2_36) ?_
    show Steps p.tables e below (T6.setTop (mkF m 37 #[.val (.int (3 : Int32)), .val (.int pa), .val (.int pb), .val (.int pc), .val (.int pd), .val (.int pe), .val (.int m2)] [(.int (3 : Int32)), (.int (3 : Int32))])) _
    refine XS.icmpYes X6.here hx rfl (pc0 := 37) (pc' := 49) rfl (hb hby d2_37) rfl (XT.ii_le_t (by decide)) (by decide) (by decide) ?_
    show Steps p.tables e below (T6.setTop (mkF m 49 #[.val (.int (3 : Int32)), .val (.int pa), .val (.int pb), .val (.int pc), .val (.int pd), .val (.int pe), .val (.int m2)] [])) _
    refine XS.iloadN X6.here hx rfl (hb hby d2_49) rfl ?_
    show Steps p.tables e below (T6.setTop (mkF m 50 #[.val (.int (3 : Int32)), .val (.int pa), .val (.int pb), .val (.int pc), .val (.int pd), .val (.int pe), .val (.int m2)] [(.int (3 : Int32))])) _
    refine XS.iconst X6.here hx rfl (hb hby d2_50) ?_
    show Steps p.tables e below (T6.setTop (mkF m 51 #[.val (.int (3 : Int32)), .val (.int pa), .val (.int pb), .val (.int pc), .val (.int pd), .val (.int pe), .val (.int m2)] [(.int (4 : Int32)), (.int (3 : Int32))])) _
    refine XS.icmpYes X6.here hx rfl (pc0 := 51) (pc' := 63) rfl (hb hby d2_51) rfl (XT.ii_le_t (by decide)) (by decide) (by decide) ?_
    show Steps p.tables e below (T6.setTop (mkF m 63 #[.val (.int (3 : Int32)), .val (.int pa), .val (.int pb), .val (.int pc), .val (.int pd), .val (.int pe), .val (.int m2)] [])) _
    refine XS.iloadN X6.here hx rfl (hb hby d2_63) rfl ?_
    show Steps p.tables e below (T6.setTop (mkF m 64 #[.val (.int (3 : Int32)), .val (.int pa), .val (.int pb), .val (.int pc), .val (.int pd), .val (.int pe), .val (.int m2)] [(.int pa)])) _
    refine XS.iload X6.here hx rfl (hb hby d2_64) rfl ?_
    show Steps p.tables e below (T6.setTop (mkF m 66 #[.val (.int (3 : Int32)), .val (.int pa), .val (.int pb), .val (.int pc), .val (.int pd), .val (.int pe), .val (.int m2)] [(.int m2), (.int pa)])) _
    exact k)
  by_cases q66 : pa = m2
  · skip
    have r66 := congrArg Int32.toInt q66
    have c10 : ∀ t, Steps p.tables e below (T6.setTop (mkF m 70 #[.val (.int (3 : Int32)), .val (.int pa), .val (.int pb), .val (.int pc), .val (.int pd), .val (.int pe), .val (.int m2)] [(.int (0 : Int32))])) t → Steps p.tables e below (s₁.setTop (entryFrame m #[(.int (3 : Int32)), (.int pa), (.int pb), (.int pc), (.int pd), (.int pe)] 7)) t := fun t k => c9 t (by
      show Steps p.tables e below (T6.setTop (mkF m 66 #[.val (.int (3 : Int32)), .val (.int pa), .val (.int pb), .val (.int pc), .val (.int pd), .val (.int pe), .val (.int m2)] [(.int m2), (.int pa)])) _
      refine XS.icmpNo X6.here hx rfl (hb hby d2_66) rfl (XT.ii_ne_f q66) ?_
      show Steps p.tables e below (T6.setTop (mkF m 69 #[.val (.int (3 : Int32)), .val (.int pa), .val (.int pb), .val (.int pc), .val (.int pd), .val (.int pe), .val (.int m2)] [])) _
      refine XS.iconst X6.here hx rfl (hb hby d2_69) ?_
      show Steps p.tables e below (T6.setTop (mkF m 70 #[.val (.int (3 : Int32)), .val (.int pa), .val (.int pb), .val (.int pc), .val (.int pd), .val (.int pe), .val (.int m2)] [(.int (0 : Int32))])) _
      exact k)
    obtain ⟨fs, hr, hrun, hended, hW, hsame⟩ := X6.leave (v := (some (.int (0 : Int32)))) (fun h => by rw [Bd.returns] at h; cases h)
    refine ⟨_, _, pre0 _ (c10 _ (retI X6 hx Bd.returns (hb hby d2_70) hr)), hrun, hended, _, _, rfl, ?_, ⟨_, rfl⟩, hW, hsame.mono (by decide) (by decide)⟩
    show Q_2_3 Z pa pb pc pd pe h0 n0 _ T6.heap _
    rw [e6]
    exact ⟨⟨0, by decide, rfl, (fun j hj => by
      match j, hj with
      | 0, _ => show pa.toInt ≤ pa.toInt; omega
      | 1, _ => show pb.toInt ≤ pa.toInt; omega
      | 2, _ => show pc.toInt ≤ pa.toInt; omega), (fun j hj => absurd hj (Nat.not_lt_zero j)), Or.inl (by decide)⟩, M6, rfl⟩
  · skip
    have r66 := ne_k q66
    have c11 : ∀ t, Steps p.tables e below (T6.setTop (mkF m 79 #[.val (.int (3 : Int32)), .val (.int pa), .val (.int pb), .val (.int pc), .val (.int pd), .val (.int pe), .val (.int m2)] [(.int m2), (.int pb)])) t → Steps p.tables e below (s₁.setTop (entryFrame m #[(.int (3 : Int32)), (.int pa), (.int pb), (.int pc), (.int pd), (.int pe)] 7)) t := fun t k => c9 t (by
      show Steps p.tables e below (T6.setTop (mkF m 66 #[.val (.int (3 : Int32)), .val (.int pa), .val (.int pb), .val (.int pc), .val (.int pd), .val (.int pe), .val (.int m2)] [(.int m2), (.int pa)])) _
      refine XS.icmpYes X6.here hx rfl (pc0 := 66) (pc' := 71) rfl (hb hby d2_66) rfl (XT.ii_ne_t q66) (by decide) (by decide) ?_
      show Steps p.tables e below (T6.setTop (mkF m 71 #[.val (.int (3 : Int32)), .val (.int pa), .val (.int pb), .val (.int pc), .val (.int pd), .val (.int pe), .val (.int m2)] [])) _
      refine XS.iloadN X6.here hx rfl (hb hby d2_71) rfl ?_
      show Steps p.tables e below (T6.setTop (mkF m 72 #[.val (.int (3 : Int32)), .val (.int pa), .val (.int pb), .val (.int pc), .val (.int pd), .val (.int pe), .val (.int m2)] [(.int (3 : Int32))])) _
      refine XS.iconst X6.here hx rfl (hb hby d2_72) ?_
      show Steps p.tables e below (T6.setTop (mkF m 73 #[.val (.int (3 : Int32)), .val (.int pa), .val (.int pb), .val (.int pc), .val (.int pd), .val (.int pe), .val (.int m2)] [(.int (1 : Int32)), (.int (3 : Int32))])) _
      refine XS.icmpNo X6.here hx rfl (hb hby d2_73) rfl (XT.ii_le_f (by decide)) ?_
      show Steps p.tables e below (T6.setTop (mkF m 76 #[.val (.int (3 : Int32)), .val (.int pa), .val (.int pb), .val (.int pc), .val (.int pd), .val (.int pe), .val (.int m2)] [])) _
      refine XS.iloadN X6.here hx rfl (hb hby d2_76) rfl ?_
      show Steps p.tables e below (T6.setTop (mkF m 77 #[.val (.int (3 : Int32)), .val (.int pa), .val (.int pb), .val (.int pc), .val (.int pd), .val (.int pe), .val (.int m2)] [(.int pb)])) _
      refine XS.iload X6.here hx rfl (hb hby d2_77) rfl ?_
      show Steps p.tables e below (T6.setTop (mkF m 79 #[.val (.int (3 : Int32)), .val (.int pa), .val (.int pb), .val (.int pc), .val (.int pd), .val (.int pe), .val (.int m2)] [(.int m2), (.int pb)])) _
      exact k)
    by_cases q79 : pb = m2
    · skip
      have r79 := congrArg Int32.toInt q79
      have c12 : ∀ t, Steps p.tables e below (T6.setTop (mkF m 83 #[.val (.int (3 : Int32)), .val (.int pa), .val (.int pb), .val (.int pc), .val (.int pd), .val (.int pe), .val (.int m2)] [(.int (1 : Int32))])) t → Steps p.tables e below (s₁.setTop (entryFrame m #[(.int (3 : Int32)), (.int pa), (.int pb), (.int pc), (.int pd), (.int pe)] 7)) t := fun t k => c11 t (by
        show Steps p.tables e below (T6.setTop (mkF m 79 #[.val (.int (3 : Int32)), .val (.int pa), .val (.int pb), .val (.int pc), .val (.int pd), .val (.int pe), .val (.int m2)] [(.int m2), (.int pb)])) _
        refine XS.icmpNo X6.here hx rfl (hb hby d2_79) rfl (XT.ii_ne_f q79) ?_
        show Steps p.tables e below (T6.setTop (mkF m 82 #[.val (.int (3 : Int32)), .val (.int pa), .val (.int pb), .val (.int pc), .val (.int pd), .val (.int pe), .val (.int m2)] [])) _
        refine XS.iconst X6.here hx rfl (hb hby d2_82) ?_
        show Steps p.tables e below (T6.setTop (mkF m 83 #[.val (.int (3 : Int32)), .val (.int pa), .val (.int pb), .val (.int pc), .val (.int pd), .val (.int pe), .val (.int m2)] [(.int (1 : Int32))])) _
        exact k)
      obtain ⟨fs, hr, hrun, hended, hW, hsame⟩ := X6.leave (v := (some (.int (1 : Int32)))) (fun h => by rw [Bd.returns] at h; cases h)
      refine ⟨_, _, pre0 _ (c12 _ (retI X6 hx Bd.returns (hb hby d2_83) hr)), hrun, hended, _, _, rfl, ?_, ⟨_, rfl⟩, hW, hsame.mono (by decide) (by decide)⟩
      show Q_2_3 Z pa pb pc pd pe h0 n0 _ T6.heap _
      rw [e6]
      exact ⟨⟨1, by decide, rfl, (fun j hj => by
        match j, hj with
        | 0, _ => show pa.toInt ≤ pb.toInt; omega
        | 1, _ => show pb.toInt ≤ pb.toInt; omega
        | 2, _ => show pc.toInt ≤ pb.toInt; omega), (fun j hj => by
        match j, hj with
        | 0, _ => show pa.toInt < pb.toInt; omega), Or.inl (by decide)⟩, M6, rfl⟩
    · skip
      have r79 := ne_k q79
      have c13 : ∀ t, Steps p.tables e below (T6.setTop (mkF m 92 #[.val (.int (3 : Int32)), .val (.int pa), .val (.int pb), .val (.int pc), .val (.int pd), .val (.int pe), .val (.int m2)] [(.int m2), (.int pc)])) t → Steps p.tables e below (s₁.setTop (entryFrame m #[(.int (3 : Int32)), (.int pa), (.int pb), (.int pc), (.int pd), (.int pe)] 7)) t := fun t k => c11 t (by
        show Steps p.tables e below (T6.setTop (mkF m 79 #[.val (.int (3 : Int32)), .val (.int pa), .val (.int pb), .val (.int pc), .val (.int pd), .val (.int pe), .val (.int m2)] [(.int m2), (.int pb)])) _
        refine XS.icmpYes X6.here hx rfl (pc0 := 79) (pc' := 84) rfl (hb hby d2_79) rfl (XT.ii_ne_t q79) (by decide) (by decide) ?_
        show Steps p.tables e below (T6.setTop (mkF m 84 #[.val (.int (3 : Int32)), .val (.int pa), .val (.int pb), .val (.int pc), .val (.int pd), .val (.int pe), .val (.int m2)] [])) _
        refine XS.iloadN X6.here hx rfl (hb hby d2_84) rfl ?_
        show Steps p.tables e below (T6.setTop (mkF m 85 #[.val (.int (3 : Int32)), .val (.int pa), .val (.int pb), .val (.int pc), .val (.int pd), .val (.int pe), .val (.int m2)] [(.int (3 : Int32))])) _
        refine XS.iconst X6.here hx rfl (hb hby d2_85) ?_
        show Steps p.tables e below (T6.setTop (mkF m 86 #[.val (.int (3 : Int32)), .val (.int pa), .val (.int pb), .val (.int pc), .val (.int pd), .val (.int pe), .val (.int m2)] [(.int (2 : Int32)), (.int (3 : Int32))])) _
        refine XS.icmpNo X6.here hx rfl (hb hby d2_86) rfl (XT.ii_le_f (by decide)) ?_
        show Steps p.tables e below (T6.setTop (mkF m 89 #[.val (.int (3 : Int32)), .val (.int pa), .val (.int pb), .val (.int pc), .val (.int pd), .val (.int pe), .val (.int m2)] [])) _
        refine XS.iloadN X6.here hx rfl (hb hby d2_89) rfl ?_
        show Steps p.tables e below (T6.setTop (mkF m 90 #[.val (.int (3 : Int32)), .val (.int pa), .val (.int pb), .val (.int pc), .val (.int pd), .val (.int pe), .val (.int m2)] [(.int pc)])) _
        refine XS.iload X6.here hx rfl (hb hby d2_90) rfl ?_
        show Steps p.tables e below (T6.setTop (mkF m 92 #[.val (.int (3 : Int32)), .val (.int pa), .val (.int pb), .val (.int pc), .val (.int pd), .val (.int pe), .val (.int m2)] [(.int m2), (.int pc)])) _
        exact k)
      by_cases q92 : pc = m2
      · skip
        have r92 := congrArg Int32.toInt q92
        have c14 : ∀ t, Steps p.tables e below (T6.setTop (mkF m 96 #[.val (.int (3 : Int32)), .val (.int pa), .val (.int pb), .val (.int pc), .val (.int pd), .val (.int pe), .val (.int m2)] [(.int (2 : Int32))])) t → Steps p.tables e below (s₁.setTop (entryFrame m #[(.int (3 : Int32)), (.int pa), (.int pb), (.int pc), (.int pd), (.int pe)] 7)) t := fun t k => c13 t (by
          show Steps p.tables e below (T6.setTop (mkF m 92 #[.val (.int (3 : Int32)), .val (.int pa), .val (.int pb), .val (.int pc), .val (.int pd), .val (.int pe), .val (.int m2)] [(.int m2), (.int pc)])) _
          refine XS.icmpNo X6.here hx rfl (hb hby d2_92) rfl (XT.ii_ne_f q92) ?_
          show Steps p.tables e below (T6.setTop (mkF m 95 #[.val (.int (3 : Int32)), .val (.int pa), .val (.int pb), .val (.int pc), .val (.int pd), .val (.int pe), .val (.int m2)] [])) _
          refine XS.iconst X6.here hx rfl (hb hby d2_95) ?_
          show Steps p.tables e below (T6.setTop (mkF m 96 #[.val (.int (3 : Int32)), .val (.int pa), .val (.int pb), .val (.int pc), .val (.int pd), .val (.int pe), .val (.int m2)] [(.int (2 : Int32))])) _
          exact k)
        obtain ⟨fs, hr, hrun, hended, hW, hsame⟩ := X6.leave (v := (some (.int (2 : Int32)))) (fun h => by rw [Bd.returns] at h; cases h)
        refine ⟨_, _, pre0 _ (c14 _ (retI X6 hx Bd.returns (hb hby d2_96) hr)), hrun, hended, _, _, rfl, ?_, ⟨_, rfl⟩, hW, hsame.mono (by decide) (by decide)⟩
        show Q_2_3 Z pa pb pc pd pe h0 n0 _ T6.heap _
        rw [e6]
        exact ⟨⟨2, by decide, rfl, (fun j hj => by
          match j, hj with
          | 0, _ => show pa.toInt ≤ pc.toInt; omega
          | 1, _ => show pb.toInt ≤ pc.toInt; omega
          | 2, _ => show pc.toInt ≤ pc.toInt; omega), (fun j hj => by
          match j, hj with
          | 0, _ => show pa.toInt < pc.toInt; omega
          | 1, _ => show pb.toInt < pc.toInt; omega), Or.inl (by decide)⟩, M6, rfl⟩
      · skip
        have r92 := ne_k q92
        have c15 : ∀ t, Steps p.tables e below (T6.setTop (mkF m 112 #[.val (.int (3 : Int32)), .val (.int pa), .val (.int pb), .val (.int pc), .val (.int pd), .val (.int pe), .val (.int m2)] [(.int (4 : Int32))])) t → Steps p.tables e below (s₁.setTop (entryFrame m #[(.int (3 : Int32)), (.int pa), (.int pb), (.int pc), (.int pd), (.int pe)] 7)) t := fun t k => c13 t (by
          show Steps p.tables e below (T6.setTop (mkF m 92 #[.val (.int (3 : Int32)), .val (.int pa), .val (.int pb), .val (.int pc), .val (.int pd), .val (.int pe), .val (.int m2)] [(.int m2), (.int pc)])) _
          refine XS.icmpYes X6.here hx rfl (pc0 := 92) (pc' := 97) rfl (hb hby d2_92) rfl (XT.ii_ne_t q92) (by decide) (by decide) ?_
          show Steps p.tables e below (T6.setTop (mkF m 97 #[.val (.int (3 : Int32)), .val (.int pa), .val (.int pb), .val (.int pc), .val (.int pd), .val (.int pe), .val (.int m2)] [])) _
          refine XS.iloadN X6.here hx rfl (hb hby d2_97) rfl ?_
          show Steps p.tables e below (T6.setTop (mkF m 98 #[.val (.int (3 : Int32)), .val (.int pa), .val (.int pb), .val (.int pc), .val (.int pd), .val (.int pe), .val (.int m2)] [(.int (3 : Int32))])) _
          refine XS.iconst X6.here hx rfl (hb hby d2_98) ?_
          show Steps p.tables e below (T6.setTop (mkF m 99 #[.val (.int (3 : Int32)), .val (.int pa), .val (.int pb), .val (.int pc), .val (.int pd), .val (.int pe), .val (.int m2)] [(.int (3 : Int32)), (.int (3 : Int32))])) _
          refine XS.icmpYes X6.here hx rfl (pc0 := 99) (pc' := 111) rfl (hb hby d2_99) rfl (XT.ii_le_t (by decide)) (by decide) (by decide) ?_
          show Steps p.tables e below (T6.setTop (mkF m 111 #[.val (.int (3 : Int32)), .val (.int pa), .val (.int pb), .val (.int pc), .val (.int pd), .val (.int pe), .val (.int m2)] [])) _
          refine XS.iconst X6.here hx rfl (hb hby d2_111) ?_
          show Steps p.tables e below (T6.setTop (mkF m 112 #[.val (.int (3 : Int32)), .val (.int pa), .val (.int pb), .val (.int pc), .val (.int pd), .val (.int pe), .val (.int m2)] [(.int (4 : Int32))])) _
          exact k)
        obtain ⟨fs, hr, hrun, hended, hW, hsame⟩ := X6.leave (v := (some (.int (4 : Int32)))) (fun h => by rw [Bd.returns] at h; cases h)
        refine ⟨_, _, pre0 _ (c15 _ (retI X6 hx Bd.returns (hb hby d2_112) hr)), hrun, hended, _, _, rfl, ?_, ⟨_, rfl⟩, hW, hsame.mono (by decide) (by decide)⟩
        show Q_2_3 Z pa pb pc pd pe h0 n0 _ T6.heap _
        rw [e6]
        exfalso; omega
theorem d2_40 : decode method_3_code 40 = .ok (.iload 6, 2) := by decide +kernel
theorem d2_42 : decode method_3_code 42 = .ok (.iload 4, 2) := by decide +kernel
theorem d2_44 : decode method_3_code 44 = .ok (.invokestatic 19, 3) := by decide +kernel
theorem d2_47 : decode method_3_code 47 = .ok (.istore 6, 2) := by decide +kernel
theorem d2_102 : decode method_3_code 102 = .ok (.iload 4, 2) := by decide +kernel
theorem d2_104 : decode method_3_code 104 = .ok (.iload 6, 2) := by decide +kernel
theorem d2_106 : decode method_3_code 106 = .ok (.if_icmp .ne 5, 3) := by decide +kernel
theorem d2_109 : decode method_3_code 109 = .ok (.iconst 3, 1) := by decide +kernel
theorem d2_110 : decode method_3_code 110 = .ok (.ireturn, 1) := by decide +kernel
theorem ef_2_4 (m : MethodId) (pa : Int32) (pb : Int32) (pc : Int32) (pd : Int32) (pe : Int32) : entryFrame m #[(.int (4 : Int32)), (.int pa), (.int pb), (.int pc), (.int pd), (.int pe)] 7 = (mkF m 0 #[.val (.int (4 : Int32)), .val (.int pa), .val (.int pb), .val (.int pc), .val (.int pd), .val (.int pe), .unset] []) := by first | (simp [entryFrame, mkF, argsToLocals, Value.category]; done) | rfl
def Q_2_4 (Z : State) (pa : Int32) (pb : Int32) (pc : Int32) (pd : Int32) (pe : Int32) (h0 : Heap) (n0 : Nat) (v : Option Value) (h : Heap) (L : List Loc) : Prop := (∃ i : Nat, i < 5 ∧ v = some (.int (Int32.ofNat i)) ∧ Best (five pa pb pc pd pe) 4 i) ∧ Fr n0 L ∧ h = h0
set_option maxRecDepth 65536 in
set_option maxHeartbeats 2000000 in
theorem rm_2_4 (l : Launch) (Z : State) (a0 : Array Value) (hw : ∀ d ∈ tables_1, d.before a0 Z = true) (ws : List Jvm.Cond) (pa : Int32) (pb : Int32) (pc : Int32) (pd : Int32) (pe : Int32) (h0 : Heap) (n0 : Nat) (Z0 : n0 ≤ h0.size)  :
    MetFree l (⟨"com/example/streamgrove/streamgrove/learners/ClassScoresHighestPinLaw", "expected", "(IIIIII)I"⟩ : MethodName) (head1 (Jvm.Cond.code (⟨"com/example/streamgrove/streamgrove/learners/ClassScoresHighestPinLaw", "expected", "(IIIIII)I"⟩ : MethodName) method_3_code 7 (some .int) :: ws) ({ frames := 1, cells := 0, slots := 0, locals := 16 } : Room)) (fun aa UU => aa = #[(.int (4 : Int32)), (.int pa), (.int pb), (.int pc), (.int pd), (.int pe)] ∧ Z.Warmed39 UU.vm ∧ UU.heap = h0) (fun _ _ _ _ _ => True) (fun _ UU oo UU' => ∃ v L, oo = .returned v ∧ Q_2_4 Z pa pb pc pd pe h0 n0 v UU'.heap L ∧ FrameEnd UU oo UU' L ({ frames := 1, cells := 0, slots := 0, locals := 16 } : Room).cells ({ frames := 1, cells := 0, slots := 0, locals := 16 } : Room).slots) := by
  refine MetFree.of_bodySF (plainFor_of_name pn_com_example_streamgrove_streamgrove_learners_ClassScoresHighestPinLaw) hisR ?_
  intro p e s m args below meth c s₁ Bd hml0 hP hK
  obtain ⟨rfl, hZ, hh⟩ := hP
  have hx := Bd.exec
  have hby := Bd.bytes
  have hml : c.maxLocals = 7 := hml0
  have hown : s.vm.findClass "com/example/streamgrove/streamgrove/learners/ClassScoresHighestPinLaw" = some m.cls := findClass_of_methodNamed Bd.named
  have hnaM := (name_of_methodNamed Bd.named Bd.method).1
  have X0 : Stand p l e ({ frames := 1, cells := 0, slots := 0, locals := 16 } : Room) s m #[(.int (4 : Int32)), (.int pa), (.int pb), (.int pc), (.int pd), (.int pe)] below meth c s₁ [] 0 0 := Stand.of_body Bd
  have e0 : s₁.heap = h0 := by rw [← hh, Bd.state]; rfl
  have N0 := Fr.nil n0
  have pre0 : ∀ t, Steps p.tables e below (s₁.setTop (entryFrame m #[(.int (4 : Int32)), (.int pa), (.int pb), (.int pc), (.int pd), (.int pe)] 7)) t → Steps p.tables e below (s₁.setTop (entryFrame m #[(.int (4 : Int32)), (.int pa), (.int pb), (.int pc), (.int pd), (.int pe)] 7)) t := fun t k => k
  have c0 : ∀ t, Steps p.tables e below (s₁.setTop (mkF m 0 #[.val (.int (4 : Int32)), .val (.int pa), .val (.int pb), .val (.int pc), .val (.int pd), .val (.int pe), .unset] [])) t → Steps p.tables e below (s₁.setTop (entryFrame m #[(.int (4 : Int32)), (.int pa), (.int pb), (.int pc), (.int pd), (.int pe)] 7)) t := fun t k => castTop (ef_2_4 m pa pb pc pd pe) k
  have c1 : ∀ t, Steps p.tables e below (s₁.setTop (mkF m 17 #[.val (.int (4 : Int32)), .val (.int pa), .val (.int pb), .val (.int pc), .val (.int pd), .val (.int pe), .val (.int pa)] [(.int pb), (.int pa)])) t → Steps p.tables e below (s₁.setTop (entryFrame m #[(.int (4 : Int32)), (.int pa), (.int pb), (.int pc), (.int pd), (.int pe)] 7)) t := fun t k => c0 t (by
    show Steps p.tables e below (s₁.setTop (mkF m 0 #[.val (.int (4 : Int32)), .val (.int pa), .val (.int pb), .val (.int pc), .val (.int pd), .val (.int pe), .unset] [])) _
    refine XS.iloadN X0.here hx rfl (hb hby d2_0) rfl ?_
    show Steps p.tables e below (s₁.setTop (mkF m 1 #[.val (.int (4 : Int32)), .val (.int pa), .val (.int pb), .val (.int pc), .val (.int pd), .val (.int pe), .unset] [(.int (4 : Int32))])) _
    refine XS.ifYes X0.here hx rfl (pc0 := 1) (pc' := 6) rfl (hb hby d2_1) rfl (XT.i0_ne_t (by decide)) (by decide) (by decide) ?_
    show Steps p.tables e below (s₁.setTop (mkF m 6 #[.val (.int (4 : Int32)), .val (.int pa), .val (.int pb), .val (.int pc), .val (.int pd), .val (.int pe), .unset] [])) _
    refine XS.iloadN X0.here hx rfl (hb hby d2_6) rfl ?_
    show Steps p.tables e below (s₁.setTop (mkF m 7 #[.val (.int (4 : Int32)), .val (.int pa), .val (.int pb), .val (.int pc), .val (.int pd), .val (.int pe), .unset] [(.int pa)])) _
    refine XS.istore X0.here hx rfl (hb hby d2_7) rfl (l' := #[.val (.int (4 : Int32)), .val (.int pa), .val (.int pb), .val (.int pc), .val (.int pd), .val (.int pe), .val (.int pa)]) rfl ?_
    show Steps p.tables e below (s₁.setTop (mkF m 9 #[.val (.int (4 : Int32)), .val (.int pa), .val (.int pb), .val (.int pc), .val (.int pd), .val (.int pe), .val (.int pa)] [])) _
    refine XS.iloadN X0.here hx rfl (hb hby d2_9) rfl ?_
    show Steps p.tables e below (s₁.setTop (mkF m 10 #[.val (.int (4 : Int32)), .val (.int pa), .val (.int pb), .val (.int pc), .val (.int pd), .val (.int pe), .val (.int pa)] [(.int (4 : Int32))])) _
    refine XS.iconst X0.here hx rfl (hb hby d2_10) ?_
    show Steps p.tables e below (s₁.setTop (mkF m 11 #[.val (.int (4 : Int32)), .val (.int pa), .val (.int pb), .val (.int pc), .val (.int pd), .val (.int pe), .val (.int pa)] [(.int (1 : Int32)), (.int (4 : Int32))])) _
    refine XS.icmpNo X0.here hx rfl (hb hby d2_11) rfl (XT.ii_le_f (by decide)) ?_
    show Steps p.tables e below (s₁.setTop (mkF m 14 #[.val (.int (4 : Int32)), .val (.int pa), .val (.int pb), .val (.int pc), .val (.int pd), .val (.int pe), .val (.int pa)] [])) _
    refine XS.iload X0.here hx rfl (hb hby d2_14) rfl ?_
    show Steps p.tables e below (s₁.setTop (mkF m 16 #[.val (.int (4 : Int32)), .val (.int pa), .val (.int pb), .val (.int pc), .val (.int pd), .val (.int pe), .val (.int pa)] [(.int pa)])) _
    refine XS.iloadN X0.here hx rfl (hb hby d2_16) rfl ?_
    show Steps p.tables e below (s₁.setTop (mkF m 17 #[.val (.int (4 : Int32)), .val (.int pa), .val (.int pb), .val (.int pc), .val (.int pd), .val (.int pe), .val (.int pa)] [(.int pb), (.int pa)])) _
    exact k)
  obtain ⟨_, _, ⟨T2, L2, k2', n2⟩, -, X2, ⟨Lc2, hQ2, l2, y2, z2⟩, st2⟩ := Jvm.LawKit.callS X0 hx (y := (⟨"java/lang/Math", "max", "(II)I"⟩ : MethodName)) hown (mvT hZ (hw _ (List.mem_of_getElem? (i := 9) rfl))) (mvT hZ (hw _ (List.mem_of_getElem? (i := 10) rfl))) (mvT hZ (hw _ (List.mem_of_getElem? (i := 11) rfl))) (mvT hZ (hw _ (List.mem_of_getElem? (i := 12) rfl))) (by decide) (backOf (W := 0) (rm_3 l Z a0 hw [] pa pb h0 n0 Z0) hZ (hw _ (List.mem_of_getElem? (i := 12) rfl)) (hw _ (List.mem_of_getElem? (i := 11) rfl)) (by decide) (by decide)) (g := (mkF m 17 #[.val (.int (4 : Int32)), .val (.int pa), .val (.int pb), .val (.int pc), .val (.int pd), .val (.int pe), .val (.int pa)] [(.int pb), (.int pa)])) rfl (by rw [hml]; rfl) (argsL := [(.int pa), (.int pb)]) (rest := []) (lenOf pd__II_I rfl) rfl (by show 2 * 0 + _ ≤ _; exact Nat.le_of_eq rfl) (hb hby d2_17) (fun _ _ => ⟨rfl, e0, (by decide : 0 + 0 ≤ _), (by decide : 0 + 0 ≤ _)⟩)
  dsimp only [Pt.U, Pt.locs, Pt.cells, Pt.slots] at X2 l2 y2 z2 st2 hQ2
  subst l2 y2 z2
  obtain ⟨rfl, N2, e2⟩ := hQ2
  have M2 := Fr.app N0 N2
  have c3 : ∀ t, Steps p.tables e below (T2.setTop (mkF m 20 #[.val (.int (4 : Int32)), .val (.int pa), .val (.int pb), .val (.int pc), .val (.int pd), .val (.int pe), .val (.int pa)] [(.int (if pa < pb then pb else pa))])) t → Steps p.tables e below (s₁.setTop (entryFrame m #[(.int (4 : Int32)), (.int pa), (.int pb), (.int pc), (.int pd), (.int pe)] 7)) t := fun t k => c1 t (st2 _ k)
  obtain ⟨m1, hm1⟩ : ∃ v : Int32, v = (if pa < pb then pb else pa) := ⟨_, rfl⟩
  have c4 : ∀ t, Steps p.tables e below (T2.setTop (mkF m 22 #[.val (.int (4 : Int32)), .val (.int pa), .val (.int pb), .val (.int pc), .val (.int pd), .val (.int pe), .val (.int m1)] [])) t → Steps p.tables e below (s₁.setTop (entryFrame m #[(.int (4 : Int32)), (.int pa), (.int pb), (.int pc), (.int pd), (.int pe)] 7)) t := fun t k => c3 t (by
    rw [hm1] at k
    show Steps p.tables e below (T2.setTop (mkF m 20 #[.val (.int (4 : Int32)), .val (.int pa), .val (.int pb), .val (.int pc), .val (.int pd), .val (.int pe), .val (.int pa)] [(.int (if pa < pb then pb else pa))])) _
    refine XS.istore X2.here hx rfl (hb hby d2_20) rfl (l' := #[.val (.int (4 : Int32)), .val (.int pa), .val (.int pb), .val (.int pc), .val (.int pd), .val (.int pe), .val (.int (if pa < pb then pb else pa))]) rfl ?_
    show Steps p.tables e below (T2.setTop (mkF m 22 #[.val (.int (4 : Int32)), .val (.int pa), .val (.int pb), .val (.int pc), .val (.int pd), .val (.int pe), .val (.int (if pa < pb then pb else pa))] [])) _
    exact k)
  have km1 := max_k hm1
  have c5 : ∀ t, Steps p.tables e below (T2.setTop (mkF m 30 #[.val (.int (4 : Int32)), .val (.int pa), .val (.int pb), .val (.int pc), .val (.int pd), .val (.int pe), .val (.int m1)] [(.int pc), (.int m1)])) t → Steps p.tables e below (s₁.setTop (entryFrame m #[(.int (4 : Int32)), (.int pa), (.int pb), (.int pc), (.int pd), (.int pe)] 7)) t := fun t k => c4 t (by
    show Steps p.tables e below (T2.setTop (mkF m 22 #[.val (.int (4 : Int32)), .val (.int pa), .val (.int pb), .val (.int pc), .val (.int pd), .val (.int pe), .val (.int m1)] [])) _
    refine XS.iloadN X2.here hx rfl (hb hby d2_22) rfl ?_
    show Steps p.tables e below (T2.setTop (mkF m 23 #[.val (.int (4 : Int32)), .val (.int pa), .val (.int pb), .val (.int pc), .val (.int pd), .val (.int pe), .val (.int m1)] [(.int (4 : Int32))])) _
    refine XS.iconst X2.here hx rfl (hb hby d2_23) ?_
    show Steps p.tables e below (T2.setTop (mkF m 24 #[.val (.int (4 : Int32)), .val (.int pa), .val (.int pb), .val (.int pc), .val (.int pd), .val (.int pe), .val (.int m1)] [(.int (2 : Int32)), (.int (4 : Int32))])) _
    refine XS.icmpNo X2.here hx rfl (hb hby d2_24) rfl (XT.ii_le_f (by decide)) ?_
    show Steps p.tables e below (T2.setTop (mkF m 27 #[.val (.int (4 : Int32)), .val (.int pa), .val (.int pb), .val (.int pc), .val (.int pd), .val (.int pe), .val (.int m1)] [])) _
    refine XS.iload X2.here hx rfl (hb hby d2_27) rfl ?_
    show Steps p.tables e below (T2.setTop (mkF m 29 #[.val (.int (4 : Int32)), .val (.int pa), .val (.int pb), .val (.int pc), .val (.int pd), .val (.int pe), .val (.int m1)] [(.int m1)])) _
    refine XS.iloadN X2.here hx rfl (hb hby d2_29) rfl ?_
    show Steps p.tables e below (T2.setTop (mkF m 30 #[.val (.int (4 : Int32)), .val (.int pa), .val (.int pb), .val (.int pc), .val (.int pd), .val (.int pe), .val (.int m1)] [(.int pc), (.int m1)])) _
    exact k)
  obtain ⟨_, _, ⟨T6, L6, k6', n6⟩, -, X6, ⟨Lc6, hQ6, l6, y6, z6⟩, st6⟩ := Jvm.LawKit.callS X2 hx (y := (⟨"java/lang/Math", "max", "(II)I"⟩ : MethodName)) hown (mvT hZ (hw _ (List.mem_of_getElem? (i := 9) rfl))) (mvT hZ (hw _ (List.mem_of_getElem? (i := 10) rfl))) (mvT hZ (hw _ (List.mem_of_getElem? (i := 11) rfl))) (mvT hZ (hw _ (List.mem_of_getElem? (i := 12) rfl))) (by decide) (backOf (W := 0) (rm_3 l Z a0 hw [] m1 pc h0 n0 Z0) hZ (hw _ (List.mem_of_getElem? (i := 12) rfl)) (hw _ (List.mem_of_getElem? (i := 11) rfl)) (by decide) (by decide)) (g := (mkF m 30 #[.val (.int (4 : Int32)), .val (.int pa), .val (.int pb), .val (.int pc), .val (.int pd), .val (.int pe), .val (.int m1)] [(.int pc), (.int m1)])) rfl (by rw [hml]; rfl) (argsL := [(.int m1), (.int pc)]) (rest := []) (lenOf pd__II_I rfl) rfl (by show 2 * 0 + _ ≤ _; exact Nat.le_of_eq rfl) (hb hby d2_30) (fun _ _ => ⟨rfl, e2, (by decide : 0 + 0 ≤ _), (by decide : 0 + 0 ≤ _)⟩)
  dsimp only [Pt.U, Pt.locs, Pt.cells, Pt.slots] at X6 l6 y6 z6 st6 hQ6
  subst l6 y6 z6
  obtain ⟨rfl, N6, e6⟩ := hQ6
  have M6 := Fr.app M2 N6
  have c7 : ∀ t, Steps p.tables e below (T6.setTop (mkF m 33 #[.val (.int (4 : Int32)), .val (.int pa), .val (.int pb), .val (.int pc), .val (.int pd), .val (.int pe), .val (.int m1)] [(.int (if m1 < pc then pc else m1))])) t → Steps p.tables e below (s₁.setTop (entryFrame m #[(.int (4 : Int32)), (.int pa), (.int pb), (.int pc), (.int pd), (.int pe)] 7)) t := fun t k => c5 t (st6 _ k)
  obtain ⟨m2, hm2⟩ : ∃ v : Int32, v = (if m1 < pc then pc else m1) := ⟨_, rfl⟩
  have c8 : ∀ t, Steps p.tables e below (T6.setTop (mkF m 35 #[.val (.int (4 : Int32)), .val (.int pa), .val (.int pb), .val (.int pc), .val (.int pd), .val (.int pe), .val (.int m2)] [])) t → Steps p.tables e below (s₁.setTop (entryFrame m #[(.int (4 : Int32)), (.int pa), (.int pb), (.int pc), (.int pd), (.int pe)] 7)) t := fun t k => c7 t (by
    rw [hm2] at k
    show Steps p.tables e below (T6.setTop (mkF m 33 #[.val (.int (4 : Int32)), .val (.int pa), .val (.int pb), .val (.int pc), .val (.int pd), .val (.int pe), .val (.int m1)] [(.int (if m1 < pc then pc else m1))])) _
    refine XS.istore X6.here hx rfl (hb hby d2_33) rfl (l' := #[.val (.int (4 : Int32)), .val (.int pa), .val (.int pb), .val (.int pc), .val (.int pd), .val (.int pe), .val (.int (if m1 < pc then pc else m1))]) rfl ?_
    show Steps p.tables e below (T6.setTop (mkF m 35 #[.val (.int (4 : Int32)), .val (.int pa), .val (.int pb), .val (.int pc), .val (.int pd), .val (.int pe), .val (.int (if m1 < pc then pc else m1))] [])) _
    exact k)
  have km2 := max_k hm2
  have c9 : ∀ t, Steps p.tables e below (T6.setTop (mkF m 44 #[.val (.int (4 : Int32)), .val (.int pa), .val (.int pb), .val (.int pc), .val (.int pd), .val (.int pe), .val (.int m2)] [(.int pd), (.int m2)])) t → Steps p.tables e below (s₁.setTop (entryFrame m #[(.int (4 : Int32)), (.int pa), (.int pb), (.int pc), (.int pd), (.int pe)] 7)) t := fun t k => c8 t (by
    show Steps p.tables e below (T6.setTop (mkF m 35 #[.val (.int (4 : Int32)), .val (.int pa), .val (.int pb), .val (.int pc), .val (.int pd), .val (.int pe), .val (.int m2)] [])) _
    refine XS.iloadN X6.here hx rfl (hb hby d2_35) rfl ?_
    show Steps p.tables e below (T6.setTop (mkF m 36 #[.val (.int (4 : Int32)), .val (.int pa), .val (.int pb), .val (.int pc), .val (.int pd), .val (.int pe), .val (.int m2)] [(.int (4 : Int32))])) _
    refine XS.iconst X6.here hx rfl (hb hby d2_36) ?_
    show Steps p.tables e below (T6.setTop (mkF m 37 #[.val (.int (4 : Int32)), .val (.int pa), .val (.int pb), .val (.int pc), .val (.int pd), .val (.int pe), .val (.int m2)] [(.int (3 : Int32)), (.int (4 : Int32))])) _
    refine XS.icmpNo X6.here hx rfl (hb hby d2_37) rfl (XT.ii_le_f (by decide)) ?_
    show Steps p.tables e below (T6.setTop (mkF m 40 #[.val (.int (4 : Int32)), .val (.int pa), .val (.int pb), .val (.int pc), .val (.int pd), .val (.int pe), .val (.int m2)] [])) _
    refine XS.iload X6.here hx rfl (hb hby d2_40) rfl ?_
    show Steps p.tables e below (T6.setTop (mkF m 42 #[.val (.int (4 : Int32)), .val (.int pa), .val (.int pb), .val (.int pc), .val (.int pd), .val (.int pe), .val (.int m2)] [(.int m2)])) _
    refine XS.iload X6.here hx rfl (hb hby d2_42) rfl ?_
    show Steps p.tables e below (T6.setTop (mkF m 44 #[.val (.int (4 : Int32)), .val (.int pa), .val (.int pb), .val (.int pc), .val (.int pd), .val (.int pe), .val (.int m2)] [(.int pd), (.int m2)])) _
    exact k)
  obtain ⟨_, _, ⟨T10, L10, k10', n10⟩, -, X10, ⟨Lc10, hQ10, l10, y10, z10⟩, st10⟩ := Jvm.LawKit.callS X6 hx (y := (⟨"java/lang/Math", "max", "(II)I"⟩ : MethodName)) hown (mvT hZ (hw _ (List.mem_of_getElem? (i := 9) rfl))) (mvT hZ (hw _ (List.mem_of_getElem? (i := 10) rfl))) (mvT hZ (hw _ (List.mem_of_getElem? (i := 11) rfl))) (mvT hZ (hw _ (List.mem_of_getElem? (i := 12) rfl))) (by decide) (backOf (W := 0) (rm_3 l Z a0 hw [] m2 pd h0 n0 Z0) hZ (hw _ (List.mem_of_getElem? (i := 12) rfl)) (hw _ (List.mem_of_getElem? (i := 11) rfl)) (by decide) (by decide)) (g := (mkF m 44 #[.val (.int (4 : Int32)), .val (.int pa), .val (.int pb), .val (.int pc), .val (.int pd), .val (.int pe), .val (.int m2)] [(.int pd), (.int m2)])) rfl (by rw [hml]; rfl) (argsL := [(.int m2), (.int pd)]) (rest := []) (lenOf pd__II_I rfl) rfl (by show 2 * 0 + _ ≤ _; exact Nat.le_of_eq rfl) (hb hby d2_44) (fun _ _ => ⟨rfl, e6, (by decide : 0 + 0 ≤ _), (by decide : 0 + 0 ≤ _)⟩)
  dsimp only [Pt.U, Pt.locs, Pt.cells, Pt.slots] at X10 l10 y10 z10 st10 hQ10
  subst l10 y10 z10
  obtain ⟨rfl, N10, e10⟩ := hQ10
  have M10 := Fr.app M6 N10
  have c11 : ∀ t, Steps p.tables e below (T10.setTop (mkF m 47 #[.val (.int (4 : Int32)), .val (.int pa), .val (.int pb), .val (.int pc), .val (.int pd), .val (.int pe), .val (.int m2)] [(.int (if m2 < pd then pd else m2))])) t → Steps p.tables e below (s₁.setTop (entryFrame m #[(.int (4 : Int32)), (.int pa), (.int pb), (.int pc), (.int pd), (.int pe)] 7)) t := fun t k => c9 t (st10 _ k)
  obtain ⟨m3, hm3⟩ : ∃ v : Int32, v = (if m2 < pd then pd else m2) := ⟨_, rfl⟩
  have c12 : ∀ t, Steps p.tables e below (T10.setTop (mkF m 49 #[.val (.int (4 : Int32)), .val (.int pa), .val (.int pb), .val (.int pc), .val (.int pd), .val (.int pe), .val (.int m3)] [])) t → Steps p.tables e below (s₁.setTop (entryFrame m #[(.int (4 : Int32)), (.int pa), (.int pb), (.int pc), (.int pd), (.int pe)] 7)) t := fun t k => c11 t (by
    rw [hm3] at k
    show Steps p.tables e below (T10.setTop (mkF m 47 #[.val (.int (4 : Int32)), .val (.int pa), .val (.int pb), .val (.int pc), .val (.int pd), .val (.int pe), .val (.int m2)] [(.int (if m2 < pd then pd else m2))])) _
    refine XS.istore X10.here hx rfl (hb hby d2_47) rfl (l' := #[.val (.int (4 : Int32)), .val (.int pa), .val (.int pb), .val (.int pc), .val (.int pd), .val (.int pe), .val (.int (if m2 < pd then pd else m2))]) rfl ?_
    show Steps p.tables e below (T10.setTop (mkF m 49 #[.val (.int (4 : Int32)), .val (.int pa), .val (.int pb), .val (.int pc), .val (.int pd), .val (.int pe), .val (.int (if m2 < pd then pd else m2))] [])) _
    exact k)
  have km3 := max_k hm3
  have c13 : ∀ t, Steps p.tables e below (T10.setTop (mkF m 66 #[.val (.int (4 : Int32)), .val (.int pa), .val (.int pb), .val (.int pc), .val (.int pd), .val (.int pe), .val (.int m3)] [(.int m3), (.int pa)])) t → Steps p.tables e below (s₁.setTop (entryFrame m #[(.int (4 : Int32)), (.int pa), (.int pb), (.int pc), (.int pd), (.int pe)] 7)) t := fun t k => c12 t (by
    show Steps p.tables e below (T10.setTop (mkF m 49 #[.val (.int (4 : Int32)), .val (.int pa), .val (.int pb), .val (.int pc), .val (.int pd), .val (.int pe), .val (.int m3)] [])) _
    refine XS.iloadN X10.here hx rfl (hb hby d2_49) rfl ?_
    show Steps p.tables e below (T10.setTop (mkF m 50 #[.val (.int (4 : Int32)), .val (.int pa), .val (.int pb), .val (.int pc), .val (.int pd), .val (.int pe), .val (.int m3)] [(.int (4 : Int32))])) _
    refine XS.iconst X10.here hx rfl (hb hby d2_50) ?_
    show Steps p.tables e below (T10.setTop (mkF m 51 #[.val (.int (4 : Int32)), .val (.int pa), .val (.int pb), .val (.int pc), .val (.int pd), .val (.int pe), .val (.int m3)] [(.int (4 : Int32)), (.int (4 : Int32))])) _
    refine XS.icmpYes X10.here hx rfl (pc0 := 51) (pc' := 63) rfl (hb hby d2_51) rfl (XT.ii_le_t (by decide)) (by decide) (by decide) ?_
    show Steps p.tables e below (T10.setTop (mkF m 63 #[.val (.int (4 : Int32)), .val (.int pa), .val (.int pb), .val (.int pc), .val (.int pd), .val (.int pe), .val (.int m3)] [])) _
    refine XS.iloadN X10.here hx rfl (hb hby d2_63) rfl ?_
    show Steps p.tables e below (T10.setTop (mkF m 64 #[.val (.int (4 : Int32)), .val (.int pa), .val (.int pb), .val (.int pc), .val (.int pd), .val (.int pe), .val (.int m3)] [(.int pa)])) _
    refine XS.iload X10.here hx rfl (hb hby d2_64) rfl ?_
    show Steps p.tables e below (T10.setTop (mkF m 66 #[.val (.int (4 : Int32)), .val (.int pa), .val (.int pb), .val (.int pc), .val (.int pd), .val (.int pe), .val (.int m3)] [(.int m3), (.int pa)])) _
    exact k)
  by_cases q66 : pa = m3
  · skip
    have r66 := congrArg Int32.toInt q66
    have c14 : ∀ t, Steps p.tables e below (T10.setTop (mkF m 70 #[.val (.int (4 : Int32)), .val (.int pa), .val (.int pb), .val (.int pc), .val (.int pd), .val (.int pe), .val (.int m3)] [(.int (0 : Int32))])) t → Steps p.tables e below (s₁.setTop (entryFrame m #[(.int (4 : Int32)), (.int pa), (.int pb), (.int pc), (.int pd), (.int pe)] 7)) t := fun t k => c13 t (by
      show Steps p.tables e below (T10.setTop (mkF m 66 #[.val (.int (4 : Int32)), .val (.int pa), .val (.int pb), .val (.int pc), .val (.int pd), .val (.int pe), .val (.int m3)] [(.int m3), (.int pa)])) _
      refine XS.icmpNo X10.here hx rfl (hb hby d2_66) rfl (XT.ii_ne_f q66) ?_
      show Steps p.tables e below (T10.setTop (mkF m 69 #[.val (.int (4 : Int32)), .val (.int pa), .val (.int pb), .val (.int pc), .val (.int pd), .val (.int pe), .val (.int m3)] [])) _
      refine XS.iconst X10.here hx rfl (hb hby d2_69) ?_
      show Steps p.tables e below (T10.setTop (mkF m 70 #[.val (.int (4 : Int32)), .val (.int pa), .val (.int pb), .val (.int pc), .val (.int pd), .val (.int pe), .val (.int m3)] [(.int (0 : Int32))])) _
      exact k)
    obtain ⟨fs, hr, hrun, hended, hW, hsame⟩ := X10.leave (v := (some (.int (0 : Int32)))) (fun h => by rw [Bd.returns] at h; cases h)
    refine ⟨_, _, pre0 _ (c14 _ (retI X10 hx Bd.returns (hb hby d2_70) hr)), hrun, hended, _, _, rfl, ?_, ⟨_, rfl⟩, hW, hsame.mono (by decide) (by decide)⟩
    show Q_2_4 Z pa pb pc pd pe h0 n0 _ T10.heap _
    rw [e10]
    exact ⟨⟨0, by decide, rfl, (fun j hj => by
      match j, hj with
      | 0, _ => show pa.toInt ≤ pa.toInt; omega
      | 1, _ => show pb.toInt ≤ pa.toInt; omega
      | 2, _ => show pc.toInt ≤ pa.toInt; omega
      | 3, _ => show pd.toInt ≤ pa.toInt; omega), (fun j hj => absurd hj (Nat.not_lt_zero j)), Or.inl (by decide)⟩, M10, rfl⟩
  · skip
    have r66 := ne_k q66
    have c15 : ∀ t, Steps p.tables e below (T10.setTop (mkF m 79 #[.val (.int (4 : Int32)), .val (.int pa), .val (.int pb), .val (.int pc), .val (.int pd), .val (.int pe), .val (.int m3)] [(.int m3), (.int pb)])) t → Steps p.tables e below (s₁.setTop (entryFrame m #[(.int (4 : Int32)), (.int pa), (.int pb), (.int pc), (.int pd), (.int pe)] 7)) t := fun t k => c13 t (by
      show Steps p.tables e below (T10.setTop (mkF m 66 #[.val (.int (4 : Int32)), .val (.int pa), .val (.int pb), .val (.int pc), .val (.int pd), .val (.int pe), .val (.int m3)] [(.int m3), (.int pa)])) _
      refine XS.icmpYes X10.here hx rfl (pc0 := 66) (pc' := 71) rfl (hb hby d2_66) rfl (XT.ii_ne_t q66) (by decide) (by decide) ?_
      show Steps p.tables e below (T10.setTop (mkF m 71 #[.val (.int (4 : Int32)), .val (.int pa), .val (.int pb), .val (.int pc), .val (.int pd), .val (.int pe), .val (.int m3)] [])) _
      refine XS.iloadN X10.here hx rfl (hb hby d2_71) rfl ?_
      show Steps p.tables e below (T10.setTop (mkF m 72 #[.val (.int (4 : Int32)), .val (.int pa), .val (.int pb), .val (.int pc), .val (.int pd), .val (.int pe), .val (.int m3)] [(.int (4 : Int32))])) _
      refine XS.iconst X10.here hx rfl (hb hby d2_72) ?_
      show Steps p.tables e below (T10.setTop (mkF m 73 #[.val (.int (4 : Int32)), .val (.int pa), .val (.int pb), .val (.int pc), .val (.int pd), .val (.int pe), .val (.int m3)] [(.int (1 : Int32)), (.int (4 : Int32))])) _
      refine XS.icmpNo X10.here hx rfl (hb hby d2_73) rfl (XT.ii_le_f (by decide)) ?_
      show Steps p.tables e below (T10.setTop (mkF m 76 #[.val (.int (4 : Int32)), .val (.int pa), .val (.int pb), .val (.int pc), .val (.int pd), .val (.int pe), .val (.int m3)] [])) _
      refine XS.iloadN X10.here hx rfl (hb hby d2_76) rfl ?_
      show Steps p.tables e below (T10.setTop (mkF m 77 #[.val (.int (4 : Int32)), .val (.int pa), .val (.int pb), .val (.int pc), .val (.int pd), .val (.int pe), .val (.int m3)] [(.int pb)])) _
      refine XS.iload X10.here hx rfl (hb hby d2_77) rfl ?_
      show Steps p.tables e below (T10.setTop (mkF m 79 #[.val (.int (4 : Int32)), .val (.int pa), .val (.int pb), .val (.int pc), .val (.int pd), .val (.int pe), .val (.int m3)] [(.int m3), (.int pb)])) _
      exact k)
    by_cases q79 : pb = m3
    · skip
      have r79 := congrArg Int32.toInt q79
      have c16 : ∀ t, Steps p.tables e below (T10.setTop (mkF m 83 #[.val (.int (4 : Int32)), .val (.int pa), .val (.int pb), .val (.int pc), .val (.int pd), .val (.int pe), .val (.int m3)] [(.int (1 : Int32))])) t → Steps p.tables e below (s₁.setTop (entryFrame m #[(.int (4 : Int32)), (.int pa), (.int pb), (.int pc), (.int pd), (.int pe)] 7)) t := fun t k => c15 t (by
        show Steps p.tables e below (T10.setTop (mkF m 79 #[.val (.int (4 : Int32)), .val (.int pa), .val (.int pb), .val (.int pc), .val (.int pd), .val (.int pe), .val (.int m3)] [(.int m3), (.int pb)])) _
        refine XS.icmpNo X10.here hx rfl (hb hby d2_79) rfl (XT.ii_ne_f q79) ?_
        show Steps p.tables e below (T10.setTop (mkF m 82 #[.val (.int (4 : Int32)), .val (.int pa), .val (.int pb), .val (.int pc), .val (.int pd), .val (.int pe), .val (.int m3)] [])) _
        refine XS.iconst X10.here hx rfl (hb hby d2_82) ?_
        show Steps p.tables e below (T10.setTop (mkF m 83 #[.val (.int (4 : Int32)), .val (.int pa), .val (.int pb), .val (.int pc), .val (.int pd), .val (.int pe), .val (.int m3)] [(.int (1 : Int32))])) _
        exact k)
      obtain ⟨fs, hr, hrun, hended, hW, hsame⟩ := X10.leave (v := (some (.int (1 : Int32)))) (fun h => by rw [Bd.returns] at h; cases h)
      refine ⟨_, _, pre0 _ (c16 _ (retI X10 hx Bd.returns (hb hby d2_83) hr)), hrun, hended, _, _, rfl, ?_, ⟨_, rfl⟩, hW, hsame.mono (by decide) (by decide)⟩
      show Q_2_4 Z pa pb pc pd pe h0 n0 _ T10.heap _
      rw [e10]
      exact ⟨⟨1, by decide, rfl, (fun j hj => by
        match j, hj with
        | 0, _ => show pa.toInt ≤ pb.toInt; omega
        | 1, _ => show pb.toInt ≤ pb.toInt; omega
        | 2, _ => show pc.toInt ≤ pb.toInt; omega
        | 3, _ => show pd.toInt ≤ pb.toInt; omega), (fun j hj => by
        match j, hj with
        | 0, _ => show pa.toInt < pb.toInt; omega), Or.inl (by decide)⟩, M10, rfl⟩
    · skip
      have r79 := ne_k q79
      have c17 : ∀ t, Steps p.tables e below (T10.setTop (mkF m 92 #[.val (.int (4 : Int32)), .val (.int pa), .val (.int pb), .val (.int pc), .val (.int pd), .val (.int pe), .val (.int m3)] [(.int m3), (.int pc)])) t → Steps p.tables e below (s₁.setTop (entryFrame m #[(.int (4 : Int32)), (.int pa), (.int pb), (.int pc), (.int pd), (.int pe)] 7)) t := fun t k => c15 t (by
        show Steps p.tables e below (T10.setTop (mkF m 79 #[.val (.int (4 : Int32)), .val (.int pa), .val (.int pb), .val (.int pc), .val (.int pd), .val (.int pe), .val (.int m3)] [(.int m3), (.int pb)])) _
        refine XS.icmpYes X10.here hx rfl (pc0 := 79) (pc' := 84) rfl (hb hby d2_79) rfl (XT.ii_ne_t q79) (by decide) (by decide) ?_
        show Steps p.tables e below (T10.setTop (mkF m 84 #[.val (.int (4 : Int32)), .val (.int pa), .val (.int pb), .val (.int pc), .val (.int pd), .val (.int pe), .val (.int m3)] [])) _
        refine XS.iloadN X10.here hx rfl (hb hby d2_84) rfl ?_
        show Steps p.tables e below (T10.setTop (mkF m 85 #[.val (.int (4 : Int32)), .val (.int pa), .val (.int pb), .val (.int pc), .val (.int pd), .val (.int pe), .val (.int m3)] [(.int (4 : Int32))])) _
        refine XS.iconst X10.here hx rfl (hb hby d2_85) ?_
        show Steps p.tables e below (T10.setTop (mkF m 86 #[.val (.int (4 : Int32)), .val (.int pa), .val (.int pb), .val (.int pc), .val (.int pd), .val (.int pe), .val (.int m3)] [(.int (2 : Int32)), (.int (4 : Int32))])) _
        refine XS.icmpNo X10.here hx rfl (hb hby d2_86) rfl (XT.ii_le_f (by decide)) ?_
        show Steps p.tables e below (T10.setTop (mkF m 89 #[.val (.int (4 : Int32)), .val (.int pa), .val (.int pb), .val (.int pc), .val (.int pd), .val (.int pe), .val (.int m3)] [])) _
        refine XS.iloadN X10.here hx rfl (hb hby d2_89) rfl ?_
        show Steps p.tables e below (T10.setTop (mkF m 90 #[.val (.int (4 : Int32)), .val (.int pa), .val (.int pb), .val (.int pc), .val (.int pd), .val (.int pe), .val (.int m3)] [(.int pc)])) _
        refine XS.iload X10.here hx rfl (hb hby d2_90) rfl ?_
        show Steps p.tables e below (T10.setTop (mkF m 92 #[.val (.int (4 : Int32)), .val (.int pa), .val (.int pb), .val (.int pc), .val (.int pd), .val (.int pe), .val (.int m3)] [(.int m3), (.int pc)])) _
        exact k)
      by_cases q92 : pc = m3
      · skip
        have r92 := congrArg Int32.toInt q92
        have c18 : ∀ t, Steps p.tables e below (T10.setTop (mkF m 96 #[.val (.int (4 : Int32)), .val (.int pa), .val (.int pb), .val (.int pc), .val (.int pd), .val (.int pe), .val (.int m3)] [(.int (2 : Int32))])) t → Steps p.tables e below (s₁.setTop (entryFrame m #[(.int (4 : Int32)), (.int pa), (.int pb), (.int pc), (.int pd), (.int pe)] 7)) t := fun t k => c17 t (by
          show Steps p.tables e below (T10.setTop (mkF m 92 #[.val (.int (4 : Int32)), .val (.int pa), .val (.int pb), .val (.int pc), .val (.int pd), .val (.int pe), .val (.int m3)] [(.int m3), (.int pc)])) _
          refine XS.icmpNo X10.here hx rfl (hb hby d2_92) rfl (XT.ii_ne_f q92) ?_
          show Steps p.tables e below (T10.setTop (mkF m 95 #[.val (.int (4 : Int32)), .val (.int pa), .val (.int pb), .val (.int pc), .val (.int pd), .val (.int pe), .val (.int m3)] [])) _
          refine XS.iconst X10.here hx rfl (hb hby d2_95) ?_
          show Steps p.tables e below (T10.setTop (mkF m 96 #[.val (.int (4 : Int32)), .val (.int pa), .val (.int pb), .val (.int pc), .val (.int pd), .val (.int pe), .val (.int m3)] [(.int (2 : Int32))])) _
          exact k)
        obtain ⟨fs, hr, hrun, hended, hW, hsame⟩ := X10.leave (v := (some (.int (2 : Int32)))) (fun h => by rw [Bd.returns] at h; cases h)
        refine ⟨_, _, pre0 _ (c18 _ (retI X10 hx Bd.returns (hb hby d2_96) hr)), hrun, hended, _, _, rfl, ?_, ⟨_, rfl⟩, hW, hsame.mono (by decide) (by decide)⟩
        show Q_2_4 Z pa pb pc pd pe h0 n0 _ T10.heap _
        rw [e10]
        exact ⟨⟨2, by decide, rfl, (fun j hj => by
          match j, hj with
          | 0, _ => show pa.toInt ≤ pc.toInt; omega
          | 1, _ => show pb.toInt ≤ pc.toInt; omega
          | 2, _ => show pc.toInt ≤ pc.toInt; omega
          | 3, _ => show pd.toInt ≤ pc.toInt; omega), (fun j hj => by
          match j, hj with
          | 0, _ => show pa.toInt < pc.toInt; omega
          | 1, _ => show pb.toInt < pc.toInt; omega), Or.inl (by decide)⟩, M10, rfl⟩
      · skip
        have r92 := ne_k q92
        have c19 : ∀ t, Steps p.tables e below (T10.setTop (mkF m 106 #[.val (.int (4 : Int32)), .val (.int pa), .val (.int pb), .val (.int pc), .val (.int pd), .val (.int pe), .val (.int m3)] [(.int m3), (.int pd)])) t → Steps p.tables e below (s₁.setTop (entryFrame m #[(.int (4 : Int32)), (.int pa), (.int pb), (.int pc), (.int pd), (.int pe)] 7)) t := fun t k => c17 t (by
          show Steps p.tables e below (T10.setTop (mkF m 92 #[.val (.int (4 : Int32)), .val (.int pa), .val (.int pb), .val (.int pc), .val (.int pd), .val (.int pe), .val (.int m3)] [(.int m3), (.int pc)])) _
          refine XS.icmpYes X10.here hx rfl (pc0 := 92) (pc' := 97) rfl (hb hby d2_92) rfl (XT.ii_ne_t q92) (by decide) (by decide) ?_
          show Steps p.tables e below (T10.setTop (mkF m 97 #[.val (.int (4 : Int32)), .val (.int pa), .val (.int pb), .val (.int pc), .val (.int pd), .val (.int pe), .val (.int m3)] [])) _
          refine XS.iloadN X10.here hx rfl (hb hby d2_97) rfl ?_
          show Steps p.tables e below (T10.setTop (mkF m 98 #[.val (.int (4 : Int32)), .val (.int pa), .val (.int pb), .val (.int pc), .val (.int pd), .val (.int pe), .val (.int m3)] [(.int (4 : Int32))])) _
          refine XS.iconst X10.here hx rfl (hb hby d2_98) ?_
          show Steps p.tables e below (T10.setTop (mkF m 99 #[.val (.int (4 : Int32)), .val (.int pa), .val (.int pb), .val (.int pc), .val (.int pd), .val (.int pe), .val (.int m3)] [(.int (3 : Int32)), (.int (4 : Int32))])) _
          refine XS.icmpNo X10.here hx rfl (hb hby d2_99) rfl (XT.ii_le_f (by decide)) ?_
          show Steps p.tables e below (T10.setTop (mkF m 102 #[.val (.int (4 : Int32)), .val (.int pa), .val (.int pb), .val (.int pc), .val (.int pd), .val (.int pe), .val (.int m3)] [])) _
          refine XS.iload X10.here hx rfl (hb hby d2_102) rfl ?_
          show Steps p.tables e below (T10.setTop (mkF m 104 #[.val (.int (4 : Int32)), .val (.int pa), .val (.int pb), .val (.int pc), .val (.int pd), .val (.int pe), .val (.int m3)] [(.int pd)])) _
          refine XS.iload X10.here hx rfl (hb hby d2_104) rfl ?_
          show Steps p.tables e below (T10.setTop (mkF m 106 #[.val (.int (4 : Int32)), .val (.int pa), .val (.int pb), .val (.int pc), .val (.int pd), .val (.int pe), .val (.int m3)] [(.int m3), (.int pd)])) _
          exact k)
        by_cases q106 : pd = m3
        · skip
          have r106 := congrArg Int32.toInt q106
          have c20 : ∀ t, Steps p.tables e below (T10.setTop (mkF m 110 #[.val (.int (4 : Int32)), .val (.int pa), .val (.int pb), .val (.int pc), .val (.int pd), .val (.int pe), .val (.int m3)] [(.int (3 : Int32))])) t → Steps p.tables e below (s₁.setTop (entryFrame m #[(.int (4 : Int32)), (.int pa), (.int pb), (.int pc), (.int pd), (.int pe)] 7)) t := fun t k => c19 t (by
            show Steps p.tables e below (T10.setTop (mkF m 106 #[.val (.int (4 : Int32)), .val (.int pa), .val (.int pb), .val (.int pc), .val (.int pd), .val (.int pe), .val (.int m3)] [(.int m3), (.int pd)])) _
            refine XS.icmpNo X10.here hx rfl (hb hby d2_106) rfl (XT.ii_ne_f q106) ?_
            show Steps p.tables e below (T10.setTop (mkF m 109 #[.val (.int (4 : Int32)), .val (.int pa), .val (.int pb), .val (.int pc), .val (.int pd), .val (.int pe), .val (.int m3)] [])) _
            refine XS.iconst X10.here hx rfl (hb hby d2_109) ?_
            show Steps p.tables e below (T10.setTop (mkF m 110 #[.val (.int (4 : Int32)), .val (.int pa), .val (.int pb), .val (.int pc), .val (.int pd), .val (.int pe), .val (.int m3)] [(.int (3 : Int32))])) _
            exact k)
          obtain ⟨fs, hr, hrun, hended, hW, hsame⟩ := X10.leave (v := (some (.int (3 : Int32)))) (fun h => by rw [Bd.returns] at h; cases h)
          refine ⟨_, _, pre0 _ (c20 _ (retI X10 hx Bd.returns (hb hby d2_110) hr)), hrun, hended, _, _, rfl, ?_, ⟨_, rfl⟩, hW, hsame.mono (by decide) (by decide)⟩
          show Q_2_4 Z pa pb pc pd pe h0 n0 _ T10.heap _
          rw [e10]
          exact ⟨⟨3, by decide, rfl, (fun j hj => by
            match j, hj with
            | 0, _ => show pa.toInt ≤ pd.toInt; omega
            | 1, _ => show pb.toInt ≤ pd.toInt; omega
            | 2, _ => show pc.toInt ≤ pd.toInt; omega
            | 3, _ => show pd.toInt ≤ pd.toInt; omega), (fun j hj => by
            match j, hj with
            | 0, _ => show pa.toInt < pd.toInt; omega
            | 1, _ => show pb.toInt < pd.toInt; omega
            | 2, _ => show pc.toInt < pd.toInt; omega), Or.inl (by decide)⟩, M10, rfl⟩
        · skip
          have r106 := ne_k q106
          have c21 : ∀ t, Steps p.tables e below (T10.setTop (mkF m 112 #[.val (.int (4 : Int32)), .val (.int pa), .val (.int pb), .val (.int pc), .val (.int pd), .val (.int pe), .val (.int m3)] [(.int (4 : Int32))])) t → Steps p.tables e below (s₁.setTop (entryFrame m #[(.int (4 : Int32)), (.int pa), (.int pb), (.int pc), (.int pd), (.int pe)] 7)) t := fun t k => c19 t (by
            show Steps p.tables e below (T10.setTop (mkF m 106 #[.val (.int (4 : Int32)), .val (.int pa), .val (.int pb), .val (.int pc), .val (.int pd), .val (.int pe), .val (.int m3)] [(.int m3), (.int pd)])) _
            refine XS.icmpYes X10.here hx rfl (pc0 := 106) (pc' := 111) rfl (hb hby d2_106) rfl (XT.ii_ne_t q106) (by decide) (by decide) ?_
            show Steps p.tables e below (T10.setTop (mkF m 111 #[.val (.int (4 : Int32)), .val (.int pa), .val (.int pb), .val (.int pc), .val (.int pd), .val (.int pe), .val (.int m3)] [])) _
            refine XS.iconst X10.here hx rfl (hb hby d2_111) ?_
            show Steps p.tables e below (T10.setTop (mkF m 112 #[.val (.int (4 : Int32)), .val (.int pa), .val (.int pb), .val (.int pc), .val (.int pd), .val (.int pe), .val (.int m3)] [(.int (4 : Int32))])) _
            exact k)
          obtain ⟨fs, hr, hrun, hended, hW, hsame⟩ := X10.leave (v := (some (.int (4 : Int32)))) (fun h => by rw [Bd.returns] at h; cases h)
          refine ⟨_, _, pre0 _ (c21 _ (retI X10 hx Bd.returns (hb hby d2_112) hr)), hrun, hended, _, _, rfl, ?_, ⟨_, rfl⟩, hW, hsame.mono (by decide) (by decide)⟩
          show Q_2_4 Z pa pb pc pd pe h0 n0 _ T10.heap _
          rw [e10]
          exfalso; omega
theorem d2_54 : decode method_3_code 54 = .ok (.iload 6, 2) := by decide +kernel
theorem d2_56 : decode method_3_code 56 = .ok (.iload 5, 2) := by decide +kernel
theorem d2_58 : decode method_3_code 58 = .ok (.invokestatic 19, 3) := by decide +kernel
theorem d2_61 : decode method_3_code 61 = .ok (.istore 6, 2) := by decide +kernel
theorem ef_2_5 (m : MethodId) (pa : Int32) (pb : Int32) (pc : Int32) (pd : Int32) (pe : Int32) : entryFrame m #[(.int (5 : Int32)), (.int pa), (.int pb), (.int pc), (.int pd), (.int pe)] 7 = (mkF m 0 #[.val (.int (5 : Int32)), .val (.int pa), .val (.int pb), .val (.int pc), .val (.int pd), .val (.int pe), .unset] []) := by first | (simp [entryFrame, mkF, argsToLocals, Value.category]; done) | rfl
def Q_2_5 (Z : State) (pa : Int32) (pb : Int32) (pc : Int32) (pd : Int32) (pe : Int32) (h0 : Heap) (n0 : Nat) (v : Option Value) (h : Heap) (L : List Loc) : Prop := (∃ i : Nat, i < 5 ∧ v = some (.int (Int32.ofNat i)) ∧ Best (five pa pb pc pd pe) 5 i) ∧ Fr n0 L ∧ h = h0
set_option maxRecDepth 65536 in
set_option maxHeartbeats 2000000 in
theorem rm_2_5 (l : Launch) (Z : State) (a0 : Array Value) (hw : ∀ d ∈ tables_1, d.before a0 Z = true) (ws : List Jvm.Cond) (pa : Int32) (pb : Int32) (pc : Int32) (pd : Int32) (pe : Int32) (h0 : Heap) (n0 : Nat) (Z0 : n0 ≤ h0.size)  :
    MetFree l (⟨"com/example/streamgrove/streamgrove/learners/ClassScoresHighestPinLaw", "expected", "(IIIIII)I"⟩ : MethodName) (head1 (Jvm.Cond.code (⟨"com/example/streamgrove/streamgrove/learners/ClassScoresHighestPinLaw", "expected", "(IIIIII)I"⟩ : MethodName) method_3_code 7 (some .int) :: ws) ({ frames := 1, cells := 0, slots := 0, locals := 16 } : Room)) (fun aa UU => aa = #[(.int (5 : Int32)), (.int pa), (.int pb), (.int pc), (.int pd), (.int pe)] ∧ Z.Warmed39 UU.vm ∧ UU.heap = h0) (fun _ _ _ _ _ => True) (fun _ UU oo UU' => ∃ v L, oo = .returned v ∧ Q_2_5 Z pa pb pc pd pe h0 n0 v UU'.heap L ∧ FrameEnd UU oo UU' L ({ frames := 1, cells := 0, slots := 0, locals := 16 } : Room).cells ({ frames := 1, cells := 0, slots := 0, locals := 16 } : Room).slots) := by
  refine MetFree.of_bodySF (plainFor_of_name pn_com_example_streamgrove_streamgrove_learners_ClassScoresHighestPinLaw) hisR ?_
  intro p e s m args below meth c s₁ Bd hml0 hP hK
  obtain ⟨rfl, hZ, hh⟩ := hP
  have hx := Bd.exec
  have hby := Bd.bytes
  have hml : c.maxLocals = 7 := hml0
  have hown : s.vm.findClass "com/example/streamgrove/streamgrove/learners/ClassScoresHighestPinLaw" = some m.cls := findClass_of_methodNamed Bd.named
  have hnaM := (name_of_methodNamed Bd.named Bd.method).1
  have X0 : Stand p l e ({ frames := 1, cells := 0, slots := 0, locals := 16 } : Room) s m #[(.int (5 : Int32)), (.int pa), (.int pb), (.int pc), (.int pd), (.int pe)] below meth c s₁ [] 0 0 := Stand.of_body Bd
  have e0 : s₁.heap = h0 := by rw [← hh, Bd.state]; rfl
  have N0 := Fr.nil n0
  have pre0 : ∀ t, Steps p.tables e below (s₁.setTop (entryFrame m #[(.int (5 : Int32)), (.int pa), (.int pb), (.int pc), (.int pd), (.int pe)] 7)) t → Steps p.tables e below (s₁.setTop (entryFrame m #[(.int (5 : Int32)), (.int pa), (.int pb), (.int pc), (.int pd), (.int pe)] 7)) t := fun t k => k
  have c0 : ∀ t, Steps p.tables e below (s₁.setTop (mkF m 0 #[.val (.int (5 : Int32)), .val (.int pa), .val (.int pb), .val (.int pc), .val (.int pd), .val (.int pe), .unset] [])) t → Steps p.tables e below (s₁.setTop (entryFrame m #[(.int (5 : Int32)), (.int pa), (.int pb), (.int pc), (.int pd), (.int pe)] 7)) t := fun t k => castTop (ef_2_5 m pa pb pc pd pe) k
  have c1 : ∀ t, Steps p.tables e below (s₁.setTop (mkF m 17 #[.val (.int (5 : Int32)), .val (.int pa), .val (.int pb), .val (.int pc), .val (.int pd), .val (.int pe), .val (.int pa)] [(.int pb), (.int pa)])) t → Steps p.tables e below (s₁.setTop (entryFrame m #[(.int (5 : Int32)), (.int pa), (.int pb), (.int pc), (.int pd), (.int pe)] 7)) t := fun t k => c0 t (by
    show Steps p.tables e below (s₁.setTop (mkF m 0 #[.val (.int (5 : Int32)), .val (.int pa), .val (.int pb), .val (.int pc), .val (.int pd), .val (.int pe), .unset] [])) _
    refine XS.iloadN X0.here hx rfl (hb hby d2_0) rfl ?_
    show Steps p.tables e below (s₁.setTop (mkF m 1 #[.val (.int (5 : Int32)), .val (.int pa), .val (.int pb), .val (.int pc), .val (.int pd), .val (.int pe), .unset] [(.int (5 : Int32))])) _
    refine XS.ifYes X0.here hx rfl (pc0 := 1) (pc' := 6) rfl (hb hby d2_1) rfl (XT.i0_ne_t (by decide)) (by decide) (by decide) ?_
    show Steps p.tables e below (s₁.setTop (mkF m 6 #[.val (.int (5 : Int32)), .val (.int pa), .val (.int pb), .val (.int pc), .val (.int pd), .val (.int pe), .unset] [])) _
    refine XS.iloadN X0.here hx rfl (hb hby d2_6) rfl ?_
    show Steps p.tables e below (s₁.setTop (mkF m 7 #[.val (.int (5 : Int32)), .val (.int pa), .val (.int pb), .val (.int pc), .val (.int pd), .val (.int pe), .unset] [(.int pa)])) _
    refine XS.istore X0.here hx rfl (hb hby d2_7) rfl (l' := #[.val (.int (5 : Int32)), .val (.int pa), .val (.int pb), .val (.int pc), .val (.int pd), .val (.int pe), .val (.int pa)]) rfl ?_
    show Steps p.tables e below (s₁.setTop (mkF m 9 #[.val (.int (5 : Int32)), .val (.int pa), .val (.int pb), .val (.int pc), .val (.int pd), .val (.int pe), .val (.int pa)] [])) _
    refine XS.iloadN X0.here hx rfl (hb hby d2_9) rfl ?_
    show Steps p.tables e below (s₁.setTop (mkF m 10 #[.val (.int (5 : Int32)), .val (.int pa), .val (.int pb), .val (.int pc), .val (.int pd), .val (.int pe), .val (.int pa)] [(.int (5 : Int32))])) _
    refine XS.iconst X0.here hx rfl (hb hby d2_10) ?_
    show Steps p.tables e below (s₁.setTop (mkF m 11 #[.val (.int (5 : Int32)), .val (.int pa), .val (.int pb), .val (.int pc), .val (.int pd), .val (.int pe), .val (.int pa)] [(.int (1 : Int32)), (.int (5 : Int32))])) _
    refine XS.icmpNo X0.here hx rfl (hb hby d2_11) rfl (XT.ii_le_f (by decide)) ?_
    show Steps p.tables e below (s₁.setTop (mkF m 14 #[.val (.int (5 : Int32)), .val (.int pa), .val (.int pb), .val (.int pc), .val (.int pd), .val (.int pe), .val (.int pa)] [])) _
    refine XS.iload X0.here hx rfl (hb hby d2_14) rfl ?_
    show Steps p.tables e below (s₁.setTop (mkF m 16 #[.val (.int (5 : Int32)), .val (.int pa), .val (.int pb), .val (.int pc), .val (.int pd), .val (.int pe), .val (.int pa)] [(.int pa)])) _
    refine XS.iloadN X0.here hx rfl (hb hby d2_16) rfl ?_
    show Steps p.tables e below (s₁.setTop (mkF m 17 #[.val (.int (5 : Int32)), .val (.int pa), .val (.int pb), .val (.int pc), .val (.int pd), .val (.int pe), .val (.int pa)] [(.int pb), (.int pa)])) _
    exact k)
  obtain ⟨_, _, ⟨T2, L2, k2', n2⟩, -, X2, ⟨Lc2, hQ2, l2, y2, z2⟩, st2⟩ := Jvm.LawKit.callS X0 hx (y := (⟨"java/lang/Math", "max", "(II)I"⟩ : MethodName)) hown (mvT hZ (hw _ (List.mem_of_getElem? (i := 9) rfl))) (mvT hZ (hw _ (List.mem_of_getElem? (i := 10) rfl))) (mvT hZ (hw _ (List.mem_of_getElem? (i := 11) rfl))) (mvT hZ (hw _ (List.mem_of_getElem? (i := 12) rfl))) (by decide) (backOf (W := 0) (rm_3 l Z a0 hw [] pa pb h0 n0 Z0) hZ (hw _ (List.mem_of_getElem? (i := 12) rfl)) (hw _ (List.mem_of_getElem? (i := 11) rfl)) (by decide) (by decide)) (g := (mkF m 17 #[.val (.int (5 : Int32)), .val (.int pa), .val (.int pb), .val (.int pc), .val (.int pd), .val (.int pe), .val (.int pa)] [(.int pb), (.int pa)])) rfl (by rw [hml]; rfl) (argsL := [(.int pa), (.int pb)]) (rest := []) (lenOf pd__II_I rfl) rfl (by show 2 * 0 + _ ≤ _; exact Nat.le_of_eq rfl) (hb hby d2_17) (fun _ _ => ⟨rfl, e0, (by decide : 0 + 0 ≤ _), (by decide : 0 + 0 ≤ _)⟩)
  dsimp only [Pt.U, Pt.locs, Pt.cells, Pt.slots] at X2 l2 y2 z2 st2 hQ2
  subst l2 y2 z2
  obtain ⟨rfl, N2, e2⟩ := hQ2
  have M2 := Fr.app N0 N2
  have c3 : ∀ t, Steps p.tables e below (T2.setTop (mkF m 20 #[.val (.int (5 : Int32)), .val (.int pa), .val (.int pb), .val (.int pc), .val (.int pd), .val (.int pe), .val (.int pa)] [(.int (if pa < pb then pb else pa))])) t → Steps p.tables e below (s₁.setTop (entryFrame m #[(.int (5 : Int32)), (.int pa), (.int pb), (.int pc), (.int pd), (.int pe)] 7)) t := fun t k => c1 t (st2 _ k)
  obtain ⟨m1, hm1⟩ : ∃ v : Int32, v = (if pa < pb then pb else pa) := ⟨_, rfl⟩
  have c4 : ∀ t, Steps p.tables e below (T2.setTop (mkF m 22 #[.val (.int (5 : Int32)), .val (.int pa), .val (.int pb), .val (.int pc), .val (.int pd), .val (.int pe), .val (.int m1)] [])) t → Steps p.tables e below (s₁.setTop (entryFrame m #[(.int (5 : Int32)), (.int pa), (.int pb), (.int pc), (.int pd), (.int pe)] 7)) t := fun t k => c3 t (by
    rw [hm1] at k
    show Steps p.tables e below (T2.setTop (mkF m 20 #[.val (.int (5 : Int32)), .val (.int pa), .val (.int pb), .val (.int pc), .val (.int pd), .val (.int pe), .val (.int pa)] [(.int (if pa < pb then pb else pa))])) _
    refine XS.istore X2.here hx rfl (hb hby d2_20) rfl (l' := #[.val (.int (5 : Int32)), .val (.int pa), .val (.int pb), .val (.int pc), .val (.int pd), .val (.int pe), .val (.int (if pa < pb then pb else pa))]) rfl ?_
    show Steps p.tables e below (T2.setTop (mkF m 22 #[.val (.int (5 : Int32)), .val (.int pa), .val (.int pb), .val (.int pc), .val (.int pd), .val (.int pe), .val (.int (if pa < pb then pb else pa))] [])) _
    exact k)
  have km1 := max_k hm1
  have c5 : ∀ t, Steps p.tables e below (T2.setTop (mkF m 30 #[.val (.int (5 : Int32)), .val (.int pa), .val (.int pb), .val (.int pc), .val (.int pd), .val (.int pe), .val (.int m1)] [(.int pc), (.int m1)])) t → Steps p.tables e below (s₁.setTop (entryFrame m #[(.int (5 : Int32)), (.int pa), (.int pb), (.int pc), (.int pd), (.int pe)] 7)) t := fun t k => c4 t (by
    show Steps p.tables e below (T2.setTop (mkF m 22 #[.val (.int (5 : Int32)), .val (.int pa), .val (.int pb), .val (.int pc), .val (.int pd), .val (.int pe), .val (.int m1)] [])) _
    refine XS.iloadN X2.here hx rfl (hb hby d2_22) rfl ?_
    show Steps p.tables e below (T2.setTop (mkF m 23 #[.val (.int (5 : Int32)), .val (.int pa), .val (.int pb), .val (.int pc), .val (.int pd), .val (.int pe), .val (.int m1)] [(.int (5 : Int32))])) _
    refine XS.iconst X2.here hx rfl (hb hby d2_23) ?_
    show Steps p.tables e below (T2.setTop (mkF m 24 #[.val (.int (5 : Int32)), .val (.int pa), .val (.int pb), .val (.int pc), .val (.int pd), .val (.int pe), .val (.int m1)] [(.int (2 : Int32)), (.int (5 : Int32))])) _
    refine XS.icmpNo X2.here hx rfl (hb hby d2_24) rfl (XT.ii_le_f (by decide)) ?_
    show Steps p.tables e below (T2.setTop (mkF m 27 #[.val (.int (5 : Int32)), .val (.int pa), .val (.int pb), .val (.int pc), .val (.int pd), .val (.int pe), .val (.int m1)] [])) _
    refine XS.iload X2.here hx rfl (hb hby d2_27) rfl ?_
    show Steps p.tables e below (T2.setTop (mkF m 29 #[.val (.int (5 : Int32)), .val (.int pa), .val (.int pb), .val (.int pc), .val (.int pd), .val (.int pe), .val (.int m1)] [(.int m1)])) _
    refine XS.iloadN X2.here hx rfl (hb hby d2_29) rfl ?_
    show Steps p.tables e below (T2.setTop (mkF m 30 #[.val (.int (5 : Int32)), .val (.int pa), .val (.int pb), .val (.int pc), .val (.int pd), .val (.int pe), .val (.int m1)] [(.int pc), (.int m1)])) _
    exact k)
  obtain ⟨_, _, ⟨T6, L6, k6', n6⟩, -, X6, ⟨Lc6, hQ6, l6, y6, z6⟩, st6⟩ := Jvm.LawKit.callS X2 hx (y := (⟨"java/lang/Math", "max", "(II)I"⟩ : MethodName)) hown (mvT hZ (hw _ (List.mem_of_getElem? (i := 9) rfl))) (mvT hZ (hw _ (List.mem_of_getElem? (i := 10) rfl))) (mvT hZ (hw _ (List.mem_of_getElem? (i := 11) rfl))) (mvT hZ (hw _ (List.mem_of_getElem? (i := 12) rfl))) (by decide) (backOf (W := 0) (rm_3 l Z a0 hw [] m1 pc h0 n0 Z0) hZ (hw _ (List.mem_of_getElem? (i := 12) rfl)) (hw _ (List.mem_of_getElem? (i := 11) rfl)) (by decide) (by decide)) (g := (mkF m 30 #[.val (.int (5 : Int32)), .val (.int pa), .val (.int pb), .val (.int pc), .val (.int pd), .val (.int pe), .val (.int m1)] [(.int pc), (.int m1)])) rfl (by rw [hml]; rfl) (argsL := [(.int m1), (.int pc)]) (rest := []) (lenOf pd__II_I rfl) rfl (by show 2 * 0 + _ ≤ _; exact Nat.le_of_eq rfl) (hb hby d2_30) (fun _ _ => ⟨rfl, e2, (by decide : 0 + 0 ≤ _), (by decide : 0 + 0 ≤ _)⟩)
  dsimp only [Pt.U, Pt.locs, Pt.cells, Pt.slots] at X6 l6 y6 z6 st6 hQ6
  subst l6 y6 z6
  obtain ⟨rfl, N6, e6⟩ := hQ6
  have M6 := Fr.app M2 N6
  have c7 : ∀ t, Steps p.tables e below (T6.setTop (mkF m 33 #[.val (.int (5 : Int32)), .val (.int pa), .val (.int pb), .val (.int pc), .val (.int pd), .val (.int pe), .val (.int m1)] [(.int (if m1 < pc then pc else m1))])) t → Steps p.tables e below (s₁.setTop (entryFrame m #[(.int (5 : Int32)), (.int pa), (.int pb), (.int pc), (.int pd), (.int pe)] 7)) t := fun t k => c5 t (st6 _ k)
  obtain ⟨m2, hm2⟩ : ∃ v : Int32, v = (if m1 < pc then pc else m1) := ⟨_, rfl⟩
  have c8 : ∀ t, Steps p.tables e below (T6.setTop (mkF m 35 #[.val (.int (5 : Int32)), .val (.int pa), .val (.int pb), .val (.int pc), .val (.int pd), .val (.int pe), .val (.int m2)] [])) t → Steps p.tables e below (s₁.setTop (entryFrame m #[(.int (5 : Int32)), (.int pa), (.int pb), (.int pc), (.int pd), (.int pe)] 7)) t := fun t k => c7 t (by
    rw [hm2] at k
    show Steps p.tables e below (T6.setTop (mkF m 33 #[.val (.int (5 : Int32)), .val (.int pa), .val (.int pb), .val (.int pc), .val (.int pd), .val (.int pe), .val (.int m1)] [(.int (if m1 < pc then pc else m1))])) _
    refine XS.istore X6.here hx rfl (hb hby d2_33) rfl (l' := #[.val (.int (5 : Int32)), .val (.int pa), .val (.int pb), .val (.int pc), .val (.int pd), .val (.int pe), .val (.int (if m1 < pc then pc else m1))]) rfl ?_
    show Steps p.tables e below (T6.setTop (mkF m 35 #[.val (.int (5 : Int32)), .val (.int pa), .val (.int pb), .val (.int pc), .val (.int pd), .val (.int pe), .val (.int (if m1 < pc then pc else m1))] [])) _
    exact k)
  have km2 := max_k hm2
  have c9 : ∀ t, Steps p.tables e below (T6.setTop (mkF m 44 #[.val (.int (5 : Int32)), .val (.int pa), .val (.int pb), .val (.int pc), .val (.int pd), .val (.int pe), .val (.int m2)] [(.int pd), (.int m2)])) t → Steps p.tables e below (s₁.setTop (entryFrame m #[(.int (5 : Int32)), (.int pa), (.int pb), (.int pc), (.int pd), (.int pe)] 7)) t := fun t k => c8 t (by
    show Steps p.tables e below (T6.setTop (mkF m 35 #[.val (.int (5 : Int32)), .val (.int pa), .val (.int pb), .val (.int pc), .val (.int pd), .val (.int pe), .val (.int m2)] [])) _
    refine XS.iloadN X6.here hx rfl (hb hby d2_35) rfl ?_
    show Steps p.tables e below (T6.setTop (mkF m 36 #[.val (.int (5 : Int32)), .val (.int pa), .val (.int pb), .val (.int pc), .val (.int pd), .val (.int pe), .val (.int m2)] [(.int (5 : Int32))])) _
    refine XS.iconst X6.here hx rfl (hb hby d2_36) ?_
    show Steps p.tables e below (T6.setTop (mkF m 37 #[.val (.int (5 : Int32)), .val (.int pa), .val (.int pb), .val (.int pc), .val (.int pd), .val (.int pe), .val (.int m2)] [(.int (3 : Int32)), (.int (5 : Int32))])) _
    refine XS.icmpNo X6.here hx rfl (hb hby d2_37) rfl (XT.ii_le_f (by decide)) ?_
    show Steps p.tables e below (T6.setTop (mkF m 40 #[.val (.int (5 : Int32)), .val (.int pa), .val (.int pb), .val (.int pc), .val (.int pd), .val (.int pe), .val (.int m2)] [])) _
    refine XS.iload X6.here hx rfl (hb hby d2_40) rfl ?_
    show Steps p.tables e below (T6.setTop (mkF m 42 #[.val (.int (5 : Int32)), .val (.int pa), .val (.int pb), .val (.int pc), .val (.int pd), .val (.int pe), .val (.int m2)] [(.int m2)])) _
    refine XS.iload X6.here hx rfl (hb hby d2_42) rfl ?_
    show Steps p.tables e below (T6.setTop (mkF m 44 #[.val (.int (5 : Int32)), .val (.int pa), .val (.int pb), .val (.int pc), .val (.int pd), .val (.int pe), .val (.int m2)] [(.int pd), (.int m2)])) _
    exact k)
  obtain ⟨_, _, ⟨T10, L10, k10', n10⟩, -, X10, ⟨Lc10, hQ10, l10, y10, z10⟩, st10⟩ := Jvm.LawKit.callS X6 hx (y := (⟨"java/lang/Math", "max", "(II)I"⟩ : MethodName)) hown (mvT hZ (hw _ (List.mem_of_getElem? (i := 9) rfl))) (mvT hZ (hw _ (List.mem_of_getElem? (i := 10) rfl))) (mvT hZ (hw _ (List.mem_of_getElem? (i := 11) rfl))) (mvT hZ (hw _ (List.mem_of_getElem? (i := 12) rfl))) (by decide) (backOf (W := 0) (rm_3 l Z a0 hw [] m2 pd h0 n0 Z0) hZ (hw _ (List.mem_of_getElem? (i := 12) rfl)) (hw _ (List.mem_of_getElem? (i := 11) rfl)) (by decide) (by decide)) (g := (mkF m 44 #[.val (.int (5 : Int32)), .val (.int pa), .val (.int pb), .val (.int pc), .val (.int pd), .val (.int pe), .val (.int m2)] [(.int pd), (.int m2)])) rfl (by rw [hml]; rfl) (argsL := [(.int m2), (.int pd)]) (rest := []) (lenOf pd__II_I rfl) rfl (by show 2 * 0 + _ ≤ _; exact Nat.le_of_eq rfl) (hb hby d2_44) (fun _ _ => ⟨rfl, e6, (by decide : 0 + 0 ≤ _), (by decide : 0 + 0 ≤ _)⟩)
  dsimp only [Pt.U, Pt.locs, Pt.cells, Pt.slots] at X10 l10 y10 z10 st10 hQ10
  subst l10 y10 z10
  obtain ⟨rfl, N10, e10⟩ := hQ10
  have M10 := Fr.app M6 N10
  have c11 : ∀ t, Steps p.tables e below (T10.setTop (mkF m 47 #[.val (.int (5 : Int32)), .val (.int pa), .val (.int pb), .val (.int pc), .val (.int pd), .val (.int pe), .val (.int m2)] [(.int (if m2 < pd then pd else m2))])) t → Steps p.tables e below (s₁.setTop (entryFrame m #[(.int (5 : Int32)), (.int pa), (.int pb), (.int pc), (.int pd), (.int pe)] 7)) t := fun t k => c9 t (st10 _ k)
  obtain ⟨m3, hm3⟩ : ∃ v : Int32, v = (if m2 < pd then pd else m2) := ⟨_, rfl⟩
  have c12 : ∀ t, Steps p.tables e below (T10.setTop (mkF m 49 #[.val (.int (5 : Int32)), .val (.int pa), .val (.int pb), .val (.int pc), .val (.int pd), .val (.int pe), .val (.int m3)] [])) t → Steps p.tables e below (s₁.setTop (entryFrame m #[(.int (5 : Int32)), (.int pa), (.int pb), (.int pc), (.int pd), (.int pe)] 7)) t := fun t k => c11 t (by
    rw [hm3] at k
    show Steps p.tables e below (T10.setTop (mkF m 47 #[.val (.int (5 : Int32)), .val (.int pa), .val (.int pb), .val (.int pc), .val (.int pd), .val (.int pe), .val (.int m2)] [(.int (if m2 < pd then pd else m2))])) _
    refine XS.istore X10.here hx rfl (hb hby d2_47) rfl (l' := #[.val (.int (5 : Int32)), .val (.int pa), .val (.int pb), .val (.int pc), .val (.int pd), .val (.int pe), .val (.int (if m2 < pd then pd else m2))]) rfl ?_
    show Steps p.tables e below (T10.setTop (mkF m 49 #[.val (.int (5 : Int32)), .val (.int pa), .val (.int pb), .val (.int pc), .val (.int pd), .val (.int pe), .val (.int (if m2 < pd then pd else m2))] [])) _
    exact k)
  have km3 := max_k hm3
  have c13 : ∀ t, Steps p.tables e below (T10.setTop (mkF m 58 #[.val (.int (5 : Int32)), .val (.int pa), .val (.int pb), .val (.int pc), .val (.int pd), .val (.int pe), .val (.int m3)] [(.int pe), (.int m3)])) t → Steps p.tables e below (s₁.setTop (entryFrame m #[(.int (5 : Int32)), (.int pa), (.int pb), (.int pc), (.int pd), (.int pe)] 7)) t := fun t k => c12 t (by
    show Steps p.tables e below (T10.setTop (mkF m 49 #[.val (.int (5 : Int32)), .val (.int pa), .val (.int pb), .val (.int pc), .val (.int pd), .val (.int pe), .val (.int m3)] [])) _
    refine XS.iloadN X10.here hx rfl (hb hby d2_49) rfl ?_
    show Steps p.tables e below (T10.setTop (mkF m 50 #[.val (.int (5 : Int32)), .val (.int pa), .val (.int pb), .val (.int pc), .val (.int pd), .val (.int pe), .val (.int m3)] [(.int (5 : Int32))])) _
    refine XS.iconst X10.here hx rfl (hb hby d2_50) ?_
    show Steps p.tables e below (T10.setTop (mkF m 51 #[.val (.int (5 : Int32)), .val (.int pa), .val (.int pb), .val (.int pc), .val (.int pd), .val (.int pe), .val (.int m3)] [(.int (4 : Int32)), (.int (5 : Int32))])) _
    refine XS.icmpNo X10.here hx rfl (hb hby d2_51) rfl (XT.ii_le_f (by decide)) ?_
    show Steps p.tables e below (T10.setTop (mkF m 54 #[.val (.int (5 : Int32)), .val (.int pa), .val (.int pb), .val (.int pc), .val (.int pd), .val (.int pe), .val (.int m3)] [])) _
    refine XS.iload X10.here hx rfl (hb hby d2_54) rfl ?_
    show Steps p.tables e below (T10.setTop (mkF m 56 #[.val (.int (5 : Int32)), .val (.int pa), .val (.int pb), .val (.int pc), .val (.int pd), .val (.int pe), .val (.int m3)] [(.int m3)])) _
    refine XS.iload X10.here hx rfl (hb hby d2_56) rfl ?_
    show Steps p.tables e below (T10.setTop (mkF m 58 #[.val (.int (5 : Int32)), .val (.int pa), .val (.int pb), .val (.int pc), .val (.int pd), .val (.int pe), .val (.int m3)] [(.int pe), (.int m3)])) _
    exact k)
  obtain ⟨_, _, ⟨T14, L14, k14', n14⟩, -, X14, ⟨Lc14, hQ14, l14, y14, z14⟩, st14⟩ := Jvm.LawKit.callS X10 hx (y := (⟨"java/lang/Math", "max", "(II)I"⟩ : MethodName)) hown (mvT hZ (hw _ (List.mem_of_getElem? (i := 9) rfl))) (mvT hZ (hw _ (List.mem_of_getElem? (i := 10) rfl))) (mvT hZ (hw _ (List.mem_of_getElem? (i := 11) rfl))) (mvT hZ (hw _ (List.mem_of_getElem? (i := 12) rfl))) (by decide) (backOf (W := 0) (rm_3 l Z a0 hw [] m3 pe h0 n0 Z0) hZ (hw _ (List.mem_of_getElem? (i := 12) rfl)) (hw _ (List.mem_of_getElem? (i := 11) rfl)) (by decide) (by decide)) (g := (mkF m 58 #[.val (.int (5 : Int32)), .val (.int pa), .val (.int pb), .val (.int pc), .val (.int pd), .val (.int pe), .val (.int m3)] [(.int pe), (.int m3)])) rfl (by rw [hml]; rfl) (argsL := [(.int m3), (.int pe)]) (rest := []) (lenOf pd__II_I rfl) rfl (by show 2 * 0 + _ ≤ _; exact Nat.le_of_eq rfl) (hb hby d2_58) (fun _ _ => ⟨rfl, e10, (by decide : 0 + 0 ≤ _), (by decide : 0 + 0 ≤ _)⟩)
  dsimp only [Pt.U, Pt.locs, Pt.cells, Pt.slots] at X14 l14 y14 z14 st14 hQ14
  subst l14 y14 z14
  obtain ⟨rfl, N14, e14⟩ := hQ14
  have M14 := Fr.app M10 N14
  have c15 : ∀ t, Steps p.tables e below (T14.setTop (mkF m 61 #[.val (.int (5 : Int32)), .val (.int pa), .val (.int pb), .val (.int pc), .val (.int pd), .val (.int pe), .val (.int m3)] [(.int (if m3 < pe then pe else m3))])) t → Steps p.tables e below (s₁.setTop (entryFrame m #[(.int (5 : Int32)), (.int pa), (.int pb), (.int pc), (.int pd), (.int pe)] 7)) t := fun t k => c13 t (st14 _ k)
  obtain ⟨m4, hm4⟩ : ∃ v : Int32, v = (if m3 < pe then pe else m3) := ⟨_, rfl⟩
  have c16 : ∀ t, Steps p.tables e below (T14.setTop (mkF m 63 #[.val (.int (5 : Int32)), .val (.int pa), .val (.int pb), .val (.int pc), .val (.int pd), .val (.int pe), .val (.int m4)] [])) t → Steps p.tables e below (s₁.setTop (entryFrame m #[(.int (5 : Int32)), (.int pa), (.int pb), (.int pc), (.int pd), (.int pe)] 7)) t := fun t k => c15 t (by
    rw [hm4] at k
    show Steps p.tables e below (T14.setTop (mkF m 61 #[.val (.int (5 : Int32)), .val (.int pa), .val (.int pb), .val (.int pc), .val (.int pd), .val (.int pe), .val (.int m3)] [(.int (if m3 < pe then pe else m3))])) _
    refine XS.istore X14.here hx rfl (hb hby d2_61) rfl (l' := #[.val (.int (5 : Int32)), .val (.int pa), .val (.int pb), .val (.int pc), .val (.int pd), .val (.int pe), .val (.int (if m3 < pe then pe else m3))]) rfl ?_
    show Steps p.tables e below (T14.setTop (mkF m 63 #[.val (.int (5 : Int32)), .val (.int pa), .val (.int pb), .val (.int pc), .val (.int pd), .val (.int pe), .val (.int (if m3 < pe then pe else m3))] [])) _
    exact k)
  have km4 := max_k hm4
  have c17 : ∀ t, Steps p.tables e below (T14.setTop (mkF m 66 #[.val (.int (5 : Int32)), .val (.int pa), .val (.int pb), .val (.int pc), .val (.int pd), .val (.int pe), .val (.int m4)] [(.int m4), (.int pa)])) t → Steps p.tables e below (s₁.setTop (entryFrame m #[(.int (5 : Int32)), (.int pa), (.int pb), (.int pc), (.int pd), (.int pe)] 7)) t := fun t k => c16 t (by
    show Steps p.tables e below (T14.setTop (mkF m 63 #[.val (.int (5 : Int32)), .val (.int pa), .val (.int pb), .val (.int pc), .val (.int pd), .val (.int pe), .val (.int m4)] [])) _
    refine XS.iloadN X14.here hx rfl (hb hby d2_63) rfl ?_
    show Steps p.tables e below (T14.setTop (mkF m 64 #[.val (.int (5 : Int32)), .val (.int pa), .val (.int pb), .val (.int pc), .val (.int pd), .val (.int pe), .val (.int m4)] [(.int pa)])) _
    refine XS.iload X14.here hx rfl (hb hby d2_64) rfl ?_
    show Steps p.tables e below (T14.setTop (mkF m 66 #[.val (.int (5 : Int32)), .val (.int pa), .val (.int pb), .val (.int pc), .val (.int pd), .val (.int pe), .val (.int m4)] [(.int m4), (.int pa)])) _
    exact k)
  by_cases q66 : pa = m4
  · skip
    have r66 := congrArg Int32.toInt q66
    have c18 : ∀ t, Steps p.tables e below (T14.setTop (mkF m 70 #[.val (.int (5 : Int32)), .val (.int pa), .val (.int pb), .val (.int pc), .val (.int pd), .val (.int pe), .val (.int m4)] [(.int (0 : Int32))])) t → Steps p.tables e below (s₁.setTop (entryFrame m #[(.int (5 : Int32)), (.int pa), (.int pb), (.int pc), (.int pd), (.int pe)] 7)) t := fun t k => c17 t (by
      show Steps p.tables e below (T14.setTop (mkF m 66 #[.val (.int (5 : Int32)), .val (.int pa), .val (.int pb), .val (.int pc), .val (.int pd), .val (.int pe), .val (.int m4)] [(.int m4), (.int pa)])) _
      refine XS.icmpNo X14.here hx rfl (hb hby d2_66) rfl (XT.ii_ne_f q66) ?_
      show Steps p.tables e below (T14.setTop (mkF m 69 #[.val (.int (5 : Int32)), .val (.int pa), .val (.int pb), .val (.int pc), .val (.int pd), .val (.int pe), .val (.int m4)] [])) _
      refine XS.iconst X14.here hx rfl (hb hby d2_69) ?_
      show Steps p.tables e below (T14.setTop (mkF m 70 #[.val (.int (5 : Int32)), .val (.int pa), .val (.int pb), .val (.int pc), .val (.int pd), .val (.int pe), .val (.int m4)] [(.int (0 : Int32))])) _
      exact k)
    obtain ⟨fs, hr, hrun, hended, hW, hsame⟩ := X14.leave (v := (some (.int (0 : Int32)))) (fun h => by rw [Bd.returns] at h; cases h)
    refine ⟨_, _, pre0 _ (c18 _ (retI X14 hx Bd.returns (hb hby d2_70) hr)), hrun, hended, _, _, rfl, ?_, ⟨_, rfl⟩, hW, hsame.mono (by decide) (by decide)⟩
    show Q_2_5 Z pa pb pc pd pe h0 n0 _ T14.heap _
    rw [e14]
    exact ⟨⟨0, by decide, rfl, (fun j hj => by
      match j, hj with
      | 0, _ => show pa.toInt ≤ pa.toInt; omega
      | 1, _ => show pb.toInt ≤ pa.toInt; omega
      | 2, _ => show pc.toInt ≤ pa.toInt; omega
      | 3, _ => show pd.toInt ≤ pa.toInt; omega
      | 4, _ => show pe.toInt ≤ pa.toInt; omega), (fun j hj => absurd hj (Nat.not_lt_zero j)), Or.inl (by decide)⟩, M14, rfl⟩
  · skip
    have r66 := ne_k q66
    have c19 : ∀ t, Steps p.tables e below (T14.setTop (mkF m 79 #[.val (.int (5 : Int32)), .val (.int pa), .val (.int pb), .val (.int pc), .val (.int pd), .val (.int pe), .val (.int m4)] [(.int m4), (.int pb)])) t → Steps p.tables e below (s₁.setTop (entryFrame m #[(.int (5 : Int32)), (.int pa), (.int pb), (.int pc), (.int pd), (.int pe)] 7)) t := fun t k => c17 t (by
      show Steps p.tables e below (T14.setTop (mkF m 66 #[.val (.int (5 : Int32)), .val (.int pa), .val (.int pb), .val (.int pc), .val (.int pd), .val (.int pe), .val (.int m4)] [(.int m4), (.int pa)])) _
      refine XS.icmpYes X14.here hx rfl (pc0 := 66) (pc' := 71) rfl (hb hby d2_66) rfl (XT.ii_ne_t q66) (by decide) (by decide) ?_
      show Steps p.tables e below (T14.setTop (mkF m 71 #[.val (.int (5 : Int32)), .val (.int pa), .val (.int pb), .val (.int pc), .val (.int pd), .val (.int pe), .val (.int m4)] [])) _
      refine XS.iloadN X14.here hx rfl (hb hby d2_71) rfl ?_
      show Steps p.tables e below (T14.setTop (mkF m 72 #[.val (.int (5 : Int32)), .val (.int pa), .val (.int pb), .val (.int pc), .val (.int pd), .val (.int pe), .val (.int m4)] [(.int (5 : Int32))])) _
      refine XS.iconst X14.here hx rfl (hb hby d2_72) ?_
      show Steps p.tables e below (T14.setTop (mkF m 73 #[.val (.int (5 : Int32)), .val (.int pa), .val (.int pb), .val (.int pc), .val (.int pd), .val (.int pe), .val (.int m4)] [(.int (1 : Int32)), (.int (5 : Int32))])) _
      refine XS.icmpNo X14.here hx rfl (hb hby d2_73) rfl (XT.ii_le_f (by decide)) ?_
      show Steps p.tables e below (T14.setTop (mkF m 76 #[.val (.int (5 : Int32)), .val (.int pa), .val (.int pb), .val (.int pc), .val (.int pd), .val (.int pe), .val (.int m4)] [])) _
      refine XS.iloadN X14.here hx rfl (hb hby d2_76) rfl ?_
      show Steps p.tables e below (T14.setTop (mkF m 77 #[.val (.int (5 : Int32)), .val (.int pa), .val (.int pb), .val (.int pc), .val (.int pd), .val (.int pe), .val (.int m4)] [(.int pb)])) _
      refine XS.iload X14.here hx rfl (hb hby d2_77) rfl ?_
      show Steps p.tables e below (T14.setTop (mkF m 79 #[.val (.int (5 : Int32)), .val (.int pa), .val (.int pb), .val (.int pc), .val (.int pd), .val (.int pe), .val (.int m4)] [(.int m4), (.int pb)])) _
      exact k)
    by_cases q79 : pb = m4
    · skip
      have r79 := congrArg Int32.toInt q79
      have c20 : ∀ t, Steps p.tables e below (T14.setTop (mkF m 83 #[.val (.int (5 : Int32)), .val (.int pa), .val (.int pb), .val (.int pc), .val (.int pd), .val (.int pe), .val (.int m4)] [(.int (1 : Int32))])) t → Steps p.tables e below (s₁.setTop (entryFrame m #[(.int (5 : Int32)), (.int pa), (.int pb), (.int pc), (.int pd), (.int pe)] 7)) t := fun t k => c19 t (by
        show Steps p.tables e below (T14.setTop (mkF m 79 #[.val (.int (5 : Int32)), .val (.int pa), .val (.int pb), .val (.int pc), .val (.int pd), .val (.int pe), .val (.int m4)] [(.int m4), (.int pb)])) _
        refine XS.icmpNo X14.here hx rfl (hb hby d2_79) rfl (XT.ii_ne_f q79) ?_
        show Steps p.tables e below (T14.setTop (mkF m 82 #[.val (.int (5 : Int32)), .val (.int pa), .val (.int pb), .val (.int pc), .val (.int pd), .val (.int pe), .val (.int m4)] [])) _
        refine XS.iconst X14.here hx rfl (hb hby d2_82) ?_
        show Steps p.tables e below (T14.setTop (mkF m 83 #[.val (.int (5 : Int32)), .val (.int pa), .val (.int pb), .val (.int pc), .val (.int pd), .val (.int pe), .val (.int m4)] [(.int (1 : Int32))])) _
        exact k)
      obtain ⟨fs, hr, hrun, hended, hW, hsame⟩ := X14.leave (v := (some (.int (1 : Int32)))) (fun h => by rw [Bd.returns] at h; cases h)
      refine ⟨_, _, pre0 _ (c20 _ (retI X14 hx Bd.returns (hb hby d2_83) hr)), hrun, hended, _, _, rfl, ?_, ⟨_, rfl⟩, hW, hsame.mono (by decide) (by decide)⟩
      show Q_2_5 Z pa pb pc pd pe h0 n0 _ T14.heap _
      rw [e14]
      exact ⟨⟨1, by decide, rfl, (fun j hj => by
        match j, hj with
        | 0, _ => show pa.toInt ≤ pb.toInt; omega
        | 1, _ => show pb.toInt ≤ pb.toInt; omega
        | 2, _ => show pc.toInt ≤ pb.toInt; omega
        | 3, _ => show pd.toInt ≤ pb.toInt; omega
        | 4, _ => show pe.toInt ≤ pb.toInt; omega), (fun j hj => by
        match j, hj with
        | 0, _ => show pa.toInt < pb.toInt; omega), Or.inl (by decide)⟩, M14, rfl⟩
    · skip
      have r79 := ne_k q79
      have c21 : ∀ t, Steps p.tables e below (T14.setTop (mkF m 92 #[.val (.int (5 : Int32)), .val (.int pa), .val (.int pb), .val (.int pc), .val (.int pd), .val (.int pe), .val (.int m4)] [(.int m4), (.int pc)])) t → Steps p.tables e below (s₁.setTop (entryFrame m #[(.int (5 : Int32)), (.int pa), (.int pb), (.int pc), (.int pd), (.int pe)] 7)) t := fun t k => c19 t (by
        show Steps p.tables e below (T14.setTop (mkF m 79 #[.val (.int (5 : Int32)), .val (.int pa), .val (.int pb), .val (.int pc), .val (.int pd), .val (.int pe), .val (.int m4)] [(.int m4), (.int pb)])) _
        refine XS.icmpYes X14.here hx rfl (pc0 := 79) (pc' := 84) rfl (hb hby d2_79) rfl (XT.ii_ne_t q79) (by decide) (by decide) ?_
        show Steps p.tables e below (T14.setTop (mkF m 84 #[.val (.int (5 : Int32)), .val (.int pa), .val (.int pb), .val (.int pc), .val (.int pd), .val (.int pe), .val (.int m4)] [])) _
        refine XS.iloadN X14.here hx rfl (hb hby d2_84) rfl ?_
        show Steps p.tables e below (T14.setTop (mkF m 85 #[.val (.int (5 : Int32)), .val (.int pa), .val (.int pb), .val (.int pc), .val (.int pd), .val (.int pe), .val (.int m4)] [(.int (5 : Int32))])) _
        refine XS.iconst X14.here hx rfl (hb hby d2_85) ?_
        show Steps p.tables e below (T14.setTop (mkF m 86 #[.val (.int (5 : Int32)), .val (.int pa), .val (.int pb), .val (.int pc), .val (.int pd), .val (.int pe), .val (.int m4)] [(.int (2 : Int32)), (.int (5 : Int32))])) _
        refine XS.icmpNo X14.here hx rfl (hb hby d2_86) rfl (XT.ii_le_f (by decide)) ?_
        show Steps p.tables e below (T14.setTop (mkF m 89 #[.val (.int (5 : Int32)), .val (.int pa), .val (.int pb), .val (.int pc), .val (.int pd), .val (.int pe), .val (.int m4)] [])) _
        refine XS.iloadN X14.here hx rfl (hb hby d2_89) rfl ?_
        show Steps p.tables e below (T14.setTop (mkF m 90 #[.val (.int (5 : Int32)), .val (.int pa), .val (.int pb), .val (.int pc), .val (.int pd), .val (.int pe), .val (.int m4)] [(.int pc)])) _
        refine XS.iload X14.here hx rfl (hb hby d2_90) rfl ?_
        show Steps p.tables e below (T14.setTop (mkF m 92 #[.val (.int (5 : Int32)), .val (.int pa), .val (.int pb), .val (.int pc), .val (.int pd), .val (.int pe), .val (.int m4)] [(.int m4), (.int pc)])) _
        exact k)
      by_cases q92 : pc = m4
      · skip
        have r92 := congrArg Int32.toInt q92
        have c22 : ∀ t, Steps p.tables e below (T14.setTop (mkF m 96 #[.val (.int (5 : Int32)), .val (.int pa), .val (.int pb), .val (.int pc), .val (.int pd), .val (.int pe), .val (.int m4)] [(.int (2 : Int32))])) t → Steps p.tables e below (s₁.setTop (entryFrame m #[(.int (5 : Int32)), (.int pa), (.int pb), (.int pc), (.int pd), (.int pe)] 7)) t := fun t k => c21 t (by
          show Steps p.tables e below (T14.setTop (mkF m 92 #[.val (.int (5 : Int32)), .val (.int pa), .val (.int pb), .val (.int pc), .val (.int pd), .val (.int pe), .val (.int m4)] [(.int m4), (.int pc)])) _
          refine XS.icmpNo X14.here hx rfl (hb hby d2_92) rfl (XT.ii_ne_f q92) ?_
          show Steps p.tables e below (T14.setTop (mkF m 95 #[.val (.int (5 : Int32)), .val (.int pa), .val (.int pb), .val (.int pc), .val (.int pd), .val (.int pe), .val (.int m4)] [])) _
          refine XS.iconst X14.here hx rfl (hb hby d2_95) ?_
          show Steps p.tables e below (T14.setTop (mkF m 96 #[.val (.int (5 : Int32)), .val (.int pa), .val (.int pb), .val (.int pc), .val (.int pd), .val (.int pe), .val (.int m4)] [(.int (2 : Int32))])) _
          exact k)
        obtain ⟨fs, hr, hrun, hended, hW, hsame⟩ := X14.leave (v := (some (.int (2 : Int32)))) (fun h => by rw [Bd.returns] at h; cases h)
        refine ⟨_, _, pre0 _ (c22 _ (retI X14 hx Bd.returns (hb hby d2_96) hr)), hrun, hended, _, _, rfl, ?_, ⟨_, rfl⟩, hW, hsame.mono (by decide) (by decide)⟩
        show Q_2_5 Z pa pb pc pd pe h0 n0 _ T14.heap _
        rw [e14]
        exact ⟨⟨2, by decide, rfl, (fun j hj => by
          match j, hj with
          | 0, _ => show pa.toInt ≤ pc.toInt; omega
          | 1, _ => show pb.toInt ≤ pc.toInt; omega
          | 2, _ => show pc.toInt ≤ pc.toInt; omega
          | 3, _ => show pd.toInt ≤ pc.toInt; omega
          | 4, _ => show pe.toInt ≤ pc.toInt; omega), (fun j hj => by
          match j, hj with
          | 0, _ => show pa.toInt < pc.toInt; omega
          | 1, _ => show pb.toInt < pc.toInt; omega), Or.inl (by decide)⟩, M14, rfl⟩
      · skip
        have r92 := ne_k q92
        have c23 : ∀ t, Steps p.tables e below (T14.setTop (mkF m 106 #[.val (.int (5 : Int32)), .val (.int pa), .val (.int pb), .val (.int pc), .val (.int pd), .val (.int pe), .val (.int m4)] [(.int m4), (.int pd)])) t → Steps p.tables e below (s₁.setTop (entryFrame m #[(.int (5 : Int32)), (.int pa), (.int pb), (.int pc), (.int pd), (.int pe)] 7)) t := fun t k => c21 t (by
          show Steps p.tables e below (T14.setTop (mkF m 92 #[.val (.int (5 : Int32)), .val (.int pa), .val (.int pb), .val (.int pc), .val (.int pd), .val (.int pe), .val (.int m4)] [(.int m4), (.int pc)])) _
          refine XS.icmpYes X14.here hx rfl (pc0 := 92) (pc' := 97) rfl (hb hby d2_92) rfl (XT.ii_ne_t q92) (by decide) (by decide) ?_
          show Steps p.tables e below (T14.setTop (mkF m 97 #[.val (.int (5 : Int32)), .val (.int pa), .val (.int pb), .val (.int pc), .val (.int pd), .val (.int pe), .val (.int m4)] [])) _
          refine XS.iloadN X14.here hx rfl (hb hby d2_97) rfl ?_
          show Steps p.tables e below (T14.setTop (mkF m 98 #[.val (.int (5 : Int32)), .val (.int pa), .val (.int pb), .val (.int pc), .val (.int pd), .val (.int pe), .val (.int m4)] [(.int (5 : Int32))])) _
          refine XS.iconst X14.here hx rfl (hb hby d2_98) ?_
          show Steps p.tables e below (T14.setTop (mkF m 99 #[.val (.int (5 : Int32)), .val (.int pa), .val (.int pb), .val (.int pc), .val (.int pd), .val (.int pe), .val (.int m4)] [(.int (3 : Int32)), (.int (5 : Int32))])) _
          refine XS.icmpNo X14.here hx rfl (hb hby d2_99) rfl (XT.ii_le_f (by decide)) ?_
          show Steps p.tables e below (T14.setTop (mkF m 102 #[.val (.int (5 : Int32)), .val (.int pa), .val (.int pb), .val (.int pc), .val (.int pd), .val (.int pe), .val (.int m4)] [])) _
          refine XS.iload X14.here hx rfl (hb hby d2_102) rfl ?_
          show Steps p.tables e below (T14.setTop (mkF m 104 #[.val (.int (5 : Int32)), .val (.int pa), .val (.int pb), .val (.int pc), .val (.int pd), .val (.int pe), .val (.int m4)] [(.int pd)])) _
          refine XS.iload X14.here hx rfl (hb hby d2_104) rfl ?_
          show Steps p.tables e below (T14.setTop (mkF m 106 #[.val (.int (5 : Int32)), .val (.int pa), .val (.int pb), .val (.int pc), .val (.int pd), .val (.int pe), .val (.int m4)] [(.int m4), (.int pd)])) _
          exact k)
        by_cases q106 : pd = m4
        · skip
          have r106 := congrArg Int32.toInt q106
          have c24 : ∀ t, Steps p.tables e below (T14.setTop (mkF m 110 #[.val (.int (5 : Int32)), .val (.int pa), .val (.int pb), .val (.int pc), .val (.int pd), .val (.int pe), .val (.int m4)] [(.int (3 : Int32))])) t → Steps p.tables e below (s₁.setTop (entryFrame m #[(.int (5 : Int32)), (.int pa), (.int pb), (.int pc), (.int pd), (.int pe)] 7)) t := fun t k => c23 t (by
            show Steps p.tables e below (T14.setTop (mkF m 106 #[.val (.int (5 : Int32)), .val (.int pa), .val (.int pb), .val (.int pc), .val (.int pd), .val (.int pe), .val (.int m4)] [(.int m4), (.int pd)])) _
            refine XS.icmpNo X14.here hx rfl (hb hby d2_106) rfl (XT.ii_ne_f q106) ?_
            show Steps p.tables e below (T14.setTop (mkF m 109 #[.val (.int (5 : Int32)), .val (.int pa), .val (.int pb), .val (.int pc), .val (.int pd), .val (.int pe), .val (.int m4)] [])) _
            refine XS.iconst X14.here hx rfl (hb hby d2_109) ?_
            show Steps p.tables e below (T14.setTop (mkF m 110 #[.val (.int (5 : Int32)), .val (.int pa), .val (.int pb), .val (.int pc), .val (.int pd), .val (.int pe), .val (.int m4)] [(.int (3 : Int32))])) _
            exact k)
          obtain ⟨fs, hr, hrun, hended, hW, hsame⟩ := X14.leave (v := (some (.int (3 : Int32)))) (fun h => by rw [Bd.returns] at h; cases h)
          refine ⟨_, _, pre0 _ (c24 _ (retI X14 hx Bd.returns (hb hby d2_110) hr)), hrun, hended, _, _, rfl, ?_, ⟨_, rfl⟩, hW, hsame.mono (by decide) (by decide)⟩
          show Q_2_5 Z pa pb pc pd pe h0 n0 _ T14.heap _
          rw [e14]
          exact ⟨⟨3, by decide, rfl, (fun j hj => by
            match j, hj with
            | 0, _ => show pa.toInt ≤ pd.toInt; omega
            | 1, _ => show pb.toInt ≤ pd.toInt; omega
            | 2, _ => show pc.toInt ≤ pd.toInt; omega
            | 3, _ => show pd.toInt ≤ pd.toInt; omega
            | 4, _ => show pe.toInt ≤ pd.toInt; omega), (fun j hj => by
            match j, hj with
            | 0, _ => show pa.toInt < pd.toInt; omega
            | 1, _ => show pb.toInt < pd.toInt; omega
            | 2, _ => show pc.toInt < pd.toInt; omega), Or.inl (by decide)⟩, M14, rfl⟩
        · skip
          have r106 := ne_k q106
          have c25 : ∀ t, Steps p.tables e below (T14.setTop (mkF m 112 #[.val (.int (5 : Int32)), .val (.int pa), .val (.int pb), .val (.int pc), .val (.int pd), .val (.int pe), .val (.int m4)] [(.int (4 : Int32))])) t → Steps p.tables e below (s₁.setTop (entryFrame m #[(.int (5 : Int32)), (.int pa), (.int pb), (.int pc), (.int pd), (.int pe)] 7)) t := fun t k => c23 t (by
            show Steps p.tables e below (T14.setTop (mkF m 106 #[.val (.int (5 : Int32)), .val (.int pa), .val (.int pb), .val (.int pc), .val (.int pd), .val (.int pe), .val (.int m4)] [(.int m4), (.int pd)])) _
            refine XS.icmpYes X14.here hx rfl (pc0 := 106) (pc' := 111) rfl (hb hby d2_106) rfl (XT.ii_ne_t q106) (by decide) (by decide) ?_
            show Steps p.tables e below (T14.setTop (mkF m 111 #[.val (.int (5 : Int32)), .val (.int pa), .val (.int pb), .val (.int pc), .val (.int pd), .val (.int pe), .val (.int m4)] [])) _
            refine XS.iconst X14.here hx rfl (hb hby d2_111) ?_
            show Steps p.tables e below (T14.setTop (mkF m 112 #[.val (.int (5 : Int32)), .val (.int pa), .val (.int pb), .val (.int pc), .val (.int pd), .val (.int pe), .val (.int m4)] [(.int (4 : Int32))])) _
            exact k)
          obtain ⟨fs, hr, hrun, hended, hW, hsame⟩ := X14.leave (v := (some (.int (4 : Int32)))) (fun h => by rw [Bd.returns] at h; cases h)
          refine ⟨_, _, pre0 _ (c25 _ (retI X14 hx Bd.returns (hb hby d2_112) hr)), hrun, hended, _, _, rfl, ?_, ⟨_, rfl⟩, hW, hsame.mono (by decide) (by decide)⟩
          show Q_2_5 Z pa pb pc pd pe h0 n0 _ T14.heap _
          rw [e14]
          exact ⟨⟨4, by decide, rfl, (fun j hj => by
            match j, hj with
            | 0, _ => show pa.toInt ≤ pe.toInt; omega
            | 1, _ => show pb.toInt ≤ pe.toInt; omega
            | 2, _ => show pc.toInt ≤ pe.toInt; omega
            | 3, _ => show pd.toInt ≤ pe.toInt; omega
            | 4, _ => show pe.toInt ≤ pe.toInt; omega), (fun j hj => by
            match j, hj with
            | 0, _ => show pa.toInt < pe.toInt; omega
            | 1, _ => show pb.toInt < pe.toInt; omega
            | 2, _ => show pc.toInt < pe.toInt; omega
            | 3, _ => show pd.toInt < pe.toInt; omega), Or.inl (by decide)⟩, M14, rfl⟩
theorem d1_0 : decode prog_33_method_2_code 0 = .ok (.iconst 0, 1) := by decide +kernel
theorem d1_1 : decode prog_33_method_2_code 1 = .ok (.istore_n 1, 1) := by decide +kernel
theorem d1_2 : decode prog_33_method_2_code 2 = .ok (.iconst 1, 1) := by decide +kernel
theorem d1_3 : decode prog_33_method_2_code 3 = .ok (.istore_n 2, 1) := by decide +kernel
theorem d1_4 : decode prog_33_method_2_code 4 = .ok (.iload_n 2, 1) := by decide +kernel
theorem d1_5 : decode prog_33_method_2_code 5 = .ok (.aload_n 0, 1) := by decide +kernel
theorem d1_6 : decode prog_33_method_2_code 6 = .ok (.arraylength, 1) := by decide +kernel
theorem d1_7 : decode prog_33_method_2_code 7 = .ok (.if_icmp .ge 21, 3) := by decide +kernel
theorem d1_10 : decode prog_33_method_2_code 10 = .ok (.aload_n 0, 1) := by decide +kernel
theorem d1_11 : decode prog_33_method_2_code 11 = .ok (.iload_n 2, 1) := by decide +kernel
theorem d1_12 : decode prog_33_method_2_code 12 = .ok (.daload, 1) := by decide +kernel
theorem d1_13 : decode prog_33_method_2_code 13 = .ok (.aload_n 0, 1) := by decide +kernel
theorem d1_14 : decode prog_33_method_2_code 14 = .ok (.iload_n 1, 1) := by decide +kernel
theorem d1_15 : decode prog_33_method_2_code 15 = .ok (.daload, 1) := by decide +kernel
theorem d1_16 : decode prog_33_method_2_code 16 = .ok (.dcmp .l, 1) := by decide +kernel
theorem d1_17 : decode prog_33_method_2_code 17 = .ok (.ifCond .le 5, 3) := by decide +kernel
theorem d1_20 : decode prog_33_method_2_code 20 = .ok (.iload_n 2, 1) := by decide +kernel
theorem d1_21 : decode prog_33_method_2_code 21 = .ok (.istore_n 1, 1) := by decide +kernel
theorem d1_22 : decode prog_33_method_2_code 22 = .ok (.iinc 2 1, 3) := by decide +kernel
theorem d1_25 : decode prog_33_method_2_code 25 = .ok (.goto (-21), 3) := by decide +kernel
theorem d1_28 : decode prog_33_method_2_code 28 = .ok (.iload_n 1, 1) := by decide +kernel
theorem d1_29 : decode prog_33_method_2_code 29 = .ok (.ireturn, 1) := by decide +kernel
theorem ef_1 (m : MethodId) (ar : Addr) (pn : Int32) (xs : Nat → UInt64) (n : Nat) : entryFrame m #[(.ref ar)] 3 = (mkF m 0 #[.val (.ref ar), .unset, .unset] []) := by first | (simp [entryFrame, mkF, argsToLocals, Value.category]; done) | rfl
def Q_1 (Z : State) (ar : Addr) (pn : Int32) (xs : Nat → UInt64) (n : Nat) (h0 : Heap) (n0 : Nat) (v : Option Value) (h : Heap) (L : List Loc) : Prop := (∃ i : Nat, i ≤ n ∧ v = some (.int (Int32.ofNat i)) ∧ Best (fun j => zv (xs j)) n i) ∧ Fr n0 L ∧ h = h0
set_option maxRecDepth 65536 in
set_option maxHeartbeats 2000000 in
theorem rm_1 (l : Launch) (Z : State) (a0 : Array Value) (hw : ∀ d ∈ tables_1, d.before a0 Z = true) (ws : List Jvm.Cond) (ar : Addr) (pn : Int32) (xs : Nat → UInt64) (n : Nat) (h0 : Heap) (n0 : Nat) (Z0 : n0 ≤ h0.size) (A_0 : OwnArr.Ag Z h0 ar .double n (fun i => .double (xs i))) (hn : pn.toInt = (n : Int)) (fin_ : ∀ i, i < n → Core.DFin (xs i)) :
    MetFree l (⟨"com/example/streamgrove/streamgrove/learners/ClassScores", "highest", "([D)I"⟩ : MethodName) (head1 (Jvm.Cond.code (⟨"com/example/streamgrove/streamgrove/learners/ClassScores", "highest", "([D)I"⟩ : MethodName) prog_33_method_2_code 3 (some .int) :: ws) ({ frames := 0, cells := 0, slots := 0, locals := 0 } : Room)) (fun aa UU => aa = #[(.ref ar)] ∧ Z.Warmed39 UU.vm ∧ UU.heap = h0) (fun _ _ _ _ _ => True) (fun _ UU oo UU' => ∃ v L, oo = .returned v ∧ Q_1 Z ar pn xs n h0 n0 v UU'.heap L ∧ FrameEnd UU oo UU' L ({ frames := 0, cells := 0, slots := 0, locals := 0 } : Room).cells ({ frames := 0, cells := 0, slots := 0, locals := 0 } : Room).slots) := by
  refine MetFree.of_bodySF (plainFor_of_name pn_com_example_streamgrove_streamgrove_learners_ClassScores) hisR ?_
  intro p e s m args below meth c s₁ Bd hml0 hP hK
  obtain ⟨rfl, hZ, hh⟩ := hP
  have hx := Bd.exec
  have hby := Bd.bytes
  have hml : c.maxLocals = 3 := hml0
  have hown : s.vm.findClass "com/example/streamgrove/streamgrove/learners/ClassScores" = some m.cls := findClass_of_methodNamed Bd.named
  have hnaM := (name_of_methodNamed Bd.named Bd.method).1
  have X0 : Stand p l e ({ frames := 0, cells := 0, slots := 0, locals := 0 } : Room) s m #[(.ref ar)] below meth c s₁ [] 0 0 := Stand.of_body Bd
  have e0 : s₁.heap = h0 := by rw [← hh, Bd.state]; rfl
  have N0 := Fr.nil n0
  have pre0 : ∀ t, Steps p.tables e below (s₁.setTop (entryFrame m #[(.ref ar)] 3)) t → Steps p.tables e below (s₁.setTop (entryFrame m #[(.ref ar)] 3)) t := fun t k => k
  have c0 : ∀ t, Steps p.tables e below (s₁.setTop (mkF m 0 #[.val (.ref ar), .unset, .unset] [])) t → Steps p.tables e below (s₁.setTop (entryFrame m #[(.ref ar)] 3)) t := fun t k => castTop (ef_1 m ar pn xs n) k
  have c1 : ∀ t, Steps p.tables e below (s₁.setTop (mkF m 4 #[.val (.ref ar), .val (.int (0 : Int32)), .val (.int (1 : Int32))] [])) t → Steps p.tables e below (s₁.setTop (entryFrame m #[(.ref ar)] 3)) t := fun t k => c0 t (by
    show Steps p.tables e below (s₁.setTop (mkF m 0 #[.val (.ref ar), .unset, .unset] [])) _
    refine XS.iconst X0.here hx rfl (hb hby d1_0) ?_
    show Steps p.tables e below (s₁.setTop (mkF m 1 #[.val (.ref ar), .unset, .unset] [(.int (0 : Int32))])) _
    refine XS.istoreN X0.here hx rfl (hb hby d1_1) rfl (l' := #[.val (.ref ar), .val (.int (0 : Int32)), .unset]) rfl ?_
    show Steps p.tables e below (s₁.setTop (mkF m 2 #[.val (.ref ar), .val (.int (0 : Int32)), .unset] [])) _
    refine XS.iconst X0.here hx rfl (hb hby d1_2) ?_
    show Steps p.tables e below (s₁.setTop (mkF m 3 #[.val (.ref ar), .val (.int (0 : Int32)), .unset] [(.int (1 : Int32))])) _
    refine XS.istoreN X0.here hx rfl (hb hby d1_3) rfl (l' := #[.val (.ref ar), .val (.int (0 : Int32)), .val (.int (1 : Int32))]) rfl ?_
    show Steps p.tables e below (s₁.setTop (mkF m 4 #[.val (.ref ar), .val (.int (0 : Int32)), .val (.int (1 : Int32))] [])) _
    exact k)
  have nlt := Int32.toInt_lt pn
  have LP : ∀ i : Nat, (i + 1 ≤ n ∨ i = 0) → ∃ (bx cx : Int32) (b : Nat), b ≤ i ∧ bx = Int32.ofNat b ∧ bx.toInt = (b : Int) ∧ cx.toInt = (i : Int) + 1 ∧ (∀ j, j < i + 1 → j < n → zv (xs j) ≤ zv (xs b)) ∧ (∀ j, j < b → zv (xs j) < zv (xs b)) ∧ ∀ t, Steps p.tables e below (s₁.setTop (mkF m 4 #[.val (.ref ar), .val (.int bx), .val (.int cx)] [])) t → Steps p.tables e below (s₁.setTop (entryFrame m #[(.ref ar)] 3)) t := by
    intro i
    induction i with
    | zero => exact fun _ => ⟨0, 1, 0, Nat.le_refl _, rfl, by decide, by decide, fun j hj _ => by rw [show j = 0 by omega]; exact Int.le_refl _, fun j hj => absurd hj (Nat.not_lt_zero j), c1⟩
    | succ i ih =>
      intro hi
      obtain ⟨bx, cx, b, b1, b2, b3, b4, b5, b6, cy⟩ := ih (by omega)
      have in1 : i + 1 < n := by omega
      have o1 : (cx + (1 : Int32)).toInt = ((i + 1 : Nat) : Int) + 1 := by
        have q : (1 : Int32).toInt = 1 := by decide
        rw [Kit.i32_add (by omega) (by omega)]; omega
      have cm := cmpV_of (notNan (fin_ (i + 1) (by omega))) (notNan (fin_ b (by omega))) .l
      by_cases qq : zv (xs b) < zv (xs (i + 1))
      · skip
        obtain ⟨k16, hk16⟩ : ∃ v : Int32, cmpValue (FP.dcmp (xs (i + 1)) (xs b)) .l = v := ⟨_, rfl⟩
        have e16 : k16 = 1 := by rw [← hk16, cm, if_neg (by omega), if_neg (by omega)]
        have c2 : ∀ t, Steps p.tables e below (s₁.setTop (mkF m 4 #[.val (.ref ar), .val (.int cx), .val (.int (cx + (1 : Int32)))] [])) t → Steps p.tables e below (s₁.setTop (entryFrame m #[(.ref ar)] 3)) t := fun t k => cy t (by
          show Steps p.tables e below (s₁.setTop (mkF m 4 #[.val (.ref ar), .val (.int bx), .val (.int cx)] [])) _
          refine XS.iloadN X0.here hx rfl (hb hby d1_4) rfl ?_
          show Steps p.tables e below (s₁.setTop (mkF m 5 #[.val (.ref ar), .val (.int bx), .val (.int cx)] [(.int cx)])) _
          refine XS.aloadN X0.here hx rfl (hb hby d1_5) rfl rfl ?_
          show Steps p.tables e below (s₁.setTop (mkF m 6 #[.val (.ref ar), .val (.int bx), .val (.int cx)] [(.ref ar), (.int cx)])) _
          refine OwnArr.lenA X0 hx hZ e0 A_0 (z := pn) hn (g := (mkF m 6 #[.val (.ref ar), .val (.int bx), .val (.int cx)] [(.ref ar), (.int cx)])) rfl rfl (hb hby d1_6) ?_
          show Steps p.tables e below (s₁.setTop (mkF m 7 #[.val (.ref ar), .val (.int bx), .val (.int cx)] [(.int pn), (.int cx)])) _
          refine XS.icmpNo X0.here hx rfl (hb hby d1_7) rfl (XT.ii_ge_f (by rw [Int32.lt_iff_toInt_lt, b4, hn]; omega)) ?_
          show Steps p.tables e below (s₁.setTop (mkF m 10 #[.val (.ref ar), .val (.int bx), .val (.int cx)] [])) _
          refine XS.aloadN X0.here hx rfl (hb hby d1_10) rfl rfl ?_
          show Steps p.tables e below (s₁.setTop (mkF m 11 #[.val (.ref ar), .val (.int bx), .val (.int cx)] [(.ref ar)])) _
          refine XS.iloadN X0.here hx rfl (hb hby d1_11) rfl ?_
          show Steps p.tables e below (s₁.setTop (mkF m 12 #[.val (.ref ar), .val (.int bx), .val (.int cx)] [(.int cx), (.ref ar)])) _
          refine OwnArr.ldD X0 hx hZ e0 A_0 (j := cx) (J := (i + 1)) (by rw [b4]; omega) (by omega) (x := (xs (i + 1))) rfl (g := (mkF m 12 #[.val (.ref ar), .val (.int bx), .val (.int cx)] [(.int cx), (.ref ar)])) rfl rfl (hb hby d1_12) ?_
          show Steps p.tables e below (s₁.setTop (mkF m 13 #[.val (.ref ar), .val (.int bx), .val (.int cx)] [(.double (xs (i + 1)))])) _
          refine XS.aloadN X0.here hx rfl (hb hby d1_13) rfl rfl ?_
          show Steps p.tables e below (s₁.setTop (mkF m 14 #[.val (.ref ar), .val (.int bx), .val (.int cx)] [(.ref ar), (.double (xs (i + 1)))])) _
          refine XS.iloadN X0.here hx rfl (hb hby d1_14) rfl ?_
          show Steps p.tables e below (s₁.setTop (mkF m 15 #[.val (.ref ar), .val (.int bx), .val (.int cx)] [(.int bx), (.ref ar), (.double (xs (i + 1)))])) _
          refine OwnArr.ldD X0 hx hZ e0 A_0 (j := bx) (J := b) b3 (by omega) (x := (xs b)) rfl (g := (mkF m 15 #[.val (.ref ar), .val (.int bx), .val (.int cx)] [(.int bx), (.ref ar), (.double (xs (i + 1)))])) rfl rfl (hb hby d1_15) ?_
          show Steps p.tables e below (s₁.setTop (mkF m 16 #[.val (.ref ar), .val (.int bx), .val (.int cx)] [(.double (xs b)), (.double (xs (i + 1)))])) _
          refine XS.dcmpS X0.here hx rfl (hb hby d1_16) rfl hk16 ?_
          show Steps p.tables e below (s₁.setTop (mkF m 17 #[.val (.ref ar), .val (.int bx), .val (.int cx)] [(.int k16)])) _
          refine XS.ifNo X0.here hx rfl (hb hby d1_17) rfl (XT.i0_le_f (by rw [e16]; decide)) ?_
          show Steps p.tables e below (s₁.setTop (mkF m 20 #[.val (.ref ar), .val (.int bx), .val (.int cx)] [])) _
          refine XS.iloadN X0.here hx rfl (hb hby d1_20) rfl ?_
          show Steps p.tables e below (s₁.setTop (mkF m 21 #[.val (.ref ar), .val (.int bx), .val (.int cx)] [(.int cx)])) _
          refine XS.istoreN X0.here hx rfl (hb hby d1_21) rfl (l' := #[.val (.ref ar), .val (.int cx), .val (.int cx)]) rfl ?_
          show Steps p.tables e below (s₁.setTop (mkF m 22 #[.val (.ref ar), .val (.int cx), .val (.int cx)] [])) _
          refine XS.iinc X0.here hx rfl (hb hby d1_22) rfl (l' := #[.val (.ref ar), .val (.int cx), .val (.int (cx + (1 : Int32)))]) rfl ?_
          show Steps p.tables e below (s₁.setTop (mkF m 25 #[.val (.ref ar), .val (.int cx), .val (.int (cx + (1 : Int32)))] [])) _
          refine XS.goto X0.here hx rfl (pc0 := 25) (pc' := 4) rfl (hb hby d1_25) (by decide) (by decide) ?_
          show Steps p.tables e below (s₁.setTop (mkF m 4 #[.val (.ref ar), .val (.int cx), .val (.int (cx + (1 : Int32)))] [])) _
          exact k)
        exact ⟨cx, _, i + 1, Nat.le_refl _, (by apply Int32.toInt_inj.mp; rw [Int32.toInt_ofNat_small (by omega)]; omega), by omega, o1, fun j hj hj2 => by
          by_cases q : j = i + 1
          · rw [q]; exact Int.le_refl _
          · have := b5 j (by omega) hj2; omega, fun j hj => by have := b5 j hj (by omega); omega, c2⟩
      · skip
        obtain ⟨k16, hk16⟩ : ∃ v : Int32, cmpValue (FP.dcmp (xs (i + 1)) (xs b)) .l = v := ⟨_, rfl⟩
        have e16 : ¬ 0 < k16 := by
          rw [← hk16, cm]; split
          · decide
          · split
            · decide
            · omega
        have c3 : ∀ t, Steps p.tables e below (s₁.setTop (mkF m 4 #[.val (.ref ar), .val (.int bx), .val (.int (cx + (1 : Int32)))] [])) t → Steps p.tables e below (s₁.setTop (entryFrame m #[(.ref ar)] 3)) t := fun t k => cy t (by
          show Steps p.tables e below (s₁.setTop (mkF m 4 #[.val (.ref ar), .val (.int bx), .val (.int cx)] [])) _
          refine XS.iloadN X0.here hx rfl (hb hby d1_4) rfl ?_
          show Steps p.tables e below (s₁.setTop (mkF m 5 #[.val (.ref ar), .val (.int bx), .val (.int cx)] [(.int cx)])) _
          refine XS.aloadN X0.here hx rfl (hb hby d1_5) rfl rfl ?_
          show Steps p.tables e below (s₁.setTop (mkF m 6 #[.val (.ref ar), .val (.int bx), .val (.int cx)] [(.ref ar), (.int cx)])) _
          refine OwnArr.lenA X0 hx hZ e0 A_0 (z := pn) hn (g := (mkF m 6 #[.val (.ref ar), .val (.int bx), .val (.int cx)] [(.ref ar), (.int cx)])) rfl rfl (hb hby d1_6) ?_
          show Steps p.tables e below (s₁.setTop (mkF m 7 #[.val (.ref ar), .val (.int bx), .val (.int cx)] [(.int pn), (.int cx)])) _
          refine XS.icmpNo X0.here hx rfl (hb hby d1_7) rfl (XT.ii_ge_f (by rw [Int32.lt_iff_toInt_lt, b4, hn]; omega)) ?_
          show Steps p.tables e below (s₁.setTop (mkF m 10 #[.val (.ref ar), .val (.int bx), .val (.int cx)] [])) _
          refine XS.aloadN X0.here hx rfl (hb hby d1_10) rfl rfl ?_
          show Steps p.tables e below (s₁.setTop (mkF m 11 #[.val (.ref ar), .val (.int bx), .val (.int cx)] [(.ref ar)])) _
          refine XS.iloadN X0.here hx rfl (hb hby d1_11) rfl ?_
          show Steps p.tables e below (s₁.setTop (mkF m 12 #[.val (.ref ar), .val (.int bx), .val (.int cx)] [(.int cx), (.ref ar)])) _
          refine OwnArr.ldD X0 hx hZ e0 A_0 (j := cx) (J := (i + 1)) (by rw [b4]; omega) (by omega) (x := (xs (i + 1))) rfl (g := (mkF m 12 #[.val (.ref ar), .val (.int bx), .val (.int cx)] [(.int cx), (.ref ar)])) rfl rfl (hb hby d1_12) ?_
          show Steps p.tables e below (s₁.setTop (mkF m 13 #[.val (.ref ar), .val (.int bx), .val (.int cx)] [(.double (xs (i + 1)))])) _
          refine XS.aloadN X0.here hx rfl (hb hby d1_13) rfl rfl ?_
          show Steps p.tables e below (s₁.setTop (mkF m 14 #[.val (.ref ar), .val (.int bx), .val (.int cx)] [(.ref ar), (.double (xs (i + 1)))])) _
          refine XS.iloadN X0.here hx rfl (hb hby d1_14) rfl ?_
          show Steps p.tables e below (s₁.setTop (mkF m 15 #[.val (.ref ar), .val (.int bx), .val (.int cx)] [(.int bx), (.ref ar), (.double (xs (i + 1)))])) _
          refine OwnArr.ldD X0 hx hZ e0 A_0 (j := bx) (J := b) b3 (by omega) (x := (xs b)) rfl (g := (mkF m 15 #[.val (.ref ar), .val (.int bx), .val (.int cx)] [(.int bx), (.ref ar), (.double (xs (i + 1)))])) rfl rfl (hb hby d1_15) ?_
          show Steps p.tables e below (s₁.setTop (mkF m 16 #[.val (.ref ar), .val (.int bx), .val (.int cx)] [(.double (xs b)), (.double (xs (i + 1)))])) _
          refine XS.dcmpS X0.here hx rfl (hb hby d1_16) rfl hk16 ?_
          show Steps p.tables e below (s₁.setTop (mkF m 17 #[.val (.ref ar), .val (.int bx), .val (.int cx)] [(.int k16)])) _
          refine XS.ifYes X0.here hx rfl (pc0 := 17) (pc' := 22) rfl (hb hby d1_17) rfl (XT.i0_le_t e16) (by decide) (by decide) ?_
          show Steps p.tables e below (s₁.setTop (mkF m 22 #[.val (.ref ar), .val (.int bx), .val (.int cx)] [])) _
          refine XS.iinc X0.here hx rfl (hb hby d1_22) rfl (l' := #[.val (.ref ar), .val (.int bx), .val (.int (cx + (1 : Int32)))]) rfl ?_
          show Steps p.tables e below (s₁.setTop (mkF m 25 #[.val (.ref ar), .val (.int bx), .val (.int (cx + (1 : Int32)))] [])) _
          refine XS.goto X0.here hx rfl (pc0 := 25) (pc' := 4) rfl (hb hby d1_25) (by decide) (by decide) ?_
          show Steps p.tables e below (s₁.setTop (mkF m 4 #[.val (.ref ar), .val (.int bx), .val (.int (cx + (1 : Int32)))] [])) _
          exact k)
        exact ⟨bx, _, b, by omega, b2, b3, o1, fun j hj hj2 => by
          by_cases q : j = i + 1
          · rw [q]; omega
          · exact b5 j (by omega) hj2, b6, c3⟩
  obtain ⟨bx, cx, b, b1, b2, b3, b4, b5, b6, cy⟩ := LP (n - 1) (by omega)
  have c4 : ∀ t, Steps p.tables e below (s₁.setTop (mkF m 29 #[.val (.ref ar), .val (.int bx), .val (.int cx)] [(.int bx)])) t → Steps p.tables e below (s₁.setTop (entryFrame m #[(.ref ar)] 3)) t := fun t k => cy t (by
    show Steps p.tables e below (s₁.setTop (mkF m 4 #[.val (.ref ar), .val (.int bx), .val (.int cx)] [])) _
    refine XS.iloadN X0.here hx rfl (hb hby d1_4) rfl ?_
    show Steps p.tables e below (s₁.setTop (mkF m 5 #[.val (.ref ar), .val (.int bx), .val (.int cx)] [(.int cx)])) _
    refine XS.aloadN X0.here hx rfl (hb hby d1_5) rfl rfl ?_
    show Steps p.tables e below (s₁.setTop (mkF m 6 #[.val (.ref ar), .val (.int bx), .val (.int cx)] [(.ref ar), (.int cx)])) _
    refine OwnArr.lenA X0 hx hZ e0 A_0 (z := pn) hn (g := (mkF m 6 #[.val (.ref ar), .val (.int bx), .val (.int cx)] [(.ref ar), (.int cx)])) rfl rfl (hb hby d1_6) ?_
    show Steps p.tables e below (s₁.setTop (mkF m 7 #[.val (.ref ar), .val (.int bx), .val (.int cx)] [(.int pn), (.int cx)])) _
    refine XS.icmpYes X0.here hx rfl (pc0 := 7) (pc' := 28) rfl (hb hby d1_7) rfl (XT.ii_ge_t (by rw [Int32.lt_iff_toInt_lt, b4, hn]; omega)) (by decide) (by decide) ?_
    show Steps p.tables e below (s₁.setTop (mkF m 28 #[.val (.ref ar), .val (.int bx), .val (.int cx)] [])) _
    refine XS.iloadN X0.here hx rfl (hb hby d1_28) rfl ?_
    show Steps p.tables e below (s₁.setTop (mkF m 29 #[.val (.ref ar), .val (.int bx), .val (.int cx)] [(.int bx)])) _
    exact k)
  obtain ⟨fs, hr, hrun, hended, hW, hsame⟩ := X0.leave (v := (some (.int bx))) (fun h => by rw [Bd.returns] at h; cases h)
  refine ⟨_, _, pre0 _ (c4 _ (retI X0 hx Bd.returns (hb hby d1_29) hr)), hrun, hended, _, _, rfl, ?_, ⟨_, rfl⟩, hW, hsame.mono (by decide) (by decide)⟩
  show Q_1 Z ar pn xs n h0 n0 _ s₁.heap _
  rw [e0]
  exact ⟨⟨b, by omega, by rw [b2], fun j hj => b5 j (by omega) hj, b6, by omega⟩, N0, rfl⟩
theorem n_k (x : Int32) : (x &&& (7 : Int32)) % (6 : Int32) = 0 ∨ (x &&& (7 : Int32)) % (6 : Int32) = 1 ∨ (x &&& (7 : Int32)) % (6 : Int32) = 2 ∨ (x &&& (7 : Int32)) % (6 : Int32) = 3 ∨ (x &&& (7 : Int32)) % (6 : Int32) = 4 ∨ (x &&& (7 : Int32)) % (6 : Int32) = 5 := by
  have h1 := Kit.i32_mask x 7 (k := 3) (by decide) (by decide)
  have h2 := Kit.i32_rem_nonneg (x := x &&& (7 : Int32)) (y := 6) (by omega)
  rw [show (6 : Int32).toInt = 6 by decide] at h2
  have e : ∀ {a b : Int32}, a = b ↔ a.toInt = b.toInt := fun {a b} => Int32.toInt_inj.symm
  rw [e, e, e, e, e, e, h2, show (0 : Int32).toInt = 0 by decide, show (1 : Int32).toInt = 1 by decide, show (2 : Int32).toInt = 2 by decide, show (3 : Int32).toInt = 3 by decide, show (4 : Int32).toInt = 4 by decide, show (5 : Int32).toInt = 5 by decide]
  omega
theorem ef_0 (m : MethodId) (pl : Int32) (pa : Int32) (pb : Int32) (pc : Int32) (pd : Int32) (pe : Int32) : entryFrame m #[(.int pl), (.int pa), (.int pb), (.int pc), (.int pd), (.int pe)] maxLocals = (mkF m 0 #[.val (.int pl), .val (.int pa), .val (.int pb), .val (.int pc), .val (.int pd), .val (.int pe), .unset, .unset, .unset] []) := by first | (simp [entryFrame, mkF, argsToLocals, Value.category, maxLocals]; done) | rfl
def Q_0 (Z : State) (pl : Int32) (pa : Int32) (pb : Int32) (pc : Int32) (pd : Int32) (pe : Int32) (h0 : Heap) (n0 : Nat) (v : Option Value) (h : Heap) (L : List Loc) : Prop := v = some (.int 1) ∧ Fr n0 L
set_option maxRecDepth 65536 in
set_option maxHeartbeats 2000000 in
theorem rm_0 (l : Launch) (Z : State) (a0 : Array Value) (hw : ∀ d ∈ tables_1, d.before a0 Z = true) (ws : List Jvm.Cond) (pl : Int32) (pa : Int32) (pb : Int32) (pc : Int32) (pd : Int32) (pe : Int32) (h0 : Heap) (n0 : Nat) (Z0 : n0 ≤ h0.size)  :
    MetFree l x (head1 (Jvm.Cond.code x code maxLocals ret :: ws) room_1) (fun aa UU => aa = #[(.int pl), (.int pa), (.int pb), (.int pc), (.int pd), (.int pe)] ∧ Z.Warmed39 UU.vm ∧ UU.heap = h0) (fun _ _ _ _ _ => True) (fun _ UU oo UU' => ∃ v L, oo = .returned v ∧ Q_0 Z pl pa pb pc pd pe h0 n0 v UU'.heap L ∧ FrameEnd UU oo UU' L 16 128) := by
  refine MetFree.of_bodySF (plainFor_of_name pn_com_example_streamgrove_streamgrove_learners_ClassScoresHighestPinLaw) hisR ?_
  intro p e s m args below meth c s₁ Bd hml0 hP hK
  obtain ⟨rfl, hZ, hh⟩ := hP
  have hx := Bd.exec
  have hby := Bd.bytes
  have hml : c.maxLocals = 9 := hml0
  have hown : s.vm.findClass "com/example/streamgrove/streamgrove/learners/ClassScoresHighestPinLaw" = some m.cls := findClass_of_methodNamed Bd.named
  have hnaM := (name_of_methodNamed Bd.named Bd.method).1
  have X0 : Stand p l e room_1 s m #[(.int pl), (.int pa), (.int pb), (.int pc), (.int pd), (.int pe)] below meth c s₁ [] 0 0 := Stand.of_body Bd
  have e0 : s₁.heap = h0 := by rw [← hh, Bd.state]; rfl
  have N0 := Fr.nil n0
  have pre0 : ∀ t, Steps p.tables e below (s₁.setTop (entryFrame m #[(.int pl), (.int pa), (.int pb), (.int pc), (.int pd), (.int pe)] maxLocals)) t → Steps p.tables e below (s₁.setTop (entryFrame m #[(.int pl), (.int pa), (.int pb), (.int pc), (.int pd), (.int pe)] maxLocals)) t := fun t k => k
  have c0 : ∀ t, Steps p.tables e below (s₁.setTop (mkF m 0 #[.val (.int pl), .val (.int pa), .val (.int pb), .val (.int pc), .val (.int pd), .val (.int pe), .unset, .unset, .unset] [])) t → Steps p.tables e below (s₁.setTop (entryFrame m #[(.int pl), (.int pa), (.int pb), (.int pc), (.int pd), (.int pe)] maxLocals)) t := fun t k => castTop (ef_0 m pl pa pb pc pd pe) k
  obtain ⟨nn, hnn⟩ : ∃ v : Int32, v = ((pl &&& (7 : Int32)) % (6 : Int32)) := ⟨_, rfl⟩
  have c1 : ∀ t, Steps p.tables e below (s₁.setTop (mkF m 9 #[.val (.int pl), .val (.int pa), .val (.int pb), .val (.int pc), .val (.int pd), .val (.int pe), .val (.int nn), .unset, .unset] [])) t → Steps p.tables e below (s₁.setTop (entryFrame m #[(.int pl), (.int pa), (.int pb), (.int pc), (.int pd), (.int pe)] maxLocals)) t := fun t k => c0 t (by
    rw [hnn] at k
    show Steps p.tables e below (s₁.setTop (mkF m 0 #[.val (.int pl), .val (.int pa), .val (.int pb), .val (.int pc), .val (.int pd), .val (.int pe), .unset, .unset, .unset] [])) _
    refine XS.iloadN X0.here hx rfl (hb hby at_0) rfl ?_
    show Steps p.tables e below (s₁.setTop (mkF m 1 #[.val (.int pl), .val (.int pa), .val (.int pb), .val (.int pc), .val (.int pd), .val (.int pe), .unset, .unset, .unset] [(.int pl)])) _
    refine XS.bipush X0.here hx rfl (hb hby at_1) ?_
    show Steps p.tables e below (s₁.setTop (mkF m 3 #[.val (.int pl), .val (.int pa), .val (.int pb), .val (.int pc), .val (.int pd), .val (.int pe), .unset, .unset, .unset] [(.int (7 : Int32)), (.int pl)])) _
    refine XS.iand X0.here hx rfl (hb hby at_3) rfl ?_
    show Steps p.tables e below (s₁.setTop (mkF m 4 #[.val (.int pl), .val (.int pa), .val (.int pb), .val (.int pc), .val (.int pd), .val (.int pe), .unset, .unset, .unset] [(.int (pl &&& (7 : Int32)))])) _
    refine XS.bipush X0.here hx rfl (hb hby at_4) ?_
    show Steps p.tables e below (s₁.setTop (mkF m 6 #[.val (.int pl), .val (.int pa), .val (.int pb), .val (.int pc), .val (.int pd), .val (.int pe), .unset, .unset, .unset] [(.int (6 : Int32)), (.int (pl &&& (7 : Int32)))])) _
    refine iremM X0 hx rfl (hb hby at_6) rfl (by decide) ?_
    show Steps p.tables e below (s₁.setTop (mkF m 7 #[.val (.int pl), .val (.int pa), .val (.int pb), .val (.int pc), .val (.int pd), .val (.int pe), .unset, .unset, .unset] [(.int ((pl &&& (7 : Int32)) % (6 : Int32)))])) _
    refine XS.istore X0.here hx rfl (hb hby at_7) rfl (l' := #[.val (.int pl), .val (.int pa), .val (.int pb), .val (.int pc), .val (.int pd), .val (.int pe), .val (.int ((pl &&& (7 : Int32)) % (6 : Int32))), .unset, .unset]) rfl ?_
    show Steps p.tables e below (s₁.setTop (mkF m 9 #[.val (.int pl), .val (.int pa), .val (.int pb), .val (.int pc), .val (.int pd), .val (.int pe), .val (.int ((pl &&& (7 : Int32)) % (6 : Int32))), .unset, .unset] [])) _
    exact k)
  have nk := n_k pl
  rw [← hnn] at nk
  rcases nk with nk | nk | nk | nk | nk | nk
  · rw [nk] at c1
    have c2 : ∀ t, Steps p.tables e below (s₁.setTop (mkF m 11 #[.val (.int pl), .val (.int pa), .val (.int pb), .val (.int pc), .val (.int pd), .val (.int pe), .val (.int (0 : Int32)), .unset, .unset] [(.int (0 : Int32))])) t → Steps p.tables e below (s₁.setTop (entryFrame m #[(.int pl), (.int pa), (.int pb), (.int pc), (.int pd), (.int pe)] maxLocals)) t := fun t k => c1 t (by
      show Steps p.tables e below (s₁.setTop (mkF m 9 #[.val (.int pl), .val (.int pa), .val (.int pb), .val (.int pc), .val (.int pd), .val (.int pe), .val (.int (0 : Int32)), .unset, .unset] [])) _
      refine XS.iload X0.here hx rfl (hb hby at_9) rfl ?_
      show Steps p.tables e below (s₁.setTop (mkF m 11 #[.val (.int pl), .val (.int pa), .val (.int pb), .val (.int pc), .val (.int pd), .val (.int pe), .val (.int (0 : Int32)), .unset, .unset] [(.int (0 : Int32))])) _
      exact k)
    obtain ⟨T3, h3, kA3, X3, e3, E3, A3, st3⟩ := newP X0 hx hZ (hw _ (List.mem_of_getElem? (i := 0) rfl)) e0 (g := (mkF m 11 #[.val (.int pl), .val (.int pa), .val (.int pb), .val (.int pc), .val (.int pd), .val (.int pe), .val (.int (0 : Int32)), .unset, .unset] [(.int (0 : Int32))])) rfl (hb hby at_11) rfl (by decide) (cap := 0) (by decide) (by decide) (by decide) (by decide)
    obtain ⟨ar, g3⟩ : ∃ z, z = h0.size := ⟨_, rfl⟩
    rw [← g3] at A3 st3
    have F4 : OwnArr.Ag Z h3 ar .double 0 (fun _ => (.double (0 : UInt64))) := (OwnArr.Ag.new A3 (by decide))
    have c5 : ∀ t, Steps p.tables e below (T3.setTop (mkF m 13 #[.val (.int pl), .val (.int pa), .val (.int pb), .val (.int pc), .val (.int pd), .val (.int pe), .val (.int (0 : Int32)), .unset, .unset] [(.ref ar)])) t → Steps p.tables e below (s₁.setTop (entryFrame m #[(.int pl), (.int pa), (.int pb), (.int pc), (.int pd), (.int pe)] maxLocals)) t := fun t k => c2 t (st3 _ k)
    obtain ⟨xs, hxs⟩ : ∃ f : Nat → UInt64, f = fun i => (0 : UInt64) := ⟨_, rfl⟩
    have AX : OwnArr.Ag Z h3 ar .double 0 (fun i => .double (xs i)) := F4.congr (fun j hj => absurd hj (Nat.not_lt_zero j))
    have fin_ : ∀ i, i < 0 → Core.DFin (xs i) := (fun j hj => absurd hj (Nat.not_lt_zero j))
    have c6 : ∀ t, Steps p.tables e below (T3.setTop (mkF m 78 #[.val (.int pl), .val (.int pa), .val (.int pb), .val (.int pc), .val (.int pd), .val (.int pe), .val (.int (0 : Int32)), .val (.ref ar), .unset] [(.ref ar)])) t → Steps p.tables e below (s₁.setTop (entryFrame m #[(.int pl), (.int pa), (.int pb), (.int pc), (.int pd), (.int pe)] maxLocals)) t := fun t k => c5 t (by
      show Steps p.tables e below (T3.setTop (mkF m 13 #[.val (.int pl), .val (.int pa), .val (.int pb), .val (.int pc), .val (.int pd), .val (.int pe), .val (.int (0 : Int32)), .unset, .unset] [(.ref ar)])) _
      refine XS.astore X3.here hx rfl (hb hby at_13) rfl rfl (l' := #[.val (.int pl), .val (.int pa), .val (.int pb), .val (.int pc), .val (.int pd), .val (.int pe), .val (.int (0 : Int32)), .val (.ref ar), .unset]) rfl ?_
      show Steps p.tables e below (T3.setTop (mkF m 15 #[.val (.int pl), .val (.int pa), .val (.int pb), .val (.int pc), .val (.int pd), .val (.int pe), .val (.int (0 : Int32)), .val (.ref ar), .unset] [])) _
      refine XS.iload X3.here hx rfl (hb hby at_15) rfl ?_
      show Steps p.tables e below (T3.setTop (mkF m 17 #[.val (.int pl), .val (.int pa), .val (.int pb), .val (.int pc), .val (.int pd), .val (.int pe), .val (.int (0 : Int32)), .val (.ref ar), .unset] [(.int (0 : Int32))])) _
      refine XS.ifYes X3.here hx rfl (pc0 := 17) (pc' := 26) rfl (hb hby at_17) rfl (XT.i0_le_t (by decide)) (by decide) (by decide) ?_
      show Steps p.tables e below (T3.setTop (mkF m 26 #[.val (.int pl), .val (.int pa), .val (.int pb), .val (.int pc), .val (.int pd), .val (.int pe), .val (.int (0 : Int32)), .val (.ref ar), .unset] [])) _
      refine XS.iload X3.here hx rfl (hb hby at_26) rfl ?_
      show Steps p.tables e below (T3.setTop (mkF m 28 #[.val (.int pl), .val (.int pa), .val (.int pb), .val (.int pc), .val (.int pd), .val (.int pe), .val (.int (0 : Int32)), .val (.ref ar), .unset] [(.int (0 : Int32))])) _
      refine XS.iconst X3.here hx rfl (hb hby at_28) ?_
      show Steps p.tables e below (T3.setTop (mkF m 29 #[.val (.int pl), .val (.int pa), .val (.int pb), .val (.int pc), .val (.int pd), .val (.int pe), .val (.int (0 : Int32)), .val (.ref ar), .unset] [(.int (1 : Int32)), (.int (0 : Int32))])) _
      refine XS.icmpYes X3.here hx rfl (pc0 := 29) (pc' := 38) rfl (hb hby at_29) rfl (XT.ii_le_t (by decide)) (by decide) (by decide) ?_
      show Steps p.tables e below (T3.setTop (mkF m 38 #[.val (.int pl), .val (.int pa), .val (.int pb), .val (.int pc), .val (.int pd), .val (.int pe), .val (.int (0 : Int32)), .val (.ref ar), .unset] [])) _
      refine XS.iload X3.here hx rfl (hb hby at_38) rfl ?_
      show Steps p.tables e below (T3.setTop (mkF m 40 #[.val (.int pl), .val (.int pa), .val (.int pb), .val (.int pc), .val (.int pd), .val (.int pe), .val (.int (0 : Int32)), .val (.ref ar), .unset] [(.int (0 : Int32))])) _
      refine XS.iconst X3.here hx rfl (hb hby at_40) ?_
      show Steps p.tables e below (T3.setTop (mkF m 41 #[.val (.int pl), .val (.int pa), .val (.int pb), .val (.int pc), .val (.int pd), .val (.int pe), .val (.int (0 : Int32)), .val (.ref ar), .unset] [(.int (2 : Int32)), (.int (0 : Int32))])) _
      refine XS.icmpYes X3.here hx rfl (pc0 := 41) (pc' := 50) rfl (hb hby at_41) rfl (XT.ii_le_t (by decide)) (by decide) (by decide) ?_
      show Steps p.tables e below (T3.setTop (mkF m 50 #[.val (.int pl), .val (.int pa), .val (.int pb), .val (.int pc), .val (.int pd), .val (.int pe), .val (.int (0 : Int32)), .val (.ref ar), .unset] [])) _
      refine XS.iload X3.here hx rfl (hb hby at_50) rfl ?_
      show Steps p.tables e below (T3.setTop (mkF m 52 #[.val (.int pl), .val (.int pa), .val (.int pb), .val (.int pc), .val (.int pd), .val (.int pe), .val (.int (0 : Int32)), .val (.ref ar), .unset] [(.int (0 : Int32))])) _
      refine XS.iconst X3.here hx rfl (hb hby at_52) ?_
      show Steps p.tables e below (T3.setTop (mkF m 53 #[.val (.int pl), .val (.int pa), .val (.int pb), .val (.int pc), .val (.int pd), .val (.int pe), .val (.int (0 : Int32)), .val (.ref ar), .unset] [(.int (3 : Int32)), (.int (0 : Int32))])) _
      refine XS.icmpYes X3.here hx rfl (pc0 := 53) (pc' := 63) rfl (hb hby at_53) rfl (XT.ii_le_t (by decide)) (by decide) (by decide) ?_
      show Steps p.tables e below (T3.setTop (mkF m 63 #[.val (.int pl), .val (.int pa), .val (.int pb), .val (.int pc), .val (.int pd), .val (.int pe), .val (.int (0 : Int32)), .val (.ref ar), .unset] [])) _
      refine XS.iload X3.here hx rfl (hb hby at_63) rfl ?_
      show Steps p.tables e below (T3.setTop (mkF m 65 #[.val (.int pl), .val (.int pa), .val (.int pb), .val (.int pc), .val (.int pd), .val (.int pe), .val (.int (0 : Int32)), .val (.ref ar), .unset] [(.int (0 : Int32))])) _
      refine XS.iconst X3.here hx rfl (hb hby at_65) ?_
      show Steps p.tables e below (T3.setTop (mkF m 66 #[.val (.int pl), .val (.int pa), .val (.int pb), .val (.int pc), .val (.int pd), .val (.int pe), .val (.int (0 : Int32)), .val (.ref ar), .unset] [(.int (4 : Int32)), (.int (0 : Int32))])) _
      refine XS.icmpYes X3.here hx rfl (pc0 := 66) (pc' := 76) rfl (hb hby at_66) rfl (XT.ii_le_t (by decide)) (by decide) (by decide) ?_
      show Steps p.tables e below (T3.setTop (mkF m 76 #[.val (.int pl), .val (.int pa), .val (.int pb), .val (.int pc), .val (.int pd), .val (.int pe), .val (.int (0 : Int32)), .val (.ref ar), .unset] [])) _
      refine XS.aload X3.here hx rfl (hb hby at_76) rfl rfl ?_
      show Steps p.tables e below (T3.setTop (mkF m 78 #[.val (.int pl), .val (.int pa), .val (.int pb), .val (.int pc), .val (.int pd), .val (.int pe), .val (.int (0 : Int32)), .val (.ref ar), .unset] [(.ref ar)])) _
      exact k)
    obtain ⟨_, _, ⟨T7, L7, k7', n7⟩, -, X7, ⟨Lc7, hQ7, l7, y7, z7⟩, st7⟩ := Jvm.LawKit.callS X3 hx (y := (⟨"com/example/streamgrove/streamgrove/learners/ClassScores", "highest", "([D)I"⟩ : MethodName)) hown (mvT hZ (hw _ (List.mem_of_getElem? (i := 1) rfl))) (mvT hZ (hw _ (List.mem_of_getElem? (i := 2) rfl))) (mvT hZ (hw _ (List.mem_of_getElem? (i := 3) rfl))) (mvT hZ (hw _ (List.mem_of_getElem? (i := 4) rfl))) (by decide) (backOf (W := 0) (rm_1 l Z a0 hw [] ar (0 : Int32) xs 0 h3 n0 (Nat.le_trans Z0 E3.1) AX (by decide) fin_) hZ (hw _ (List.mem_of_getElem? (i := 4) rfl)) (hw _ (List.mem_of_getElem? (i := 3) rfl)) (by decide) (by decide)) (g := (mkF m 78 #[.val (.int pl), .val (.int pa), .val (.int pb), .val (.int pc), .val (.int pd), .val (.int pe), .val (.int (0 : Int32)), .val (.ref ar), .unset] [(.ref ar)])) rfl (by rw [hml]; rfl) (argsL := [(.ref ar)]) (rest := []) (lenOf pd___D_I rfl) rfl (by show 2 * 0 + _ ≤ _; exact Nat.le_of_eq rfl) (hb hby at_78) (fun _ _ => ⟨rfl, e3, (by decide : 1 + 0 ≤ _), (by decide : 0 + 0 ≤ _)⟩)
    dsimp only [Pt.U, Pt.locs, Pt.cells, Pt.slots] at X7 l7 y7 z7 st7 hQ7
    subst l7 y7 z7
    obtain ⟨⟨gi, gi1, rfl, gi2⟩, N7, e7⟩ := hQ7
    have M7 := Fr.app N0 N7
    have c8 : ∀ t, Steps p.tables e below (T7.setTop (mkF m 81 #[.val (.int pl), .val (.int pa), .val (.int pb), .val (.int pc), .val (.int pd), .val (.int pe), .val (.int (0 : Int32)), .val (.ref ar), .unset] [(.int (Int32.ofNat gi))])) t → Steps p.tables e below (s₁.setTop (entryFrame m #[(.int pl), (.int pa), (.int pb), (.int pc), (.int pd), (.int pe)] maxLocals)) t := fun t k => c6 t (st7 _ k)
    have c9 : ∀ t, Steps p.tables e below (T7.setTop (mkF m 94 #[.val (.int pl), .val (.int pa), .val (.int pb), .val (.int pc), .val (.int pd), .val (.int pe), .val (.int (0 : Int32)), .val (.ref ar), .val (.int (Int32.ofNat gi))] [(.int pe), (.int pd), (.int pc), (.int pb), (.int pa), (.int (0 : Int32)), (.int (Int32.ofNat gi))])) t → Steps p.tables e below (s₁.setTop (entryFrame m #[(.int pl), (.int pa), (.int pb), (.int pc), (.int pd), (.int pe)] maxLocals)) t := fun t k => c8 t (by
      show Steps p.tables e below (T7.setTop (mkF m 81 #[.val (.int pl), .val (.int pa), .val (.int pb), .val (.int pc), .val (.int pd), .val (.int pe), .val (.int (0 : Int32)), .val (.ref ar), .unset] [(.int (Int32.ofNat gi))])) _
      refine XS.istore X7.here hx rfl (hb hby at_81) rfl (l' := #[.val (.int pl), .val (.int pa), .val (.int pb), .val (.int pc), .val (.int pd), .val (.int pe), .val (.int (0 : Int32)), .val (.ref ar), .val (.int (Int32.ofNat gi))]) rfl ?_
      show Steps p.tables e below (T7.setTop (mkF m 83 #[.val (.int pl), .val (.int pa), .val (.int pb), .val (.int pc), .val (.int pd), .val (.int pe), .val (.int (0 : Int32)), .val (.ref ar), .val (.int (Int32.ofNat gi))] [])) _
      refine XS.iload X7.here hx rfl (hb hby at_83) rfl ?_
      show Steps p.tables e below (T7.setTop (mkF m 85 #[.val (.int pl), .val (.int pa), .val (.int pb), .val (.int pc), .val (.int pd), .val (.int pe), .val (.int (0 : Int32)), .val (.ref ar), .val (.int (Int32.ofNat gi))] [(.int (Int32.ofNat gi))])) _
      refine XS.iload X7.here hx rfl (hb hby at_85) rfl ?_
      show Steps p.tables e below (T7.setTop (mkF m 87 #[.val (.int pl), .val (.int pa), .val (.int pb), .val (.int pc), .val (.int pd), .val (.int pe), .val (.int (0 : Int32)), .val (.ref ar), .val (.int (Int32.ofNat gi))] [(.int (0 : Int32)), (.int (Int32.ofNat gi))])) _
      refine XS.iloadN X7.here hx rfl (hb hby at_87) rfl ?_
      show Steps p.tables e below (T7.setTop (mkF m 88 #[.val (.int pl), .val (.int pa), .val (.int pb), .val (.int pc), .val (.int pd), .val (.int pe), .val (.int (0 : Int32)), .val (.ref ar), .val (.int (Int32.ofNat gi))] [(.int pa), (.int (0 : Int32)), (.int (Int32.ofNat gi))])) _
      refine XS.iloadN X7.here hx rfl (hb hby at_88) rfl ?_
      show Steps p.tables e below (T7.setTop (mkF m 89 #[.val (.int pl), .val (.int pa), .val (.int pb), .val (.int pc), .val (.int pd), .val (.int pe), .val (.int (0 : Int32)), .val (.ref ar), .val (.int (Int32.ofNat gi))] [(.int pb), (.int pa), (.int (0 : Int32)), (.int (Int32.ofNat gi))])) _
      refine XS.iloadN X7.here hx rfl (hb hby at_89) rfl ?_
      show Steps p.tables e below (T7.setTop (mkF m 90 #[.val (.int pl), .val (.int pa), .val (.int pb), .val (.int pc), .val (.int pd), .val (.int pe), .val (.int (0 : Int32)), .val (.ref ar), .val (.int (Int32.ofNat gi))] [(.int pc), (.int pb), (.int pa), (.int (0 : Int32)), (.int (Int32.ofNat gi))])) _
      refine XS.iload X7.here hx rfl (hb hby at_90) rfl ?_
      show Steps p.tables e below (T7.setTop (mkF m 92 #[.val (.int pl), .val (.int pa), .val (.int pb), .val (.int pc), .val (.int pd), .val (.int pe), .val (.int (0 : Int32)), .val (.ref ar), .val (.int (Int32.ofNat gi))] [(.int pd), (.int pc), (.int pb), (.int pa), (.int (0 : Int32)), (.int (Int32.ofNat gi))])) _
      refine XS.iload X7.here hx rfl (hb hby at_92) rfl ?_
      show Steps p.tables e below (T7.setTop (mkF m 94 #[.val (.int pl), .val (.int pa), .val (.int pb), .val (.int pc), .val (.int pd), .val (.int pe), .val (.int (0 : Int32)), .val (.ref ar), .val (.int (Int32.ofNat gi))] [(.int pe), (.int pd), (.int pc), (.int pb), (.int pa), (.int (0 : Int32)), (.int (Int32.ofNat gi))])) _
      exact k)
    obtain ⟨_, _, ⟨T10, L10, k10', n10⟩, -, X10, ⟨Lc10, hQ10, l10, y10, z10⟩, st10⟩ := Jvm.LawKit.callS X7 hx (y := (⟨"com/example/streamgrove/streamgrove/learners/ClassScoresHighestPinLaw", "expected", "(IIIIII)I"⟩ : MethodName)) hown (mvT hZ (hw _ (List.mem_of_getElem? (i := 5) rfl))) (mvT hZ (hw _ (List.mem_of_getElem? (i := 6) rfl))) (mvT hZ (hw _ (List.mem_of_getElem? (i := 7) rfl))) (mvT hZ (hw _ (List.mem_of_getElem? (i := 8) rfl))) (by decide) (backOf (W := 1) (rm_2_0 l Z a0 hw [] pa pb pc pd pe h3 n0 (Nat.le_trans Z0 E3.1)) hZ (hw _ (List.mem_of_getElem? (i := 8) rfl)) (hw _ (List.mem_of_getElem? (i := 7) rfl)) (by decide) (by decide)) (g := (mkF m 94 #[.val (.int pl), .val (.int pa), .val (.int pb), .val (.int pc), .val (.int pd), .val (.int pe), .val (.int (0 : Int32)), .val (.ref ar), .val (.int (Int32.ofNat gi))] [(.int pe), (.int pd), (.int pc), (.int pb), (.int pa), (.int (0 : Int32)), (.int (Int32.ofNat gi))])) rfl (by rw [hml]; rfl) (argsL := [(.int (0 : Int32)), (.int pa), (.int pb), (.int pc), (.int pd), (.int pe)]) (rest := [(.int (Int32.ofNat gi))]) (lenOf pd__IIIIII_I rfl) rfl (by show 2 * 0 + _ ≤ _; exact Nat.le_of_eq rfl) (hb hby at_94) (fun _ _ => ⟨rfl, e7, (by decide : 1 + 0 ≤ _), (by decide : 0 + 0 ≤ _)⟩)
    dsimp only [Pt.U, Pt.locs, Pt.cells, Pt.slots] at X10 l10 y10 z10 st10 hQ10
    subst l10 y10 z10
    obtain ⟨⟨ei, ei1, rfl, ei2⟩, N10, e10⟩ := hQ10
    have M10 := Fr.app M7 N10
    have c11 : ∀ t, Steps p.tables e below (T10.setTop (mkF m 97 #[.val (.int pl), .val (.int pa), .val (.int pb), .val (.int pc), .val (.int pd), .val (.int pe), .val (.int (0 : Int32)), .val (.ref ar), .val (.int (Int32.ofNat gi))] [(.int (Int32.ofNat ei)), (.int (Int32.ofNat gi))])) t → Steps p.tables e below (s₁.setTop (entryFrame m #[(.int pl), (.int pa), (.int pb), (.int pc), (.int pd), (.int pe)] maxLocals)) t := fun t k => c9 t (st10 _ k)
    have same : gi = ei := by have := gi2.2.2; have := ei2.2.2; omega
    have c12 : ∀ t, Steps p.tables e below (T10.setTop (mkF m 105 #[.val (.int pl), .val (.int pa), .val (.int pb), .val (.int pc), .val (.int pd), .val (.int pe), .val (.int (0 : Int32)), .val (.ref ar), .val (.int (Int32.ofNat gi))] [(.int (1 : Int32))])) t → Steps p.tables e below (s₁.setTop (entryFrame m #[(.int pl), (.int pa), (.int pb), (.int pc), (.int pd), (.int pe)] maxLocals)) t := fun t k => c11 t (by
      show Steps p.tables e below (T10.setTop (mkF m 97 #[.val (.int pl), .val (.int pa), .val (.int pb), .val (.int pc), .val (.int pd), .val (.int pe), .val (.int (0 : Int32)), .val (.ref ar), .val (.int (Int32.ofNat gi))] [(.int (Int32.ofNat ei)), (.int (Int32.ofNat gi))])) _
      refine XS.icmpNo X10.here hx rfl (hb hby at_97) rfl (XT.ii_ne_f (by rw [same])) ?_
      show Steps p.tables e below (T10.setTop (mkF m 100 #[.val (.int pl), .val (.int pa), .val (.int pb), .val (.int pc), .val (.int pd), .val (.int pe), .val (.int (0 : Int32)), .val (.ref ar), .val (.int (Int32.ofNat gi))] [])) _
      refine XS.iconst X10.here hx rfl (hb hby at_100) ?_
      show Steps p.tables e below (T10.setTop (mkF m 101 #[.val (.int pl), .val (.int pa), .val (.int pb), .val (.int pc), .val (.int pd), .val (.int pe), .val (.int (0 : Int32)), .val (.ref ar), .val (.int (Int32.ofNat gi))] [(.int (1 : Int32))])) _
      refine XS.goto X10.here hx rfl (pc0 := 101) (pc' := 105) rfl (hb hby at_101) (by decide) (by decide) ?_
      show Steps p.tables e below (T10.setTop (mkF m 105 #[.val (.int pl), .val (.int pa), .val (.int pb), .val (.int pc), .val (.int pd), .val (.int pe), .val (.int (0 : Int32)), .val (.ref ar), .val (.int (Int32.ofNat gi))] [(.int (1 : Int32))])) _
      exact k)
    obtain ⟨fs, hr, hrun, hended, hW, hsame⟩ := X10.leave (v := (some (.int (1 : Int32)))) (fun h => by rw [Bd.returns] at h; cases h)
    refine ⟨_, _, pre0 _ (c12 _ (retN X10 hx (t := .boolean) Bd.returns (by simp) (hb hby at_105) hr)), hrun, hended, _, _, rfl, ?_, ⟨_, rfl⟩, hW, hsame.mono (by decide) (by decide)⟩
    show Q_0 Z pl pa pb pc pd pe h0 n0 _ T10.heap _
    rw [e10]
    exact ⟨rfl, M10⟩
  · rw [nk] at c1
    have c13 : ∀ t, Steps p.tables e below (s₁.setTop (mkF m 11 #[.val (.int pl), .val (.int pa), .val (.int pb), .val (.int pc), .val (.int pd), .val (.int pe), .val (.int (1 : Int32)), .unset, .unset] [(.int (1 : Int32))])) t → Steps p.tables e below (s₁.setTop (entryFrame m #[(.int pl), (.int pa), (.int pb), (.int pc), (.int pd), (.int pe)] maxLocals)) t := fun t k => c1 t (by
      show Steps p.tables e below (s₁.setTop (mkF m 9 #[.val (.int pl), .val (.int pa), .val (.int pb), .val (.int pc), .val (.int pd), .val (.int pe), .val (.int (1 : Int32)), .unset, .unset] [])) _
      refine XS.iload X0.here hx rfl (hb hby at_9) rfl ?_
      show Steps p.tables e below (s₁.setTop (mkF m 11 #[.val (.int pl), .val (.int pa), .val (.int pb), .val (.int pc), .val (.int pd), .val (.int pe), .val (.int (1 : Int32)), .unset, .unset] [(.int (1 : Int32))])) _
      exact k)
    obtain ⟨T14, h14, kA14, X14, e14, E14, A14, st14⟩ := newP X0 hx hZ (hw _ (List.mem_of_getElem? (i := 0) rfl)) e0 (g := (mkF m 11 #[.val (.int pl), .val (.int pa), .val (.int pb), .val (.int pc), .val (.int pd), .val (.int pe), .val (.int (1 : Int32)), .unset, .unset] [(.int (1 : Int32))])) rfl (hb hby at_11) rfl (by decide) (cap := 1) (by decide) (by decide) (by decide) (by decide)
    obtain ⟨ar, g14⟩ : ∃ z, z = h0.size := ⟨_, rfl⟩
    rw [← g14] at A14 st14
    have F15 : OwnArr.Ag Z h14 ar .double 1 (fun _ => (.double (0 : UInt64))) := (OwnArr.Ag.new A14 (by decide))
    have c16 : ∀ t, Steps p.tables e below (T14.setTop (mkF m 13 #[.val (.int pl), .val (.int pa), .val (.int pb), .val (.int pc), .val (.int pd), .val (.int pe), .val (.int (1 : Int32)), .unset, .unset] [(.ref ar)])) t → Steps p.tables e below (s₁.setTop (entryFrame m #[(.int pl), (.int pa), (.int pb), (.int pc), (.int pd), (.int pe)] maxLocals)) t := fun t k => c13 t (st14 _ k)
    obtain ⟨x0, hx0⟩ : ∃ v : UInt64, FP.i2d pa = v := ⟨_, rfl⟩
    have D0 : DS pa.toInt 0 x0 := hx0 ▸ DS.i2d pa
    have c17 : ∀ t, Steps p.tables e below (T14.setTop (mkF m 25 #[.val (.int pl), .val (.int pa), .val (.int pb), .val (.int pc), .val (.int pd), .val (.int pe), .val (.int (1 : Int32)), .val (.ref ar), .unset] [(.double x0), (.int (0 : Int32)), (.ref ar)])) t → Steps p.tables e below (s₁.setTop (entryFrame m #[(.int pl), (.int pa), (.int pb), (.int pc), (.int pd), (.int pe)] maxLocals)) t := fun t k => c16 t (by
      show Steps p.tables e below (T14.setTop (mkF m 13 #[.val (.int pl), .val (.int pa), .val (.int pb), .val (.int pc), .val (.int pd), .val (.int pe), .val (.int (1 : Int32)), .unset, .unset] [(.ref ar)])) _
      refine XS.astore X14.here hx rfl (hb hby at_13) rfl rfl (l' := #[.val (.int pl), .val (.int pa), .val (.int pb), .val (.int pc), .val (.int pd), .val (.int pe), .val (.int (1 : Int32)), .val (.ref ar), .unset]) rfl ?_
      show Steps p.tables e below (T14.setTop (mkF m 15 #[.val (.int pl), .val (.int pa), .val (.int pb), .val (.int pc), .val (.int pd), .val (.int pe), .val (.int (1 : Int32)), .val (.ref ar), .unset] [])) _
      refine XS.iload X14.here hx rfl (hb hby at_15) rfl ?_
      show Steps p.tables e below (T14.setTop (mkF m 17 #[.val (.int pl), .val (.int pa), .val (.int pb), .val (.int pc), .val (.int pd), .val (.int pe), .val (.int (1 : Int32)), .val (.ref ar), .unset] [(.int (1 : Int32))])) _
      refine XS.ifNo X14.here hx rfl (hb hby at_17) rfl (XT.i0_le_f (by decide)) ?_
      show Steps p.tables e below (T14.setTop (mkF m 20 #[.val (.int pl), .val (.int pa), .val (.int pb), .val (.int pc), .val (.int pd), .val (.int pe), .val (.int (1 : Int32)), .val (.ref ar), .unset] [])) _
      refine XS.aload X14.here hx rfl (hb hby at_20) rfl rfl ?_
      show Steps p.tables e below (T14.setTop (mkF m 22 #[.val (.int pl), .val (.int pa), .val (.int pb), .val (.int pc), .val (.int pd), .val (.int pe), .val (.int (1 : Int32)), .val (.ref ar), .unset] [(.ref ar)])) _
      refine XS.iconst X14.here hx rfl (hb hby at_22) ?_
      show Steps p.tables e below (T14.setTop (mkF m 23 #[.val (.int pl), .val (.int pa), .val (.int pb), .val (.int pc), .val (.int pd), .val (.int pe), .val (.int (1 : Int32)), .val (.ref ar), .unset] [(.int (0 : Int32)), (.ref ar)])) _
      refine XS.iloadN X14.here hx rfl (hb hby at_23) rfl ?_
      show Steps p.tables e below (T14.setTop (mkF m 24 #[.val (.int pl), .val (.int pa), .val (.int pb), .val (.int pc), .val (.int pd), .val (.int pe), .val (.int (1 : Int32)), .val (.ref ar), .unset] [(.int pa), (.int (0 : Int32)), (.ref ar)])) _
      refine XS.i2dS X14.here hx rfl (hb hby at_24) rfl hx0 ?_
      show Steps p.tables e below (T14.setTop (mkF m 25 #[.val (.int pl), .val (.int pa), .val (.int pb), .val (.int pc), .val (.int pd), .val (.int pe), .val (.int (1 : Int32)), .val (.ref ar), .unset] [(.double x0), (.int (0 : Int32)), (.ref ar)])) _
      exact k)
    obtain ⟨T18, h18, X18, e18, W18, st18⟩ := OwnArr.stDA X14 hx hZ e14 F15 (j := (0 : Int32)) (J := 0) (by decide) (by decide) (g := (mkF m 25 #[.val (.int pl), .val (.int pa), .val (.int pb), .val (.int pc), .val (.int pd), .val (.int pe), .val (.int (1 : Int32)), .val (.ref ar), .unset] [(.double x0), (.int (0 : Int32)), (.ref ar)])) rfl rfl (hb hby at_25)
    have F19 : OwnArr.Ag Z h18 ar .double 1 (fun i => if i = 0 then (.double x0) else (fun _ => (.double (0 : UInt64))) i) := (F15.set W18)
    have N18 := Fr.snoc X18 N0 (Nat.le_trans Z0 (Nat.le_of_eq g14.symm))
    have c20 : ∀ t, Steps p.tables e below (T18.setTop (mkF m 26 #[.val (.int pl), .val (.int pa), .val (.int pb), .val (.int pc), .val (.int pd), .val (.int pe), .val (.int (1 : Int32)), .val (.ref ar), .unset] [])) t → Steps p.tables e below (s₁.setTop (entryFrame m #[(.int pl), (.int pa), (.int pb), (.int pc), (.int pd), (.int pe)] maxLocals)) t := fun t k => c17 t (st18 _ k)
    obtain ⟨xs, hxs⟩ : ∃ f : Nat → UInt64, f = fun i => if i = 0 then x0 else (0 : UInt64) := ⟨_, rfl⟩
    have AX : OwnArr.Ag Z h18 ar .double 1 (fun i => .double (xs i)) := F19.congr (fun j hj => by
      rw [hxs]
      match j, hj with
      | 0, _ => rfl)
    have fin_ : ∀ i, i < 1 → Core.DFin (xs i) := (fun i hi => by
      rw [hxs]
      match i, hi with
      | 0, _ => exact D0.1)
    have c21 : ∀ t, Steps p.tables e below (T18.setTop (mkF m 78 #[.val (.int pl), .val (.int pa), .val (.int pb), .val (.int pc), .val (.int pd), .val (.int pe), .val (.int (1 : Int32)), .val (.ref ar), .unset] [(.ref ar)])) t → Steps p.tables e below (s₁.setTop (entryFrame m #[(.int pl), (.int pa), (.int pb), (.int pc), (.int pd), (.int pe)] maxLocals)) t := fun t k => c20 t (by
      show Steps p.tables e below (T18.setTop (mkF m 26 #[.val (.int pl), .val (.int pa), .val (.int pb), .val (.int pc), .val (.int pd), .val (.int pe), .val (.int (1 : Int32)), .val (.ref ar), .unset] [])) _
      refine XS.iload X18.here hx rfl (hb hby at_26) rfl ?_
      show Steps p.tables e below (T18.setTop (mkF m 28 #[.val (.int pl), .val (.int pa), .val (.int pb), .val (.int pc), .val (.int pd), .val (.int pe), .val (.int (1 : Int32)), .val (.ref ar), .unset] [(.int (1 : Int32))])) _
      refine XS.iconst X18.here hx rfl (hb hby at_28) ?_
      show Steps p.tables e below (T18.setTop (mkF m 29 #[.val (.int pl), .val (.int pa), .val (.int pb), .val (.int pc), .val (.int pd), .val (.int pe), .val (.int (1 : Int32)), .val (.ref ar), .unset] [(.int (1 : Int32)), (.int (1 : Int32))])) _
      refine XS.icmpYes X18.here hx rfl (pc0 := 29) (pc' := 38) rfl (hb hby at_29) rfl (XT.ii_le_t (by decide)) (by decide) (by decide) ?_
      show Steps p.tables e below (T18.setTop (mkF m 38 #[.val (.int pl), .val (.int pa), .val (.int pb), .val (.int pc), .val (.int pd), .val (.int pe), .val (.int (1 : Int32)), .val (.ref ar), .unset] [])) _
      refine XS.iload X18.here hx rfl (hb hby at_38) rfl ?_
      show Steps p.tables e below (T18.setTop (mkF m 40 #[.val (.int pl), .val (.int pa), .val (.int pb), .val (.int pc), .val (.int pd), .val (.int pe), .val (.int (1 : Int32)), .val (.ref ar), .unset] [(.int (1 : Int32))])) _
      refine XS.iconst X18.here hx rfl (hb hby at_40) ?_
      show Steps p.tables e below (T18.setTop (mkF m 41 #[.val (.int pl), .val (.int pa), .val (.int pb), .val (.int pc), .val (.int pd), .val (.int pe), .val (.int (1 : Int32)), .val (.ref ar), .unset] [(.int (2 : Int32)), (.int (1 : Int32))])) _
      refine XS.icmpYes X18.here hx rfl (pc0 := 41) (pc' := 50) rfl (hb hby at_41) rfl (XT.ii_le_t (by decide)) (by decide) (by decide) ?_
      show Steps p.tables e below (T18.setTop (mkF m 50 #[.val (.int pl), .val (.int pa), .val (.int pb), .val (.int pc), .val (.int pd), .val (.int pe), .val (.int (1 : Int32)), .val (.ref ar), .unset] [])) _
      refine XS.iload X18.here hx rfl (hb hby at_50) rfl ?_
      show Steps p.tables e below (T18.setTop (mkF m 52 #[.val (.int pl), .val (.int pa), .val (.int pb), .val (.int pc), .val (.int pd), .val (.int pe), .val (.int (1 : Int32)), .val (.ref ar), .unset] [(.int (1 : Int32))])) _
      refine XS.iconst X18.here hx rfl (hb hby at_52) ?_
      show Steps p.tables e below (T18.setTop (mkF m 53 #[.val (.int pl), .val (.int pa), .val (.int pb), .val (.int pc), .val (.int pd), .val (.int pe), .val (.int (1 : Int32)), .val (.ref ar), .unset] [(.int (3 : Int32)), (.int (1 : Int32))])) _
      refine XS.icmpYes X18.here hx rfl (pc0 := 53) (pc' := 63) rfl (hb hby at_53) rfl (XT.ii_le_t (by decide)) (by decide) (by decide) ?_
      show Steps p.tables e below (T18.setTop (mkF m 63 #[.val (.int pl), .val (.int pa), .val (.int pb), .val (.int pc), .val (.int pd), .val (.int pe), .val (.int (1 : Int32)), .val (.ref ar), .unset] [])) _
      refine XS.iload X18.here hx rfl (hb hby at_63) rfl ?_
      show Steps p.tables e below (T18.setTop (mkF m 65 #[.val (.int pl), .val (.int pa), .val (.int pb), .val (.int pc), .val (.int pd), .val (.int pe), .val (.int (1 : Int32)), .val (.ref ar), .unset] [(.int (1 : Int32))])) _
      refine XS.iconst X18.here hx rfl (hb hby at_65) ?_
      show Steps p.tables e below (T18.setTop (mkF m 66 #[.val (.int pl), .val (.int pa), .val (.int pb), .val (.int pc), .val (.int pd), .val (.int pe), .val (.int (1 : Int32)), .val (.ref ar), .unset] [(.int (4 : Int32)), (.int (1 : Int32))])) _
      refine XS.icmpYes X18.here hx rfl (pc0 := 66) (pc' := 76) rfl (hb hby at_66) rfl (XT.ii_le_t (by decide)) (by decide) (by decide) ?_
      show Steps p.tables e below (T18.setTop (mkF m 76 #[.val (.int pl), .val (.int pa), .val (.int pb), .val (.int pc), .val (.int pd), .val (.int pe), .val (.int (1 : Int32)), .val (.ref ar), .unset] [])) _
      refine XS.aload X18.here hx rfl (hb hby at_76) rfl rfl ?_
      show Steps p.tables e below (T18.setTop (mkF m 78 #[.val (.int pl), .val (.int pa), .val (.int pb), .val (.int pc), .val (.int pd), .val (.int pe), .val (.int (1 : Int32)), .val (.ref ar), .unset] [(.ref ar)])) _
      exact k)
    obtain ⟨_, _, ⟨T22, L22, k22', n22⟩, -, X22, ⟨Lc22, hQ22, l22, y22, z22⟩, st22⟩ := Jvm.LawKit.callS X18 hx (y := (⟨"com/example/streamgrove/streamgrove/learners/ClassScores", "highest", "([D)I"⟩ : MethodName)) hown (mvT hZ (hw _ (List.mem_of_getElem? (i := 1) rfl))) (mvT hZ (hw _ (List.mem_of_getElem? (i := 2) rfl))) (mvT hZ (hw _ (List.mem_of_getElem? (i := 3) rfl))) (mvT hZ (hw _ (List.mem_of_getElem? (i := 4) rfl))) (by decide) (backOf (W := 0) (rm_1 l Z a0 hw [] ar (1 : Int32) xs 1 h18 n0 (Nat.le_trans (Nat.le_trans Z0 E14.1) (Keep.of_wr W18).1) AX (by decide) fin_) hZ (hw _ (List.mem_of_getElem? (i := 4) rfl)) (hw _ (List.mem_of_getElem? (i := 3) rfl)) (by decide) (by decide)) (g := (mkF m 78 #[.val (.int pl), .val (.int pa), .val (.int pb), .val (.int pc), .val (.int pd), .val (.int pe), .val (.int (1 : Int32)), .val (.ref ar), .unset] [(.ref ar)])) rfl (by rw [hml]; rfl) (argsL := [(.ref ar)]) (rest := []) (lenOf pd___D_I rfl) rfl (by show 2 * 0 + _ ≤ _; exact Nat.le_of_eq rfl) (hb hby at_78) (fun _ _ => ⟨rfl, e18, (by decide : 1 + 0 ≤ _), (by decide : 1 + 0 ≤ _)⟩)
    dsimp only [Pt.U, Pt.locs, Pt.cells, Pt.slots] at X22 l22 y22 z22 st22 hQ22
    subst l22 y22 z22
    obtain ⟨⟨gi, gi1, rfl, gi2⟩, N22, e22⟩ := hQ22
    have M22 := Fr.app N18 N22
    have c23 : ∀ t, Steps p.tables e below (T22.setTop (mkF m 81 #[.val (.int pl), .val (.int pa), .val (.int pb), .val (.int pc), .val (.int pd), .val (.int pe), .val (.int (1 : Int32)), .val (.ref ar), .unset] [(.int (Int32.ofNat gi))])) t → Steps p.tables e below (s₁.setTop (entryFrame m #[(.int pl), (.int pa), (.int pb), (.int pc), (.int pd), (.int pe)] maxLocals)) t := fun t k => c21 t (st22 _ k)
    have c24 : ∀ t, Steps p.tables e below (T22.setTop (mkF m 94 #[.val (.int pl), .val (.int pa), .val (.int pb), .val (.int pc), .val (.int pd), .val (.int pe), .val (.int (1 : Int32)), .val (.ref ar), .val (.int (Int32.ofNat gi))] [(.int pe), (.int pd), (.int pc), (.int pb), (.int pa), (.int (1 : Int32)), (.int (Int32.ofNat gi))])) t → Steps p.tables e below (s₁.setTop (entryFrame m #[(.int pl), (.int pa), (.int pb), (.int pc), (.int pd), (.int pe)] maxLocals)) t := fun t k => c23 t (by
      show Steps p.tables e below (T22.setTop (mkF m 81 #[.val (.int pl), .val (.int pa), .val (.int pb), .val (.int pc), .val (.int pd), .val (.int pe), .val (.int (1 : Int32)), .val (.ref ar), .unset] [(.int (Int32.ofNat gi))])) _
      refine XS.istore X22.here hx rfl (hb hby at_81) rfl (l' := #[.val (.int pl), .val (.int pa), .val (.int pb), .val (.int pc), .val (.int pd), .val (.int pe), .val (.int (1 : Int32)), .val (.ref ar), .val (.int (Int32.ofNat gi))]) rfl ?_
      show Steps p.tables e below (T22.setTop (mkF m 83 #[.val (.int pl), .val (.int pa), .val (.int pb), .val (.int pc), .val (.int pd), .val (.int pe), .val (.int (1 : Int32)), .val (.ref ar), .val (.int (Int32.ofNat gi))] [])) _
      refine XS.iload X22.here hx rfl (hb hby at_83) rfl ?_
      show Steps p.tables e below (T22.setTop (mkF m 85 #[.val (.int pl), .val (.int pa), .val (.int pb), .val (.int pc), .val (.int pd), .val (.int pe), .val (.int (1 : Int32)), .val (.ref ar), .val (.int (Int32.ofNat gi))] [(.int (Int32.ofNat gi))])) _
      refine XS.iload X22.here hx rfl (hb hby at_85) rfl ?_
      show Steps p.tables e below (T22.setTop (mkF m 87 #[.val (.int pl), .val (.int pa), .val (.int pb), .val (.int pc), .val (.int pd), .val (.int pe), .val (.int (1 : Int32)), .val (.ref ar), .val (.int (Int32.ofNat gi))] [(.int (1 : Int32)), (.int (Int32.ofNat gi))])) _
      refine XS.iloadN X22.here hx rfl (hb hby at_87) rfl ?_
      show Steps p.tables e below (T22.setTop (mkF m 88 #[.val (.int pl), .val (.int pa), .val (.int pb), .val (.int pc), .val (.int pd), .val (.int pe), .val (.int (1 : Int32)), .val (.ref ar), .val (.int (Int32.ofNat gi))] [(.int pa), (.int (1 : Int32)), (.int (Int32.ofNat gi))])) _
      refine XS.iloadN X22.here hx rfl (hb hby at_88) rfl ?_
      show Steps p.tables e below (T22.setTop (mkF m 89 #[.val (.int pl), .val (.int pa), .val (.int pb), .val (.int pc), .val (.int pd), .val (.int pe), .val (.int (1 : Int32)), .val (.ref ar), .val (.int (Int32.ofNat gi))] [(.int pb), (.int pa), (.int (1 : Int32)), (.int (Int32.ofNat gi))])) _
      refine XS.iloadN X22.here hx rfl (hb hby at_89) rfl ?_
      show Steps p.tables e below (T22.setTop (mkF m 90 #[.val (.int pl), .val (.int pa), .val (.int pb), .val (.int pc), .val (.int pd), .val (.int pe), .val (.int (1 : Int32)), .val (.ref ar), .val (.int (Int32.ofNat gi))] [(.int pc), (.int pb), (.int pa), (.int (1 : Int32)), (.int (Int32.ofNat gi))])) _
      refine XS.iload X22.here hx rfl (hb hby at_90) rfl ?_
      show Steps p.tables e below (T22.setTop (mkF m 92 #[.val (.int pl), .val (.int pa), .val (.int pb), .val (.int pc), .val (.int pd), .val (.int pe), .val (.int (1 : Int32)), .val (.ref ar), .val (.int (Int32.ofNat gi))] [(.int pd), (.int pc), (.int pb), (.int pa), (.int (1 : Int32)), (.int (Int32.ofNat gi))])) _
      refine XS.iload X22.here hx rfl (hb hby at_92) rfl ?_
      show Steps p.tables e below (T22.setTop (mkF m 94 #[.val (.int pl), .val (.int pa), .val (.int pb), .val (.int pc), .val (.int pd), .val (.int pe), .val (.int (1 : Int32)), .val (.ref ar), .val (.int (Int32.ofNat gi))] [(.int pe), (.int pd), (.int pc), (.int pb), (.int pa), (.int (1 : Int32)), (.int (Int32.ofNat gi))])) _
      exact k)
    obtain ⟨_, _, ⟨T25, L25, k25', n25⟩, -, X25, ⟨Lc25, hQ25, l25, y25, z25⟩, st25⟩ := Jvm.LawKit.callS X22 hx (y := (⟨"com/example/streamgrove/streamgrove/learners/ClassScoresHighestPinLaw", "expected", "(IIIIII)I"⟩ : MethodName)) hown (mvT hZ (hw _ (List.mem_of_getElem? (i := 5) rfl))) (mvT hZ (hw _ (List.mem_of_getElem? (i := 6) rfl))) (mvT hZ (hw _ (List.mem_of_getElem? (i := 7) rfl))) (mvT hZ (hw _ (List.mem_of_getElem? (i := 8) rfl))) (by decide) (backOf (W := 1) (rm_2_1 l Z a0 hw [] pa pb pc pd pe h18 n0 (Nat.le_trans (Nat.le_trans Z0 E14.1) (Keep.of_wr W18).1)) hZ (hw _ (List.mem_of_getElem? (i := 8) rfl)) (hw _ (List.mem_of_getElem? (i := 7) rfl)) (by decide) (by decide)) (g := (mkF m 94 #[.val (.int pl), .val (.int pa), .val (.int pb), .val (.int pc), .val (.int pd), .val (.int pe), .val (.int (1 : Int32)), .val (.ref ar), .val (.int (Int32.ofNat gi))] [(.int pe), (.int pd), (.int pc), (.int pb), (.int pa), (.int (1 : Int32)), (.int (Int32.ofNat gi))])) rfl (by rw [hml]; rfl) (argsL := [(.int (1 : Int32)), (.int pa), (.int pb), (.int pc), (.int pd), (.int pe)]) (rest := [(.int (Int32.ofNat gi))]) (lenOf pd__IIIIII_I rfl) rfl (by show 2 * 0 + _ ≤ _; exact Nat.le_of_eq rfl) (hb hby at_94) (fun _ _ => ⟨rfl, e22, (by decide : 1 + 0 ≤ _), (by decide : 1 + 0 ≤ _)⟩)
    dsimp only [Pt.U, Pt.locs, Pt.cells, Pt.slots] at X25 l25 y25 z25 st25 hQ25
    subst l25 y25 z25
    obtain ⟨⟨ei, ei1, rfl, ei2⟩, N25, e25⟩ := hQ25
    have M25 := Fr.app M22 N25
    have c26 : ∀ t, Steps p.tables e below (T25.setTop (mkF m 97 #[.val (.int pl), .val (.int pa), .val (.int pb), .val (.int pc), .val (.int pd), .val (.int pe), .val (.int (1 : Int32)), .val (.ref ar), .val (.int (Int32.ofNat gi))] [(.int (Int32.ofNat ei)), (.int (Int32.ofNat gi))])) t → Steps p.tables e below (s₁.setTop (entryFrame m #[(.int pl), (.int pa), (.int pb), (.int pc), (.int pd), (.int pe)] maxLocals)) t := fun t k => c24 t (st25 _ k)
    have same : gi = ei := (gi2.scale (y := five pa pb pc pd pe) (fun j hj => by
      rw [hxs]
      match j, hj with
      | 0, _ => show zv x0 = pa.toInt * U; have := D0.2; rwa [Int.pow_zero, Int.mul_one] at this) (by decide)).unique ei2
    have c27 : ∀ t, Steps p.tables e below (T25.setTop (mkF m 105 #[.val (.int pl), .val (.int pa), .val (.int pb), .val (.int pc), .val (.int pd), .val (.int pe), .val (.int (1 : Int32)), .val (.ref ar), .val (.int (Int32.ofNat gi))] [(.int (1 : Int32))])) t → Steps p.tables e below (s₁.setTop (entryFrame m #[(.int pl), (.int pa), (.int pb), (.int pc), (.int pd), (.int pe)] maxLocals)) t := fun t k => c26 t (by
      show Steps p.tables e below (T25.setTop (mkF m 97 #[.val (.int pl), .val (.int pa), .val (.int pb), .val (.int pc), .val (.int pd), .val (.int pe), .val (.int (1 : Int32)), .val (.ref ar), .val (.int (Int32.ofNat gi))] [(.int (Int32.ofNat ei)), (.int (Int32.ofNat gi))])) _
      refine XS.icmpNo X25.here hx rfl (hb hby at_97) rfl (XT.ii_ne_f (by rw [same])) ?_
      show Steps p.tables e below (T25.setTop (mkF m 100 #[.val (.int pl), .val (.int pa), .val (.int pb), .val (.int pc), .val (.int pd), .val (.int pe), .val (.int (1 : Int32)), .val (.ref ar), .val (.int (Int32.ofNat gi))] [])) _
      refine XS.iconst X25.here hx rfl (hb hby at_100) ?_
      show Steps p.tables e below (T25.setTop (mkF m 101 #[.val (.int pl), .val (.int pa), .val (.int pb), .val (.int pc), .val (.int pd), .val (.int pe), .val (.int (1 : Int32)), .val (.ref ar), .val (.int (Int32.ofNat gi))] [(.int (1 : Int32))])) _
      refine XS.goto X25.here hx rfl (pc0 := 101) (pc' := 105) rfl (hb hby at_101) (by decide) (by decide) ?_
      show Steps p.tables e below (T25.setTop (mkF m 105 #[.val (.int pl), .val (.int pa), .val (.int pb), .val (.int pc), .val (.int pd), .val (.int pe), .val (.int (1 : Int32)), .val (.ref ar), .val (.int (Int32.ofNat gi))] [(.int (1 : Int32))])) _
      exact k)
    obtain ⟨fs, hr, hrun, hended, hW, hsame⟩ := X25.leave (v := (some (.int (1 : Int32)))) (fun h => by rw [Bd.returns] at h; cases h)
    refine ⟨_, _, pre0 _ (c27 _ (retN X25 hx (t := .boolean) Bd.returns (by simp) (hb hby at_105) hr)), hrun, hended, _, _, rfl, ?_, ⟨_, rfl⟩, hW, hsame.mono (by decide) (by decide)⟩
    show Q_0 Z pl pa pb pc pd pe h0 n0 _ T25.heap _
    rw [e25]
    exact ⟨rfl, M25⟩
  · rw [nk] at c1
    have c28 : ∀ t, Steps p.tables e below (s₁.setTop (mkF m 11 #[.val (.int pl), .val (.int pa), .val (.int pb), .val (.int pc), .val (.int pd), .val (.int pe), .val (.int (2 : Int32)), .unset, .unset] [(.int (2 : Int32))])) t → Steps p.tables e below (s₁.setTop (entryFrame m #[(.int pl), (.int pa), (.int pb), (.int pc), (.int pd), (.int pe)] maxLocals)) t := fun t k => c1 t (by
      show Steps p.tables e below (s₁.setTop (mkF m 9 #[.val (.int pl), .val (.int pa), .val (.int pb), .val (.int pc), .val (.int pd), .val (.int pe), .val (.int (2 : Int32)), .unset, .unset] [])) _
      refine XS.iload X0.here hx rfl (hb hby at_9) rfl ?_
      show Steps p.tables e below (s₁.setTop (mkF m 11 #[.val (.int pl), .val (.int pa), .val (.int pb), .val (.int pc), .val (.int pd), .val (.int pe), .val (.int (2 : Int32)), .unset, .unset] [(.int (2 : Int32))])) _
      exact k)
    obtain ⟨T29, h29, kA29, X29, e29, E29, A29, st29⟩ := newP X0 hx hZ (hw _ (List.mem_of_getElem? (i := 0) rfl)) e0 (g := (mkF m 11 #[.val (.int pl), .val (.int pa), .val (.int pb), .val (.int pc), .val (.int pd), .val (.int pe), .val (.int (2 : Int32)), .unset, .unset] [(.int (2 : Int32))])) rfl (hb hby at_11) rfl (by decide) (cap := 2) (by decide) (by decide) (by decide) (by decide)
    obtain ⟨ar, g29⟩ : ∃ z, z = h0.size := ⟨_, rfl⟩
    rw [← g29] at A29 st29
    have F30 : OwnArr.Ag Z h29 ar .double 2 (fun _ => (.double (0 : UInt64))) := (OwnArr.Ag.new A29 (by decide))
    have c31 : ∀ t, Steps p.tables e below (T29.setTop (mkF m 13 #[.val (.int pl), .val (.int pa), .val (.int pb), .val (.int pc), .val (.int pd), .val (.int pe), .val (.int (2 : Int32)), .unset, .unset] [(.ref ar)])) t → Steps p.tables e below (s₁.setTop (entryFrame m #[(.int pl), (.int pa), (.int pb), (.int pc), (.int pd), (.int pe)] maxLocals)) t := fun t k => c28 t (st29 _ k)
    obtain ⟨x0, hx0⟩ : ∃ v : UInt64, FP.i2d pa = v := ⟨_, rfl⟩
    have D0 : DS pa.toInt 0 x0 := hx0 ▸ DS.i2d pa
    have c32 : ∀ t, Steps p.tables e below (T29.setTop (mkF m 25 #[.val (.int pl), .val (.int pa), .val (.int pb), .val (.int pc), .val (.int pd), .val (.int pe), .val (.int (2 : Int32)), .val (.ref ar), .unset] [(.double x0), (.int (0 : Int32)), (.ref ar)])) t → Steps p.tables e below (s₁.setTop (entryFrame m #[(.int pl), (.int pa), (.int pb), (.int pc), (.int pd), (.int pe)] maxLocals)) t := fun t k => c31 t (by
      show Steps p.tables e below (T29.setTop (mkF m 13 #[.val (.int pl), .val (.int pa), .val (.int pb), .val (.int pc), .val (.int pd), .val (.int pe), .val (.int (2 : Int32)), .unset, .unset] [(.ref ar)])) _
      refine XS.astore X29.here hx rfl (hb hby at_13) rfl rfl (l' := #[.val (.int pl), .val (.int pa), .val (.int pb), .val (.int pc), .val (.int pd), .val (.int pe), .val (.int (2 : Int32)), .val (.ref ar), .unset]) rfl ?_
      show Steps p.tables e below (T29.setTop (mkF m 15 #[.val (.int pl), .val (.int pa), .val (.int pb), .val (.int pc), .val (.int pd), .val (.int pe), .val (.int (2 : Int32)), .val (.ref ar), .unset] [])) _
      refine XS.iload X29.here hx rfl (hb hby at_15) rfl ?_
      show Steps p.tables e below (T29.setTop (mkF m 17 #[.val (.int pl), .val (.int pa), .val (.int pb), .val (.int pc), .val (.int pd), .val (.int pe), .val (.int (2 : Int32)), .val (.ref ar), .unset] [(.int (2 : Int32))])) _
      refine XS.ifNo X29.here hx rfl (hb hby at_17) rfl (XT.i0_le_f (by decide)) ?_
      show Steps p.tables e below (T29.setTop (mkF m 20 #[.val (.int pl), .val (.int pa), .val (.int pb), .val (.int pc), .val (.int pd), .val (.int pe), .val (.int (2 : Int32)), .val (.ref ar), .unset] [])) _
      refine XS.aload X29.here hx rfl (hb hby at_20) rfl rfl ?_
      show Steps p.tables e below (T29.setTop (mkF m 22 #[.val (.int pl), .val (.int pa), .val (.int pb), .val (.int pc), .val (.int pd), .val (.int pe), .val (.int (2 : Int32)), .val (.ref ar), .unset] [(.ref ar)])) _
      refine XS.iconst X29.here hx rfl (hb hby at_22) ?_
      show Steps p.tables e below (T29.setTop (mkF m 23 #[.val (.int pl), .val (.int pa), .val (.int pb), .val (.int pc), .val (.int pd), .val (.int pe), .val (.int (2 : Int32)), .val (.ref ar), .unset] [(.int (0 : Int32)), (.ref ar)])) _
      refine XS.iloadN X29.here hx rfl (hb hby at_23) rfl ?_
      show Steps p.tables e below (T29.setTop (mkF m 24 #[.val (.int pl), .val (.int pa), .val (.int pb), .val (.int pc), .val (.int pd), .val (.int pe), .val (.int (2 : Int32)), .val (.ref ar), .unset] [(.int pa), (.int (0 : Int32)), (.ref ar)])) _
      refine XS.i2dS X29.here hx rfl (hb hby at_24) rfl hx0 ?_
      show Steps p.tables e below (T29.setTop (mkF m 25 #[.val (.int pl), .val (.int pa), .val (.int pb), .val (.int pc), .val (.int pd), .val (.int pe), .val (.int (2 : Int32)), .val (.ref ar), .unset] [(.double x0), (.int (0 : Int32)), (.ref ar)])) _
      exact k)
    obtain ⟨T33, h33, X33, e33, W33, st33⟩ := OwnArr.stDA X29 hx hZ e29 F30 (j := (0 : Int32)) (J := 0) (by decide) (by decide) (g := (mkF m 25 #[.val (.int pl), .val (.int pa), .val (.int pb), .val (.int pc), .val (.int pd), .val (.int pe), .val (.int (2 : Int32)), .val (.ref ar), .unset] [(.double x0), (.int (0 : Int32)), (.ref ar)])) rfl rfl (hb hby at_25)
    have F34 : OwnArr.Ag Z h33 ar .double 2 (fun i => if i = 0 then (.double x0) else (fun _ => (.double (0 : UInt64))) i) := (F30.set W33)
    have N33 := Fr.snoc X33 N0 (Nat.le_trans Z0 (Nat.le_of_eq g29.symm))
    have c35 : ∀ t, Steps p.tables e below (T33.setTop (mkF m 26 #[.val (.int pl), .val (.int pa), .val (.int pb), .val (.int pc), .val (.int pd), .val (.int pe), .val (.int (2 : Int32)), .val (.ref ar), .unset] [])) t → Steps p.tables e below (s₁.setTop (entryFrame m #[(.int pl), (.int pa), (.int pb), (.int pc), (.int pd), (.int pe)] maxLocals)) t := fun t k => c32 t (st33 _ k)
    obtain ⟨x1, hx1⟩ : ∃ v : UInt64, FP.i2d pb = v := ⟨_, rfl⟩
    have D1 : DS pb.toInt 0 x1 := hx1 ▸ DS.i2d pb
    have c36 : ∀ t, Steps p.tables e below (T33.setTop (mkF m 37 #[.val (.int pl), .val (.int pa), .val (.int pb), .val (.int pc), .val (.int pd), .val (.int pe), .val (.int (2 : Int32)), .val (.ref ar), .unset] [(.double x1), (.int (1 : Int32)), (.ref ar)])) t → Steps p.tables e below (s₁.setTop (entryFrame m #[(.int pl), (.int pa), (.int pb), (.int pc), (.int pd), (.int pe)] maxLocals)) t := fun t k => c35 t (by
      show Steps p.tables e below (T33.setTop (mkF m 26 #[.val (.int pl), .val (.int pa), .val (.int pb), .val (.int pc), .val (.int pd), .val (.int pe), .val (.int (2 : Int32)), .val (.ref ar), .unset] [])) _
      refine XS.iload X33.here hx rfl (hb hby at_26) rfl ?_
      show Steps p.tables e below (T33.setTop (mkF m 28 #[.val (.int pl), .val (.int pa), .val (.int pb), .val (.int pc), .val (.int pd), .val (.int pe), .val (.int (2 : Int32)), .val (.ref ar), .unset] [(.int (2 : Int32))])) _
      refine XS.iconst X33.here hx rfl (hb hby at_28) ?_
      show Steps p.tables e below (T33.setTop (mkF m 29 #[.val (.int pl), .val (.int pa), .val (.int pb), .val (.int pc), .val (.int pd), .val (.int pe), .val (.int (2 : Int32)), .val (.ref ar), .unset] [(.int (1 : Int32)), (.int (2 : Int32))])) _
      refine XS.icmpNo X33.here hx rfl (hb hby at_29) rfl (XT.ii_le_f (by decide)) ?_
      show Steps p.tables e below (T33.setTop (mkF m 32 #[.val (.int pl), .val (.int pa), .val (.int pb), .val (.int pc), .val (.int pd), .val (.int pe), .val (.int (2 : Int32)), .val (.ref ar), .unset] [])) _
      refine XS.aload X33.here hx rfl (hb hby at_32) rfl rfl ?_
      show Steps p.tables e below (T33.setTop (mkF m 34 #[.val (.int pl), .val (.int pa), .val (.int pb), .val (.int pc), .val (.int pd), .val (.int pe), .val (.int (2 : Int32)), .val (.ref ar), .unset] [(.ref ar)])) _
      refine XS.iconst X33.here hx rfl (hb hby at_34) ?_
      show Steps p.tables e below (T33.setTop (mkF m 35 #[.val (.int pl), .val (.int pa), .val (.int pb), .val (.int pc), .val (.int pd), .val (.int pe), .val (.int (2 : Int32)), .val (.ref ar), .unset] [(.int (1 : Int32)), (.ref ar)])) _
      refine XS.iloadN X33.here hx rfl (hb hby at_35) rfl ?_
      show Steps p.tables e below (T33.setTop (mkF m 36 #[.val (.int pl), .val (.int pa), .val (.int pb), .val (.int pc), .val (.int pd), .val (.int pe), .val (.int (2 : Int32)), .val (.ref ar), .unset] [(.int pb), (.int (1 : Int32)), (.ref ar)])) _
      refine XS.i2dS X33.here hx rfl (hb hby at_36) rfl hx1 ?_
      show Steps p.tables e below (T33.setTop (mkF m 37 #[.val (.int pl), .val (.int pa), .val (.int pb), .val (.int pc), .val (.int pd), .val (.int pe), .val (.int (2 : Int32)), .val (.ref ar), .unset] [(.double x1), (.int (1 : Int32)), (.ref ar)])) _
      exact k)
    obtain ⟨T37, h37, X37, e37, W37, st37⟩ := OwnArr.stDA X33 hx hZ e33 F34 (j := (1 : Int32)) (J := 1) (by decide) (by decide) (g := (mkF m 37 #[.val (.int pl), .val (.int pa), .val (.int pb), .val (.int pc), .val (.int pd), .val (.int pe), .val (.int (2 : Int32)), .val (.ref ar), .unset] [(.double x1), (.int (1 : Int32)), (.ref ar)])) rfl rfl (hb hby at_37)
    have F38 : OwnArr.Ag Z h37 ar .double 2 (fun i => if i = 1 then (.double x1) else (fun i => if i = 0 then (.double x0) else (fun _ => (.double (0 : UInt64))) i) i) := (F34.set W37)
    have N37 := Fr.snoc X37 N33 (Nat.le_trans Z0 (Nat.le_of_eq g29.symm))
    have c39 : ∀ t, Steps p.tables e below (T37.setTop (mkF m 38 #[.val (.int pl), .val (.int pa), .val (.int pb), .val (.int pc), .val (.int pd), .val (.int pe), .val (.int (2 : Int32)), .val (.ref ar), .unset] [])) t → Steps p.tables e below (s₁.setTop (entryFrame m #[(.int pl), (.int pa), (.int pb), (.int pc), (.int pd), (.int pe)] maxLocals)) t := fun t k => c36 t (st37 _ k)
    obtain ⟨xs, hxs⟩ : ∃ f : Nat → UInt64, f = fun i => if i = 0 then x0 else if i = 1 then x1 else (0 : UInt64) := ⟨_, rfl⟩
    have AX : OwnArr.Ag Z h37 ar .double 2 (fun i => .double (xs i)) := F38.congr (fun j hj => by
      rw [hxs]
      match j, hj with
      | 0, _ => rfl
      | 1, _ => rfl)
    have fin_ : ∀ i, i < 2 → Core.DFin (xs i) := (fun i hi => by
      rw [hxs]
      match i, hi with
      | 0, _ => exact D0.1
      | 1, _ => exact D1.1)
    have c40 : ∀ t, Steps p.tables e below (T37.setTop (mkF m 78 #[.val (.int pl), .val (.int pa), .val (.int pb), .val (.int pc), .val (.int pd), .val (.int pe), .val (.int (2 : Int32)), .val (.ref ar), .unset] [(.ref ar)])) t → Steps p.tables e below (s₁.setTop (entryFrame m #[(.int pl), (.int pa), (.int pb), (.int pc), (.int pd), (.int pe)] maxLocals)) t := fun t k => c39 t (by
      show Steps p.tables e below (T37.setTop (mkF m 38 #[.val (.int pl), .val (.int pa), .val (.int pb), .val (.int pc), .val (.int pd), .val (.int pe), .val (.int (2 : Int32)), .val (.ref ar), .unset] [])) _
      refine XS.iload X37.here hx rfl (hb hby at_38) rfl ?_
      show Steps p.tables e below (T37.setTop (mkF m 40 #[.val (.int pl), .val (.int pa), .val (.int pb), .val (.int pc), .val (.int pd), .val (.int pe), .val (.int (2 : Int32)), .val (.ref ar), .unset] [(.int (2 : Int32))])) _
      refine XS.iconst X37.here hx rfl (hb hby at_40) ?_
      show Steps p.tables e below (T37.setTop (mkF m 41 #[.val (.int pl), .val (.int pa), .val (.int pb), .val (.int pc), .val (.int pd), .val (.int pe), .val (.int (2 : Int32)), .val (.ref ar), .unset] [(.int (2 : Int32)), (.int (2 : Int32))])) _
      refine XS.icmpYes X37.here hx rfl (pc0 := 41) (pc' := 50) rfl (hb hby at_41) rfl (XT.ii_le_t (by decide)) (by decide) (by decide) ?_
      show Steps p.tables e below (T37.setTop (mkF m 50 #[.val (.int pl), .val (.int pa), .val (.int pb), .val (.int pc), .val (.int pd), .val (.int pe), .val (.int (2 : Int32)), .val (.ref ar), .unset] [])) _
      refine XS.iload X37.here hx rfl (hb hby at_50) rfl ?_
      show Steps p.tables e below (T37.setTop (mkF m 52 #[.val (.int pl), .val (.int pa), .val (.int pb), .val (.int pc), .val (.int pd), .val (.int pe), .val (.int (2 : Int32)), .val (.ref ar), .unset] [(.int (2 : Int32))])) _
      refine XS.iconst X37.here hx rfl (hb hby at_52) ?_
      show Steps p.tables e below (T37.setTop (mkF m 53 #[.val (.int pl), .val (.int pa), .val (.int pb), .val (.int pc), .val (.int pd), .val (.int pe), .val (.int (2 : Int32)), .val (.ref ar), .unset] [(.int (3 : Int32)), (.int (2 : Int32))])) _
      refine XS.icmpYes X37.here hx rfl (pc0 := 53) (pc' := 63) rfl (hb hby at_53) rfl (XT.ii_le_t (by decide)) (by decide) (by decide) ?_
      show Steps p.tables e below (T37.setTop (mkF m 63 #[.val (.int pl), .val (.int pa), .val (.int pb), .val (.int pc), .val (.int pd), .val (.int pe), .val (.int (2 : Int32)), .val (.ref ar), .unset] [])) _
      refine XS.iload X37.here hx rfl (hb hby at_63) rfl ?_
      show Steps p.tables e below (T37.setTop (mkF m 65 #[.val (.int pl), .val (.int pa), .val (.int pb), .val (.int pc), .val (.int pd), .val (.int pe), .val (.int (2 : Int32)), .val (.ref ar), .unset] [(.int (2 : Int32))])) _
      refine XS.iconst X37.here hx rfl (hb hby at_65) ?_
      show Steps p.tables e below (T37.setTop (mkF m 66 #[.val (.int pl), .val (.int pa), .val (.int pb), .val (.int pc), .val (.int pd), .val (.int pe), .val (.int (2 : Int32)), .val (.ref ar), .unset] [(.int (4 : Int32)), (.int (2 : Int32))])) _
      refine XS.icmpYes X37.here hx rfl (pc0 := 66) (pc' := 76) rfl (hb hby at_66) rfl (XT.ii_le_t (by decide)) (by decide) (by decide) ?_
      show Steps p.tables e below (T37.setTop (mkF m 76 #[.val (.int pl), .val (.int pa), .val (.int pb), .val (.int pc), .val (.int pd), .val (.int pe), .val (.int (2 : Int32)), .val (.ref ar), .unset] [])) _
      refine XS.aload X37.here hx rfl (hb hby at_76) rfl rfl ?_
      show Steps p.tables e below (T37.setTop (mkF m 78 #[.val (.int pl), .val (.int pa), .val (.int pb), .val (.int pc), .val (.int pd), .val (.int pe), .val (.int (2 : Int32)), .val (.ref ar), .unset] [(.ref ar)])) _
      exact k)
    obtain ⟨_, _, ⟨T41, L41, k41', n41⟩, -, X41, ⟨Lc41, hQ41, l41, y41, z41⟩, st41⟩ := Jvm.LawKit.callS X37 hx (y := (⟨"com/example/streamgrove/streamgrove/learners/ClassScores", "highest", "([D)I"⟩ : MethodName)) hown (mvT hZ (hw _ (List.mem_of_getElem? (i := 1) rfl))) (mvT hZ (hw _ (List.mem_of_getElem? (i := 2) rfl))) (mvT hZ (hw _ (List.mem_of_getElem? (i := 3) rfl))) (mvT hZ (hw _ (List.mem_of_getElem? (i := 4) rfl))) (by decide) (backOf (W := 0) (rm_1 l Z a0 hw [] ar (2 : Int32) xs 2 h37 n0 (Nat.le_trans (Nat.le_trans (Nat.le_trans Z0 E29.1) (Keep.of_wr W33).1) (Keep.of_wr W37).1) AX (by decide) fin_) hZ (hw _ (List.mem_of_getElem? (i := 4) rfl)) (hw _ (List.mem_of_getElem? (i := 3) rfl)) (by decide) (by decide)) (g := (mkF m 78 #[.val (.int pl), .val (.int pa), .val (.int pb), .val (.int pc), .val (.int pd), .val (.int pe), .val (.int (2 : Int32)), .val (.ref ar), .unset] [(.ref ar)])) rfl (by rw [hml]; rfl) (argsL := [(.ref ar)]) (rest := []) (lenOf pd___D_I rfl) rfl (by show 2 * 0 + _ ≤ _; exact Nat.le_of_eq rfl) (hb hby at_78) (fun _ _ => ⟨rfl, e37, (by decide : 1 + 0 ≤ _), (by decide : 2 + 0 ≤ _)⟩)
    dsimp only [Pt.U, Pt.locs, Pt.cells, Pt.slots] at X41 l41 y41 z41 st41 hQ41
    subst l41 y41 z41
    obtain ⟨⟨gi, gi1, rfl, gi2⟩, N41, e41⟩ := hQ41
    have M41 := Fr.app N37 N41
    have c42 : ∀ t, Steps p.tables e below (T41.setTop (mkF m 81 #[.val (.int pl), .val (.int pa), .val (.int pb), .val (.int pc), .val (.int pd), .val (.int pe), .val (.int (2 : Int32)), .val (.ref ar), .unset] [(.int (Int32.ofNat gi))])) t → Steps p.tables e below (s₁.setTop (entryFrame m #[(.int pl), (.int pa), (.int pb), (.int pc), (.int pd), (.int pe)] maxLocals)) t := fun t k => c40 t (st41 _ k)
    have c43 : ∀ t, Steps p.tables e below (T41.setTop (mkF m 94 #[.val (.int pl), .val (.int pa), .val (.int pb), .val (.int pc), .val (.int pd), .val (.int pe), .val (.int (2 : Int32)), .val (.ref ar), .val (.int (Int32.ofNat gi))] [(.int pe), (.int pd), (.int pc), (.int pb), (.int pa), (.int (2 : Int32)), (.int (Int32.ofNat gi))])) t → Steps p.tables e below (s₁.setTop (entryFrame m #[(.int pl), (.int pa), (.int pb), (.int pc), (.int pd), (.int pe)] maxLocals)) t := fun t k => c42 t (by
      show Steps p.tables e below (T41.setTop (mkF m 81 #[.val (.int pl), .val (.int pa), .val (.int pb), .val (.int pc), .val (.int pd), .val (.int pe), .val (.int (2 : Int32)), .val (.ref ar), .unset] [(.int (Int32.ofNat gi))])) _
      refine XS.istore X41.here hx rfl (hb hby at_81) rfl (l' := #[.val (.int pl), .val (.int pa), .val (.int pb), .val (.int pc), .val (.int pd), .val (.int pe), .val (.int (2 : Int32)), .val (.ref ar), .val (.int (Int32.ofNat gi))]) rfl ?_
      show Steps p.tables e below (T41.setTop (mkF m 83 #[.val (.int pl), .val (.int pa), .val (.int pb), .val (.int pc), .val (.int pd), .val (.int pe), .val (.int (2 : Int32)), .val (.ref ar), .val (.int (Int32.ofNat gi))] [])) _
      refine XS.iload X41.here hx rfl (hb hby at_83) rfl ?_
      show Steps p.tables e below (T41.setTop (mkF m 85 #[.val (.int pl), .val (.int pa), .val (.int pb), .val (.int pc), .val (.int pd), .val (.int pe), .val (.int (2 : Int32)), .val (.ref ar), .val (.int (Int32.ofNat gi))] [(.int (Int32.ofNat gi))])) _
      refine XS.iload X41.here hx rfl (hb hby at_85) rfl ?_
      show Steps p.tables e below (T41.setTop (mkF m 87 #[.val (.int pl), .val (.int pa), .val (.int pb), .val (.int pc), .val (.int pd), .val (.int pe), .val (.int (2 : Int32)), .val (.ref ar), .val (.int (Int32.ofNat gi))] [(.int (2 : Int32)), (.int (Int32.ofNat gi))])) _
      refine XS.iloadN X41.here hx rfl (hb hby at_87) rfl ?_
      show Steps p.tables e below (T41.setTop (mkF m 88 #[.val (.int pl), .val (.int pa), .val (.int pb), .val (.int pc), .val (.int pd), .val (.int pe), .val (.int (2 : Int32)), .val (.ref ar), .val (.int (Int32.ofNat gi))] [(.int pa), (.int (2 : Int32)), (.int (Int32.ofNat gi))])) _
      refine XS.iloadN X41.here hx rfl (hb hby at_88) rfl ?_
      show Steps p.tables e below (T41.setTop (mkF m 89 #[.val (.int pl), .val (.int pa), .val (.int pb), .val (.int pc), .val (.int pd), .val (.int pe), .val (.int (2 : Int32)), .val (.ref ar), .val (.int (Int32.ofNat gi))] [(.int pb), (.int pa), (.int (2 : Int32)), (.int (Int32.ofNat gi))])) _
      refine XS.iloadN X41.here hx rfl (hb hby at_89) rfl ?_
      show Steps p.tables e below (T41.setTop (mkF m 90 #[.val (.int pl), .val (.int pa), .val (.int pb), .val (.int pc), .val (.int pd), .val (.int pe), .val (.int (2 : Int32)), .val (.ref ar), .val (.int (Int32.ofNat gi))] [(.int pc), (.int pb), (.int pa), (.int (2 : Int32)), (.int (Int32.ofNat gi))])) _
      refine XS.iload X41.here hx rfl (hb hby at_90) rfl ?_
      show Steps p.tables e below (T41.setTop (mkF m 92 #[.val (.int pl), .val (.int pa), .val (.int pb), .val (.int pc), .val (.int pd), .val (.int pe), .val (.int (2 : Int32)), .val (.ref ar), .val (.int (Int32.ofNat gi))] [(.int pd), (.int pc), (.int pb), (.int pa), (.int (2 : Int32)), (.int (Int32.ofNat gi))])) _
      refine XS.iload X41.here hx rfl (hb hby at_92) rfl ?_
      show Steps p.tables e below (T41.setTop (mkF m 94 #[.val (.int pl), .val (.int pa), .val (.int pb), .val (.int pc), .val (.int pd), .val (.int pe), .val (.int (2 : Int32)), .val (.ref ar), .val (.int (Int32.ofNat gi))] [(.int pe), (.int pd), (.int pc), (.int pb), (.int pa), (.int (2 : Int32)), (.int (Int32.ofNat gi))])) _
      exact k)
    obtain ⟨_, _, ⟨T44, L44, k44', n44⟩, -, X44, ⟨Lc44, hQ44, l44, y44, z44⟩, st44⟩ := Jvm.LawKit.callS X41 hx (y := (⟨"com/example/streamgrove/streamgrove/learners/ClassScoresHighestPinLaw", "expected", "(IIIIII)I"⟩ : MethodName)) hown (mvT hZ (hw _ (List.mem_of_getElem? (i := 5) rfl))) (mvT hZ (hw _ (List.mem_of_getElem? (i := 6) rfl))) (mvT hZ (hw _ (List.mem_of_getElem? (i := 7) rfl))) (mvT hZ (hw _ (List.mem_of_getElem? (i := 8) rfl))) (by decide) (backOf (W := 1) (rm_2_2 l Z a0 hw [] pa pb pc pd pe h37 n0 (Nat.le_trans (Nat.le_trans (Nat.le_trans Z0 E29.1) (Keep.of_wr W33).1) (Keep.of_wr W37).1)) hZ (hw _ (List.mem_of_getElem? (i := 8) rfl)) (hw _ (List.mem_of_getElem? (i := 7) rfl)) (by decide) (by decide)) (g := (mkF m 94 #[.val (.int pl), .val (.int pa), .val (.int pb), .val (.int pc), .val (.int pd), .val (.int pe), .val (.int (2 : Int32)), .val (.ref ar), .val (.int (Int32.ofNat gi))] [(.int pe), (.int pd), (.int pc), (.int pb), (.int pa), (.int (2 : Int32)), (.int (Int32.ofNat gi))])) rfl (by rw [hml]; rfl) (argsL := [(.int (2 : Int32)), (.int pa), (.int pb), (.int pc), (.int pd), (.int pe)]) (rest := [(.int (Int32.ofNat gi))]) (lenOf pd__IIIIII_I rfl) rfl (by show 2 * 0 + _ ≤ _; exact Nat.le_of_eq rfl) (hb hby at_94) (fun _ _ => ⟨rfl, e41, (by decide : 1 + 0 ≤ _), (by decide : 2 + 0 ≤ _)⟩)
    dsimp only [Pt.U, Pt.locs, Pt.cells, Pt.slots] at X44 l44 y44 z44 st44 hQ44
    subst l44 y44 z44
    obtain ⟨⟨ei, ei1, rfl, ei2⟩, N44, e44⟩ := hQ44
    have M44 := Fr.app M41 N44
    have c45 : ∀ t, Steps p.tables e below (T44.setTop (mkF m 97 #[.val (.int pl), .val (.int pa), .val (.int pb), .val (.int pc), .val (.int pd), .val (.int pe), .val (.int (2 : Int32)), .val (.ref ar), .val (.int (Int32.ofNat gi))] [(.int (Int32.ofNat ei)), (.int (Int32.ofNat gi))])) t → Steps p.tables e below (s₁.setTop (entryFrame m #[(.int pl), (.int pa), (.int pb), (.int pc), (.int pd), (.int pe)] maxLocals)) t := fun t k => c43 t (st44 _ k)
    have same : gi = ei := (gi2.scale (y := five pa pb pc pd pe) (fun j hj => by
      rw [hxs]
      match j, hj with
      | 0, _ => show zv x0 = pa.toInt * U; have := D0.2; rwa [Int.pow_zero, Int.mul_one] at this
      | 1, _ => show zv x1 = pb.toInt * U; have := D1.2; rwa [Int.pow_zero, Int.mul_one] at this) (by decide)).unique ei2
    have c46 : ∀ t, Steps p.tables e below (T44.setTop (mkF m 105 #[.val (.int pl), .val (.int pa), .val (.int pb), .val (.int pc), .val (.int pd), .val (.int pe), .val (.int (2 : Int32)), .val (.ref ar), .val (.int (Int32.ofNat gi))] [(.int (1 : Int32))])) t → Steps p.tables e below (s₁.setTop (entryFrame m #[(.int pl), (.int pa), (.int pb), (.int pc), (.int pd), (.int pe)] maxLocals)) t := fun t k => c45 t (by
      show Steps p.tables e below (T44.setTop (mkF m 97 #[.val (.int pl), .val (.int pa), .val (.int pb), .val (.int pc), .val (.int pd), .val (.int pe), .val (.int (2 : Int32)), .val (.ref ar), .val (.int (Int32.ofNat gi))] [(.int (Int32.ofNat ei)), (.int (Int32.ofNat gi))])) _
      refine XS.icmpNo X44.here hx rfl (hb hby at_97) rfl (XT.ii_ne_f (by rw [same])) ?_
      show Steps p.tables e below (T44.setTop (mkF m 100 #[.val (.int pl), .val (.int pa), .val (.int pb), .val (.int pc), .val (.int pd), .val (.int pe), .val (.int (2 : Int32)), .val (.ref ar), .val (.int (Int32.ofNat gi))] [])) _
      refine XS.iconst X44.here hx rfl (hb hby at_100) ?_
      show Steps p.tables e below (T44.setTop (mkF m 101 #[.val (.int pl), .val (.int pa), .val (.int pb), .val (.int pc), .val (.int pd), .val (.int pe), .val (.int (2 : Int32)), .val (.ref ar), .val (.int (Int32.ofNat gi))] [(.int (1 : Int32))])) _
      refine XS.goto X44.here hx rfl (pc0 := 101) (pc' := 105) rfl (hb hby at_101) (by decide) (by decide) ?_
      show Steps p.tables e below (T44.setTop (mkF m 105 #[.val (.int pl), .val (.int pa), .val (.int pb), .val (.int pc), .val (.int pd), .val (.int pe), .val (.int (2 : Int32)), .val (.ref ar), .val (.int (Int32.ofNat gi))] [(.int (1 : Int32))])) _
      exact k)
    obtain ⟨fs, hr, hrun, hended, hW, hsame⟩ := X44.leave (v := (some (.int (1 : Int32)))) (fun h => by rw [Bd.returns] at h; cases h)
    refine ⟨_, _, pre0 _ (c46 _ (retN X44 hx (t := .boolean) Bd.returns (by simp) (hb hby at_105) hr)), hrun, hended, _, _, rfl, ?_, ⟨_, rfl⟩, hW, hsame.mono (by decide) (by decide)⟩
    show Q_0 Z pl pa pb pc pd pe h0 n0 _ T44.heap _
    rw [e44]
    exact ⟨rfl, M44⟩
  · rw [nk] at c1
    have c47 : ∀ t, Steps p.tables e below (s₁.setTop (mkF m 11 #[.val (.int pl), .val (.int pa), .val (.int pb), .val (.int pc), .val (.int pd), .val (.int pe), .val (.int (3 : Int32)), .unset, .unset] [(.int (3 : Int32))])) t → Steps p.tables e below (s₁.setTop (entryFrame m #[(.int pl), (.int pa), (.int pb), (.int pc), (.int pd), (.int pe)] maxLocals)) t := fun t k => c1 t (by
      show Steps p.tables e below (s₁.setTop (mkF m 9 #[.val (.int pl), .val (.int pa), .val (.int pb), .val (.int pc), .val (.int pd), .val (.int pe), .val (.int (3 : Int32)), .unset, .unset] [])) _
      refine XS.iload X0.here hx rfl (hb hby at_9) rfl ?_
      show Steps p.tables e below (s₁.setTop (mkF m 11 #[.val (.int pl), .val (.int pa), .val (.int pb), .val (.int pc), .val (.int pd), .val (.int pe), .val (.int (3 : Int32)), .unset, .unset] [(.int (3 : Int32))])) _
      exact k)
    obtain ⟨T48, h48, kA48, X48, e48, E48, A48, st48⟩ := newP X0 hx hZ (hw _ (List.mem_of_getElem? (i := 0) rfl)) e0 (g := (mkF m 11 #[.val (.int pl), .val (.int pa), .val (.int pb), .val (.int pc), .val (.int pd), .val (.int pe), .val (.int (3 : Int32)), .unset, .unset] [(.int (3 : Int32))])) rfl (hb hby at_11) rfl (by decide) (cap := 3) (by decide) (by decide) (by decide) (by decide)
    obtain ⟨ar, g48⟩ : ∃ z, z = h0.size := ⟨_, rfl⟩
    rw [← g48] at A48 st48
    have F49 : OwnArr.Ag Z h48 ar .double 3 (fun _ => (.double (0 : UInt64))) := (OwnArr.Ag.new A48 (by decide))
    have c50 : ∀ t, Steps p.tables e below (T48.setTop (mkF m 13 #[.val (.int pl), .val (.int pa), .val (.int pb), .val (.int pc), .val (.int pd), .val (.int pe), .val (.int (3 : Int32)), .unset, .unset] [(.ref ar)])) t → Steps p.tables e below (s₁.setTop (entryFrame m #[(.int pl), (.int pa), (.int pb), (.int pc), (.int pd), (.int pe)] maxLocals)) t := fun t k => c47 t (st48 _ k)
    obtain ⟨x0, hx0⟩ : ∃ v : UInt64, FP.i2d pa = v := ⟨_, rfl⟩
    have D0 : DS pa.toInt 0 x0 := hx0 ▸ DS.i2d pa
    have c51 : ∀ t, Steps p.tables e below (T48.setTop (mkF m 25 #[.val (.int pl), .val (.int pa), .val (.int pb), .val (.int pc), .val (.int pd), .val (.int pe), .val (.int (3 : Int32)), .val (.ref ar), .unset] [(.double x0), (.int (0 : Int32)), (.ref ar)])) t → Steps p.tables e below (s₁.setTop (entryFrame m #[(.int pl), (.int pa), (.int pb), (.int pc), (.int pd), (.int pe)] maxLocals)) t := fun t k => c50 t (by
      show Steps p.tables e below (T48.setTop (mkF m 13 #[.val (.int pl), .val (.int pa), .val (.int pb), .val (.int pc), .val (.int pd), .val (.int pe), .val (.int (3 : Int32)), .unset, .unset] [(.ref ar)])) _
      refine XS.astore X48.here hx rfl (hb hby at_13) rfl rfl (l' := #[.val (.int pl), .val (.int pa), .val (.int pb), .val (.int pc), .val (.int pd), .val (.int pe), .val (.int (3 : Int32)), .val (.ref ar), .unset]) rfl ?_
      show Steps p.tables e below (T48.setTop (mkF m 15 #[.val (.int pl), .val (.int pa), .val (.int pb), .val (.int pc), .val (.int pd), .val (.int pe), .val (.int (3 : Int32)), .val (.ref ar), .unset] [])) _
      refine XS.iload X48.here hx rfl (hb hby at_15) rfl ?_
      show Steps p.tables e below (T48.setTop (mkF m 17 #[.val (.int pl), .val (.int pa), .val (.int pb), .val (.int pc), .val (.int pd), .val (.int pe), .val (.int (3 : Int32)), .val (.ref ar), .unset] [(.int (3 : Int32))])) _
      refine XS.ifNo X48.here hx rfl (hb hby at_17) rfl (XT.i0_le_f (by decide)) ?_
      show Steps p.tables e below (T48.setTop (mkF m 20 #[.val (.int pl), .val (.int pa), .val (.int pb), .val (.int pc), .val (.int pd), .val (.int pe), .val (.int (3 : Int32)), .val (.ref ar), .unset] [])) _
      refine XS.aload X48.here hx rfl (hb hby at_20) rfl rfl ?_
      show Steps p.tables e below (T48.setTop (mkF m 22 #[.val (.int pl), .val (.int pa), .val (.int pb), .val (.int pc), .val (.int pd), .val (.int pe), .val (.int (3 : Int32)), .val (.ref ar), .unset] [(.ref ar)])) _
      refine XS.iconst X48.here hx rfl (hb hby at_22) ?_
      show Steps p.tables e below (T48.setTop (mkF m 23 #[.val (.int pl), .val (.int pa), .val (.int pb), .val (.int pc), .val (.int pd), .val (.int pe), .val (.int (3 : Int32)), .val (.ref ar), .unset] [(.int (0 : Int32)), (.ref ar)])) _
      refine XS.iloadN X48.here hx rfl (hb hby at_23) rfl ?_
      show Steps p.tables e below (T48.setTop (mkF m 24 #[.val (.int pl), .val (.int pa), .val (.int pb), .val (.int pc), .val (.int pd), .val (.int pe), .val (.int (3 : Int32)), .val (.ref ar), .unset] [(.int pa), (.int (0 : Int32)), (.ref ar)])) _
      refine XS.i2dS X48.here hx rfl (hb hby at_24) rfl hx0 ?_
      show Steps p.tables e below (T48.setTop (mkF m 25 #[.val (.int pl), .val (.int pa), .val (.int pb), .val (.int pc), .val (.int pd), .val (.int pe), .val (.int (3 : Int32)), .val (.ref ar), .unset] [(.double x0), (.int (0 : Int32)), (.ref ar)])) _
      exact k)
    obtain ⟨T52, h52, X52, e52, W52, st52⟩ := OwnArr.stDA X48 hx hZ e48 F49 (j := (0 : Int32)) (J := 0) (by decide) (by decide) (g := (mkF m 25 #[.val (.int pl), .val (.int pa), .val (.int pb), .val (.int pc), .val (.int pd), .val (.int pe), .val (.int (3 : Int32)), .val (.ref ar), .unset] [(.double x0), (.int (0 : Int32)), (.ref ar)])) rfl rfl (hb hby at_25)
    have F53 : OwnArr.Ag Z h52 ar .double 3 (fun i => if i = 0 then (.double x0) else (fun _ => (.double (0 : UInt64))) i) := (F49.set W52)
    have N52 := Fr.snoc X52 N0 (Nat.le_trans Z0 (Nat.le_of_eq g48.symm))
    have c54 : ∀ t, Steps p.tables e below (T52.setTop (mkF m 26 #[.val (.int pl), .val (.int pa), .val (.int pb), .val (.int pc), .val (.int pd), .val (.int pe), .val (.int (3 : Int32)), .val (.ref ar), .unset] [])) t → Steps p.tables e below (s₁.setTop (entryFrame m #[(.int pl), (.int pa), (.int pb), (.int pc), (.int pd), (.int pe)] maxLocals)) t := fun t k => c51 t (st52 _ k)
    obtain ⟨x1, hx1⟩ : ∃ v : UInt64, FP.i2d pb = v := ⟨_, rfl⟩
    have D1 : DS pb.toInt 0 x1 := hx1 ▸ DS.i2d pb
    have c55 : ∀ t, Steps p.tables e below (T52.setTop (mkF m 37 #[.val (.int pl), .val (.int pa), .val (.int pb), .val (.int pc), .val (.int pd), .val (.int pe), .val (.int (3 : Int32)), .val (.ref ar), .unset] [(.double x1), (.int (1 : Int32)), (.ref ar)])) t → Steps p.tables e below (s₁.setTop (entryFrame m #[(.int pl), (.int pa), (.int pb), (.int pc), (.int pd), (.int pe)] maxLocals)) t := fun t k => c54 t (by
      show Steps p.tables e below (T52.setTop (mkF m 26 #[.val (.int pl), .val (.int pa), .val (.int pb), .val (.int pc), .val (.int pd), .val (.int pe), .val (.int (3 : Int32)), .val (.ref ar), .unset] [])) _
      refine XS.iload X52.here hx rfl (hb hby at_26) rfl ?_
      show Steps p.tables e below (T52.setTop (mkF m 28 #[.val (.int pl), .val (.int pa), .val (.int pb), .val (.int pc), .val (.int pd), .val (.int pe), .val (.int (3 : Int32)), .val (.ref ar), .unset] [(.int (3 : Int32))])) _
      refine XS.iconst X52.here hx rfl (hb hby at_28) ?_
      show Steps p.tables e below (T52.setTop (mkF m 29 #[.val (.int pl), .val (.int pa), .val (.int pb), .val (.int pc), .val (.int pd), .val (.int pe), .val (.int (3 : Int32)), .val (.ref ar), .unset] [(.int (1 : Int32)), (.int (3 : Int32))])) _
      refine XS.icmpNo X52.here hx rfl (hb hby at_29) rfl (XT.ii_le_f (by decide)) ?_
      show Steps p.tables e below (T52.setTop (mkF m 32 #[.val (.int pl), .val (.int pa), .val (.int pb), .val (.int pc), .val (.int pd), .val (.int pe), .val (.int (3 : Int32)), .val (.ref ar), .unset] [])) _
      refine XS.aload X52.here hx rfl (hb hby at_32) rfl rfl ?_
      show Steps p.tables e below (T52.setTop (mkF m 34 #[.val (.int pl), .val (.int pa), .val (.int pb), .val (.int pc), .val (.int pd), .val (.int pe), .val (.int (3 : Int32)), .val (.ref ar), .unset] [(.ref ar)])) _
      refine XS.iconst X52.here hx rfl (hb hby at_34) ?_
      show Steps p.tables e below (T52.setTop (mkF m 35 #[.val (.int pl), .val (.int pa), .val (.int pb), .val (.int pc), .val (.int pd), .val (.int pe), .val (.int (3 : Int32)), .val (.ref ar), .unset] [(.int (1 : Int32)), (.ref ar)])) _
      refine XS.iloadN X52.here hx rfl (hb hby at_35) rfl ?_
      show Steps p.tables e below (T52.setTop (mkF m 36 #[.val (.int pl), .val (.int pa), .val (.int pb), .val (.int pc), .val (.int pd), .val (.int pe), .val (.int (3 : Int32)), .val (.ref ar), .unset] [(.int pb), (.int (1 : Int32)), (.ref ar)])) _
      refine XS.i2dS X52.here hx rfl (hb hby at_36) rfl hx1 ?_
      show Steps p.tables e below (T52.setTop (mkF m 37 #[.val (.int pl), .val (.int pa), .val (.int pb), .val (.int pc), .val (.int pd), .val (.int pe), .val (.int (3 : Int32)), .val (.ref ar), .unset] [(.double x1), (.int (1 : Int32)), (.ref ar)])) _
      exact k)
    obtain ⟨T56, h56, X56, e56, W56, st56⟩ := OwnArr.stDA X52 hx hZ e52 F53 (j := (1 : Int32)) (J := 1) (by decide) (by decide) (g := (mkF m 37 #[.val (.int pl), .val (.int pa), .val (.int pb), .val (.int pc), .val (.int pd), .val (.int pe), .val (.int (3 : Int32)), .val (.ref ar), .unset] [(.double x1), (.int (1 : Int32)), (.ref ar)])) rfl rfl (hb hby at_37)
    have F57 : OwnArr.Ag Z h56 ar .double 3 (fun i => if i = 1 then (.double x1) else (fun i => if i = 0 then (.double x0) else (fun _ => (.double (0 : UInt64))) i) i) := (F53.set W56)
    have N56 := Fr.snoc X56 N52 (Nat.le_trans Z0 (Nat.le_of_eq g48.symm))
    have c58 : ∀ t, Steps p.tables e below (T56.setTop (mkF m 38 #[.val (.int pl), .val (.int pa), .val (.int pb), .val (.int pc), .val (.int pd), .val (.int pe), .val (.int (3 : Int32)), .val (.ref ar), .unset] [])) t → Steps p.tables e below (s₁.setTop (entryFrame m #[(.int pl), (.int pa), (.int pb), (.int pc), (.int pd), (.int pe)] maxLocals)) t := fun t k => c55 t (st56 _ k)
    obtain ⟨x2, hx2⟩ : ∃ v : UInt64, FP.i2d pc = v := ⟨_, rfl⟩
    have D2 : DS pc.toInt 0 x2 := hx2 ▸ DS.i2d pc
    have c59 : ∀ t, Steps p.tables e below (T56.setTop (mkF m 49 #[.val (.int pl), .val (.int pa), .val (.int pb), .val (.int pc), .val (.int pd), .val (.int pe), .val (.int (3 : Int32)), .val (.ref ar), .unset] [(.double x2), (.int (2 : Int32)), (.ref ar)])) t → Steps p.tables e below (s₁.setTop (entryFrame m #[(.int pl), (.int pa), (.int pb), (.int pc), (.int pd), (.int pe)] maxLocals)) t := fun t k => c58 t (by
      show Steps p.tables e below (T56.setTop (mkF m 38 #[.val (.int pl), .val (.int pa), .val (.int pb), .val (.int pc), .val (.int pd), .val (.int pe), .val (.int (3 : Int32)), .val (.ref ar), .unset] [])) _
      refine XS.iload X56.here hx rfl (hb hby at_38) rfl ?_
      show Steps p.tables e below (T56.setTop (mkF m 40 #[.val (.int pl), .val (.int pa), .val (.int pb), .val (.int pc), .val (.int pd), .val (.int pe), .val (.int (3 : Int32)), .val (.ref ar), .unset] [(.int (3 : Int32))])) _
      refine XS.iconst X56.here hx rfl (hb hby at_40) ?_
      show Steps p.tables e below (T56.setTop (mkF m 41 #[.val (.int pl), .val (.int pa), .val (.int pb), .val (.int pc), .val (.int pd), .val (.int pe), .val (.int (3 : Int32)), .val (.ref ar), .unset] [(.int (2 : Int32)), (.int (3 : Int32))])) _
      refine XS.icmpNo X56.here hx rfl (hb hby at_41) rfl (XT.ii_le_f (by decide)) ?_
      show Steps p.tables e below (T56.setTop (mkF m 44 #[.val (.int pl), .val (.int pa), .val (.int pb), .val (.int pc), .val (.int pd), .val (.int pe), .val (.int (3 : Int32)), .val (.ref ar), .unset] [])) _
      refine XS.aload X56.here hx rfl (hb hby at_44) rfl rfl ?_
      show Steps p.tables e below (T56.setTop (mkF m 46 #[.val (.int pl), .val (.int pa), .val (.int pb), .val (.int pc), .val (.int pd), .val (.int pe), .val (.int (3 : Int32)), .val (.ref ar), .unset] [(.ref ar)])) _
      refine XS.iconst X56.here hx rfl (hb hby at_46) ?_
      show Steps p.tables e below (T56.setTop (mkF m 47 #[.val (.int pl), .val (.int pa), .val (.int pb), .val (.int pc), .val (.int pd), .val (.int pe), .val (.int (3 : Int32)), .val (.ref ar), .unset] [(.int (2 : Int32)), (.ref ar)])) _
      refine XS.iloadN X56.here hx rfl (hb hby at_47) rfl ?_
      show Steps p.tables e below (T56.setTop (mkF m 48 #[.val (.int pl), .val (.int pa), .val (.int pb), .val (.int pc), .val (.int pd), .val (.int pe), .val (.int (3 : Int32)), .val (.ref ar), .unset] [(.int pc), (.int (2 : Int32)), (.ref ar)])) _
      refine XS.i2dS X56.here hx rfl (hb hby at_48) rfl hx2 ?_
      show Steps p.tables e below (T56.setTop (mkF m 49 #[.val (.int pl), .val (.int pa), .val (.int pb), .val (.int pc), .val (.int pd), .val (.int pe), .val (.int (3 : Int32)), .val (.ref ar), .unset] [(.double x2), (.int (2 : Int32)), (.ref ar)])) _
      exact k)
    obtain ⟨T60, h60, X60, e60, W60, st60⟩ := OwnArr.stDA X56 hx hZ e56 F57 (j := (2 : Int32)) (J := 2) (by decide) (by decide) (g := (mkF m 49 #[.val (.int pl), .val (.int pa), .val (.int pb), .val (.int pc), .val (.int pd), .val (.int pe), .val (.int (3 : Int32)), .val (.ref ar), .unset] [(.double x2), (.int (2 : Int32)), (.ref ar)])) rfl rfl (hb hby at_49)
    have F61 : OwnArr.Ag Z h60 ar .double 3 (fun i => if i = 2 then (.double x2) else (fun i => if i = 1 then (.double x1) else (fun i => if i = 0 then (.double x0) else (fun _ => (.double (0 : UInt64))) i) i) i) := (F57.set W60)
    have N60 := Fr.snoc X60 N56 (Nat.le_trans Z0 (Nat.le_of_eq g48.symm))
    have c62 : ∀ t, Steps p.tables e below (T60.setTop (mkF m 50 #[.val (.int pl), .val (.int pa), .val (.int pb), .val (.int pc), .val (.int pd), .val (.int pe), .val (.int (3 : Int32)), .val (.ref ar), .unset] [])) t → Steps p.tables e below (s₁.setTop (entryFrame m #[(.int pl), (.int pa), (.int pb), (.int pc), (.int pd), (.int pe)] maxLocals)) t := fun t k => c59 t (st60 _ k)
    obtain ⟨xs, hxs⟩ : ∃ f : Nat → UInt64, f = fun i => if i = 0 then x0 else if i = 1 then x1 else if i = 2 then x2 else (0 : UInt64) := ⟨_, rfl⟩
    have AX : OwnArr.Ag Z h60 ar .double 3 (fun i => .double (xs i)) := F61.congr (fun j hj => by
      rw [hxs]
      match j, hj with
      | 0, _ => rfl
      | 1, _ => rfl
      | 2, _ => rfl)
    have fin_ : ∀ i, i < 3 → Core.DFin (xs i) := (fun i hi => by
      rw [hxs]
      match i, hi with
      | 0, _ => exact D0.1
      | 1, _ => exact D1.1
      | 2, _ => exact D2.1)
    have c63 : ∀ t, Steps p.tables e below (T60.setTop (mkF m 78 #[.val (.int pl), .val (.int pa), .val (.int pb), .val (.int pc), .val (.int pd), .val (.int pe), .val (.int (3 : Int32)), .val (.ref ar), .unset] [(.ref ar)])) t → Steps p.tables e below (s₁.setTop (entryFrame m #[(.int pl), (.int pa), (.int pb), (.int pc), (.int pd), (.int pe)] maxLocals)) t := fun t k => c62 t (by
      show Steps p.tables e below (T60.setTop (mkF m 50 #[.val (.int pl), .val (.int pa), .val (.int pb), .val (.int pc), .val (.int pd), .val (.int pe), .val (.int (3 : Int32)), .val (.ref ar), .unset] [])) _
      refine XS.iload X60.here hx rfl (hb hby at_50) rfl ?_
      show Steps p.tables e below (T60.setTop (mkF m 52 #[.val (.int pl), .val (.int pa), .val (.int pb), .val (.int pc), .val (.int pd), .val (.int pe), .val (.int (3 : Int32)), .val (.ref ar), .unset] [(.int (3 : Int32))])) _
      refine XS.iconst X60.here hx rfl (hb hby at_52) ?_
      show Steps p.tables e below (T60.setTop (mkF m 53 #[.val (.int pl), .val (.int pa), .val (.int pb), .val (.int pc), .val (.int pd), .val (.int pe), .val (.int (3 : Int32)), .val (.ref ar), .unset] [(.int (3 : Int32)), (.int (3 : Int32))])) _
      refine XS.icmpYes X60.here hx rfl (pc0 := 53) (pc' := 63) rfl (hb hby at_53) rfl (XT.ii_le_t (by decide)) (by decide) (by decide) ?_
      show Steps p.tables e below (T60.setTop (mkF m 63 #[.val (.int pl), .val (.int pa), .val (.int pb), .val (.int pc), .val (.int pd), .val (.int pe), .val (.int (3 : Int32)), .val (.ref ar), .unset] [])) _
      refine XS.iload X60.here hx rfl (hb hby at_63) rfl ?_
      show Steps p.tables e below (T60.setTop (mkF m 65 #[.val (.int pl), .val (.int pa), .val (.int pb), .val (.int pc), .val (.int pd), .val (.int pe), .val (.int (3 : Int32)), .val (.ref ar), .unset] [(.int (3 : Int32))])) _
      refine XS.iconst X60.here hx rfl (hb hby at_65) ?_
      show Steps p.tables e below (T60.setTop (mkF m 66 #[.val (.int pl), .val (.int pa), .val (.int pb), .val (.int pc), .val (.int pd), .val (.int pe), .val (.int (3 : Int32)), .val (.ref ar), .unset] [(.int (4 : Int32)), (.int (3 : Int32))])) _
      refine XS.icmpYes X60.here hx rfl (pc0 := 66) (pc' := 76) rfl (hb hby at_66) rfl (XT.ii_le_t (by decide)) (by decide) (by decide) ?_
      show Steps p.tables e below (T60.setTop (mkF m 76 #[.val (.int pl), .val (.int pa), .val (.int pb), .val (.int pc), .val (.int pd), .val (.int pe), .val (.int (3 : Int32)), .val (.ref ar), .unset] [])) _
      refine XS.aload X60.here hx rfl (hb hby at_76) rfl rfl ?_
      show Steps p.tables e below (T60.setTop (mkF m 78 #[.val (.int pl), .val (.int pa), .val (.int pb), .val (.int pc), .val (.int pd), .val (.int pe), .val (.int (3 : Int32)), .val (.ref ar), .unset] [(.ref ar)])) _
      exact k)
    obtain ⟨_, _, ⟨T64, L64, k64', n64⟩, -, X64, ⟨Lc64, hQ64, l64, y64, z64⟩, st64⟩ := Jvm.LawKit.callS X60 hx (y := (⟨"com/example/streamgrove/streamgrove/learners/ClassScores", "highest", "([D)I"⟩ : MethodName)) hown (mvT hZ (hw _ (List.mem_of_getElem? (i := 1) rfl))) (mvT hZ (hw _ (List.mem_of_getElem? (i := 2) rfl))) (mvT hZ (hw _ (List.mem_of_getElem? (i := 3) rfl))) (mvT hZ (hw _ (List.mem_of_getElem? (i := 4) rfl))) (by decide) (backOf (W := 0) (rm_1 l Z a0 hw [] ar (3 : Int32) xs 3 h60 n0 (Nat.le_trans (Nat.le_trans (Nat.le_trans (Nat.le_trans Z0 E48.1) (Keep.of_wr W52).1) (Keep.of_wr W56).1) (Keep.of_wr W60).1) AX (by decide) fin_) hZ (hw _ (List.mem_of_getElem? (i := 4) rfl)) (hw _ (List.mem_of_getElem? (i := 3) rfl)) (by decide) (by decide)) (g := (mkF m 78 #[.val (.int pl), .val (.int pa), .val (.int pb), .val (.int pc), .val (.int pd), .val (.int pe), .val (.int (3 : Int32)), .val (.ref ar), .unset] [(.ref ar)])) rfl (by rw [hml]; rfl) (argsL := [(.ref ar)]) (rest := []) (lenOf pd___D_I rfl) rfl (by show 2 * 0 + _ ≤ _; exact Nat.le_of_eq rfl) (hb hby at_78) (fun _ _ => ⟨rfl, e60, (by decide : 1 + 0 ≤ _), (by decide : 3 + 0 ≤ _)⟩)
    dsimp only [Pt.U, Pt.locs, Pt.cells, Pt.slots] at X64 l64 y64 z64 st64 hQ64
    subst l64 y64 z64
    obtain ⟨⟨gi, gi1, rfl, gi2⟩, N64, e64⟩ := hQ64
    have M64 := Fr.app N60 N64
    have c65 : ∀ t, Steps p.tables e below (T64.setTop (mkF m 81 #[.val (.int pl), .val (.int pa), .val (.int pb), .val (.int pc), .val (.int pd), .val (.int pe), .val (.int (3 : Int32)), .val (.ref ar), .unset] [(.int (Int32.ofNat gi))])) t → Steps p.tables e below (s₁.setTop (entryFrame m #[(.int pl), (.int pa), (.int pb), (.int pc), (.int pd), (.int pe)] maxLocals)) t := fun t k => c63 t (st64 _ k)
    have c66 : ∀ t, Steps p.tables e below (T64.setTop (mkF m 94 #[.val (.int pl), .val (.int pa), .val (.int pb), .val (.int pc), .val (.int pd), .val (.int pe), .val (.int (3 : Int32)), .val (.ref ar), .val (.int (Int32.ofNat gi))] [(.int pe), (.int pd), (.int pc), (.int pb), (.int pa), (.int (3 : Int32)), (.int (Int32.ofNat gi))])) t → Steps p.tables e below (s₁.setTop (entryFrame m #[(.int pl), (.int pa), (.int pb), (.int pc), (.int pd), (.int pe)] maxLocals)) t := fun t k => c65 t (by
      show Steps p.tables e below (T64.setTop (mkF m 81 #[.val (.int pl), .val (.int pa), .val (.int pb), .val (.int pc), .val (.int pd), .val (.int pe), .val (.int (3 : Int32)), .val (.ref ar), .unset] [(.int (Int32.ofNat gi))])) _
      refine XS.istore X64.here hx rfl (hb hby at_81) rfl (l' := #[.val (.int pl), .val (.int pa), .val (.int pb), .val (.int pc), .val (.int pd), .val (.int pe), .val (.int (3 : Int32)), .val (.ref ar), .val (.int (Int32.ofNat gi))]) rfl ?_
      show Steps p.tables e below (T64.setTop (mkF m 83 #[.val (.int pl), .val (.int pa), .val (.int pb), .val (.int pc), .val (.int pd), .val (.int pe), .val (.int (3 : Int32)), .val (.ref ar), .val (.int (Int32.ofNat gi))] [])) _
      refine XS.iload X64.here hx rfl (hb hby at_83) rfl ?_
      show Steps p.tables e below (T64.setTop (mkF m 85 #[.val (.int pl), .val (.int pa), .val (.int pb), .val (.int pc), .val (.int pd), .val (.int pe), .val (.int (3 : Int32)), .val (.ref ar), .val (.int (Int32.ofNat gi))] [(.int (Int32.ofNat gi))])) _
      refine XS.iload X64.here hx rfl (hb hby at_85) rfl ?_
      show Steps p.tables e below (T64.setTop (mkF m 87 #[.val (.int pl), .val (.int pa), .val (.int pb), .val (.int pc), .val (.int pd), .val (.int pe), .val (.int (3 : Int32)), .val (.ref ar), .val (.int (Int32.ofNat gi))] [(.int (3 : Int32)), (.int (Int32.ofNat gi))])) _
      refine XS.iloadN X64.here hx rfl (hb hby at_87) rfl ?_
      show Steps p.tables e below (T64.setTop (mkF m 88 #[.val (.int pl), .val (.int pa), .val (.int pb), .val (.int pc), .val (.int pd), .val (.int pe), .val (.int (3 : Int32)), .val (.ref ar), .val (.int (Int32.ofNat gi))] [(.int pa), (.int (3 : Int32)), (.int (Int32.ofNat gi))])) _
      refine XS.iloadN X64.here hx rfl (hb hby at_88) rfl ?_
      show Steps p.tables e below (T64.setTop (mkF m 89 #[.val (.int pl), .val (.int pa), .val (.int pb), .val (.int pc), .val (.int pd), .val (.int pe), .val (.int (3 : Int32)), .val (.ref ar), .val (.int (Int32.ofNat gi))] [(.int pb), (.int pa), (.int (3 : Int32)), (.int (Int32.ofNat gi))])) _
      refine XS.iloadN X64.here hx rfl (hb hby at_89) rfl ?_
      show Steps p.tables e below (T64.setTop (mkF m 90 #[.val (.int pl), .val (.int pa), .val (.int pb), .val (.int pc), .val (.int pd), .val (.int pe), .val (.int (3 : Int32)), .val (.ref ar), .val (.int (Int32.ofNat gi))] [(.int pc), (.int pb), (.int pa), (.int (3 : Int32)), (.int (Int32.ofNat gi))])) _
      refine XS.iload X64.here hx rfl (hb hby at_90) rfl ?_
      show Steps p.tables e below (T64.setTop (mkF m 92 #[.val (.int pl), .val (.int pa), .val (.int pb), .val (.int pc), .val (.int pd), .val (.int pe), .val (.int (3 : Int32)), .val (.ref ar), .val (.int (Int32.ofNat gi))] [(.int pd), (.int pc), (.int pb), (.int pa), (.int (3 : Int32)), (.int (Int32.ofNat gi))])) _
      refine XS.iload X64.here hx rfl (hb hby at_92) rfl ?_
      show Steps p.tables e below (T64.setTop (mkF m 94 #[.val (.int pl), .val (.int pa), .val (.int pb), .val (.int pc), .val (.int pd), .val (.int pe), .val (.int (3 : Int32)), .val (.ref ar), .val (.int (Int32.ofNat gi))] [(.int pe), (.int pd), (.int pc), (.int pb), (.int pa), (.int (3 : Int32)), (.int (Int32.ofNat gi))])) _
      exact k)
    obtain ⟨_, _, ⟨T67, L67, k67', n67⟩, -, X67, ⟨Lc67, hQ67, l67, y67, z67⟩, st67⟩ := Jvm.LawKit.callS X64 hx (y := (⟨"com/example/streamgrove/streamgrove/learners/ClassScoresHighestPinLaw", "expected", "(IIIIII)I"⟩ : MethodName)) hown (mvT hZ (hw _ (List.mem_of_getElem? (i := 5) rfl))) (mvT hZ (hw _ (List.mem_of_getElem? (i := 6) rfl))) (mvT hZ (hw _ (List.mem_of_getElem? (i := 7) rfl))) (mvT hZ (hw _ (List.mem_of_getElem? (i := 8) rfl))) (by decide) (backOf (W := 1) (rm_2_3 l Z a0 hw [] pa pb pc pd pe h60 n0 (Nat.le_trans (Nat.le_trans (Nat.le_trans (Nat.le_trans Z0 E48.1) (Keep.of_wr W52).1) (Keep.of_wr W56).1) (Keep.of_wr W60).1)) hZ (hw _ (List.mem_of_getElem? (i := 8) rfl)) (hw _ (List.mem_of_getElem? (i := 7) rfl)) (by decide) (by decide)) (g := (mkF m 94 #[.val (.int pl), .val (.int pa), .val (.int pb), .val (.int pc), .val (.int pd), .val (.int pe), .val (.int (3 : Int32)), .val (.ref ar), .val (.int (Int32.ofNat gi))] [(.int pe), (.int pd), (.int pc), (.int pb), (.int pa), (.int (3 : Int32)), (.int (Int32.ofNat gi))])) rfl (by rw [hml]; rfl) (argsL := [(.int (3 : Int32)), (.int pa), (.int pb), (.int pc), (.int pd), (.int pe)]) (rest := [(.int (Int32.ofNat gi))]) (lenOf pd__IIIIII_I rfl) rfl (by show 2 * 0 + _ ≤ _; exact Nat.le_of_eq rfl) (hb hby at_94) (fun _ _ => ⟨rfl, e64, (by decide : 1 + 0 ≤ _), (by decide : 3 + 0 ≤ _)⟩)
    dsimp only [Pt.U, Pt.locs, Pt.cells, Pt.slots] at X67 l67 y67 z67 st67 hQ67
    subst l67 y67 z67
    obtain ⟨⟨ei, ei1, rfl, ei2⟩, N67, e67⟩ := hQ67
    have M67 := Fr.app M64 N67
    have c68 : ∀ t, Steps p.tables e below (T67.setTop (mkF m 97 #[.val (.int pl), .val (.int pa), .val (.int pb), .val (.int pc), .val (.int pd), .val (.int pe), .val (.int (3 : Int32)), .val (.ref ar), .val (.int (Int32.ofNat gi))] [(.int (Int32.ofNat ei)), (.int (Int32.ofNat gi))])) t → Steps p.tables e below (s₁.setTop (entryFrame m #[(.int pl), (.int pa), (.int pb), (.int pc), (.int pd), (.int pe)] maxLocals)) t := fun t k => c66 t (st67 _ k)
    have same : gi = ei := (gi2.scale (y := five pa pb pc pd pe) (fun j hj => by
      rw [hxs]
      match j, hj with
      | 0, _ => show zv x0 = pa.toInt * U; have := D0.2; rwa [Int.pow_zero, Int.mul_one] at this
      | 1, _ => show zv x1 = pb.toInt * U; have := D1.2; rwa [Int.pow_zero, Int.mul_one] at this
      | 2, _ => show zv x2 = pc.toInt * U; have := D2.2; rwa [Int.pow_zero, Int.mul_one] at this) (by decide)).unique ei2
    have c69 : ∀ t, Steps p.tables e below (T67.setTop (mkF m 105 #[.val (.int pl), .val (.int pa), .val (.int pb), .val (.int pc), .val (.int pd), .val (.int pe), .val (.int (3 : Int32)), .val (.ref ar), .val (.int (Int32.ofNat gi))] [(.int (1 : Int32))])) t → Steps p.tables e below (s₁.setTop (entryFrame m #[(.int pl), (.int pa), (.int pb), (.int pc), (.int pd), (.int pe)] maxLocals)) t := fun t k => c68 t (by
      show Steps p.tables e below (T67.setTop (mkF m 97 #[.val (.int pl), .val (.int pa), .val (.int pb), .val (.int pc), .val (.int pd), .val (.int pe), .val (.int (3 : Int32)), .val (.ref ar), .val (.int (Int32.ofNat gi))] [(.int (Int32.ofNat ei)), (.int (Int32.ofNat gi))])) _
      refine XS.icmpNo X67.here hx rfl (hb hby at_97) rfl (XT.ii_ne_f (by rw [same])) ?_
      show Steps p.tables e below (T67.setTop (mkF m 100 #[.val (.int pl), .val (.int pa), .val (.int pb), .val (.int pc), .val (.int pd), .val (.int pe), .val (.int (3 : Int32)), .val (.ref ar), .val (.int (Int32.ofNat gi))] [])) _
      refine XS.iconst X67.here hx rfl (hb hby at_100) ?_
      show Steps p.tables e below (T67.setTop (mkF m 101 #[.val (.int pl), .val (.int pa), .val (.int pb), .val (.int pc), .val (.int pd), .val (.int pe), .val (.int (3 : Int32)), .val (.ref ar), .val (.int (Int32.ofNat gi))] [(.int (1 : Int32))])) _
      refine XS.goto X67.here hx rfl (pc0 := 101) (pc' := 105) rfl (hb hby at_101) (by decide) (by decide) ?_
      show Steps p.tables e below (T67.setTop (mkF m 105 #[.val (.int pl), .val (.int pa), .val (.int pb), .val (.int pc), .val (.int pd), .val (.int pe), .val (.int (3 : Int32)), .val (.ref ar), .val (.int (Int32.ofNat gi))] [(.int (1 : Int32))])) _
      exact k)
    obtain ⟨fs, hr, hrun, hended, hW, hsame⟩ := X67.leave (v := (some (.int (1 : Int32)))) (fun h => by rw [Bd.returns] at h; cases h)
    refine ⟨_, _, pre0 _ (c69 _ (retN X67 hx (t := .boolean) Bd.returns (by simp) (hb hby at_105) hr)), hrun, hended, _, _, rfl, ?_, ⟨_, rfl⟩, hW, hsame.mono (by decide) (by decide)⟩
    show Q_0 Z pl pa pb pc pd pe h0 n0 _ T67.heap _
    rw [e67]
    exact ⟨rfl, M67⟩
  · rw [nk] at c1
    have c70 : ∀ t, Steps p.tables e below (s₁.setTop (mkF m 11 #[.val (.int pl), .val (.int pa), .val (.int pb), .val (.int pc), .val (.int pd), .val (.int pe), .val (.int (4 : Int32)), .unset, .unset] [(.int (4 : Int32))])) t → Steps p.tables e below (s₁.setTop (entryFrame m #[(.int pl), (.int pa), (.int pb), (.int pc), (.int pd), (.int pe)] maxLocals)) t := fun t k => c1 t (by
      show Steps p.tables e below (s₁.setTop (mkF m 9 #[.val (.int pl), .val (.int pa), .val (.int pb), .val (.int pc), .val (.int pd), .val (.int pe), .val (.int (4 : Int32)), .unset, .unset] [])) _
      refine XS.iload X0.here hx rfl (hb hby at_9) rfl ?_
      show Steps p.tables e below (s₁.setTop (mkF m 11 #[.val (.int pl), .val (.int pa), .val (.int pb), .val (.int pc), .val (.int pd), .val (.int pe), .val (.int (4 : Int32)), .unset, .unset] [(.int (4 : Int32))])) _
      exact k)
    obtain ⟨T71, h71, kA71, X71, e71, E71, A71, st71⟩ := newP X0 hx hZ (hw _ (List.mem_of_getElem? (i := 0) rfl)) e0 (g := (mkF m 11 #[.val (.int pl), .val (.int pa), .val (.int pb), .val (.int pc), .val (.int pd), .val (.int pe), .val (.int (4 : Int32)), .unset, .unset] [(.int (4 : Int32))])) rfl (hb hby at_11) rfl (by decide) (cap := 4) (by decide) (by decide) (by decide) (by decide)
    obtain ⟨ar, g71⟩ : ∃ z, z = h0.size := ⟨_, rfl⟩
    rw [← g71] at A71 st71
    have F72 : OwnArr.Ag Z h71 ar .double 4 (fun _ => (.double (0 : UInt64))) := (OwnArr.Ag.new A71 (by decide))
    have c73 : ∀ t, Steps p.tables e below (T71.setTop (mkF m 13 #[.val (.int pl), .val (.int pa), .val (.int pb), .val (.int pc), .val (.int pd), .val (.int pe), .val (.int (4 : Int32)), .unset, .unset] [(.ref ar)])) t → Steps p.tables e below (s₁.setTop (entryFrame m #[(.int pl), (.int pa), (.int pb), (.int pc), (.int pd), (.int pe)] maxLocals)) t := fun t k => c70 t (st71 _ k)
    obtain ⟨x0, hx0⟩ : ∃ v : UInt64, FP.i2d pa = v := ⟨_, rfl⟩
    have D0 : DS pa.toInt 0 x0 := hx0 ▸ DS.i2d pa
    have c74 : ∀ t, Steps p.tables e below (T71.setTop (mkF m 25 #[.val (.int pl), .val (.int pa), .val (.int pb), .val (.int pc), .val (.int pd), .val (.int pe), .val (.int (4 : Int32)), .val (.ref ar), .unset] [(.double x0), (.int (0 : Int32)), (.ref ar)])) t → Steps p.tables e below (s₁.setTop (entryFrame m #[(.int pl), (.int pa), (.int pb), (.int pc), (.int pd), (.int pe)] maxLocals)) t := fun t k => c73 t (by
      show Steps p.tables e below (T71.setTop (mkF m 13 #[.val (.int pl), .val (.int pa), .val (.int pb), .val (.int pc), .val (.int pd), .val (.int pe), .val (.int (4 : Int32)), .unset, .unset] [(.ref ar)])) _
      refine XS.astore X71.here hx rfl (hb hby at_13) rfl rfl (l' := #[.val (.int pl), .val (.int pa), .val (.int pb), .val (.int pc), .val (.int pd), .val (.int pe), .val (.int (4 : Int32)), .val (.ref ar), .unset]) rfl ?_
      show Steps p.tables e below (T71.setTop (mkF m 15 #[.val (.int pl), .val (.int pa), .val (.int pb), .val (.int pc), .val (.int pd), .val (.int pe), .val (.int (4 : Int32)), .val (.ref ar), .unset] [])) _
      refine XS.iload X71.here hx rfl (hb hby at_15) rfl ?_
      show Steps p.tables e below (T71.setTop (mkF m 17 #[.val (.int pl), .val (.int pa), .val (.int pb), .val (.int pc), .val (.int pd), .val (.int pe), .val (.int (4 : Int32)), .val (.ref ar), .unset] [(.int (4 : Int32))])) _
      refine XS.ifNo X71.here hx rfl (hb hby at_17) rfl (XT.i0_le_f (by decide)) ?_
      show Steps p.tables e below (T71.setTop (mkF m 20 #[.val (.int pl), .val (.int pa), .val (.int pb), .val (.int pc), .val (.int pd), .val (.int pe), .val (.int (4 : Int32)), .val (.ref ar), .unset] [])) _
      refine XS.aload X71.here hx rfl (hb hby at_20) rfl rfl ?_
      show Steps p.tables e below (T71.setTop (mkF m 22 #[.val (.int pl), .val (.int pa), .val (.int pb), .val (.int pc), .val (.int pd), .val (.int pe), .val (.int (4 : Int32)), .val (.ref ar), .unset] [(.ref ar)])) _
      refine XS.iconst X71.here hx rfl (hb hby at_22) ?_
      show Steps p.tables e below (T71.setTop (mkF m 23 #[.val (.int pl), .val (.int pa), .val (.int pb), .val (.int pc), .val (.int pd), .val (.int pe), .val (.int (4 : Int32)), .val (.ref ar), .unset] [(.int (0 : Int32)), (.ref ar)])) _
      refine XS.iloadN X71.here hx rfl (hb hby at_23) rfl ?_
      show Steps p.tables e below (T71.setTop (mkF m 24 #[.val (.int pl), .val (.int pa), .val (.int pb), .val (.int pc), .val (.int pd), .val (.int pe), .val (.int (4 : Int32)), .val (.ref ar), .unset] [(.int pa), (.int (0 : Int32)), (.ref ar)])) _
      refine XS.i2dS X71.here hx rfl (hb hby at_24) rfl hx0 ?_
      show Steps p.tables e below (T71.setTop (mkF m 25 #[.val (.int pl), .val (.int pa), .val (.int pb), .val (.int pc), .val (.int pd), .val (.int pe), .val (.int (4 : Int32)), .val (.ref ar), .unset] [(.double x0), (.int (0 : Int32)), (.ref ar)])) _
      exact k)
    obtain ⟨T75, h75, X75, e75, W75, st75⟩ := OwnArr.stDA X71 hx hZ e71 F72 (j := (0 : Int32)) (J := 0) (by decide) (by decide) (g := (mkF m 25 #[.val (.int pl), .val (.int pa), .val (.int pb), .val (.int pc), .val (.int pd), .val (.int pe), .val (.int (4 : Int32)), .val (.ref ar), .unset] [(.double x0), (.int (0 : Int32)), (.ref ar)])) rfl rfl (hb hby at_25)
    have F76 : OwnArr.Ag Z h75 ar .double 4 (fun i => if i = 0 then (.double x0) else (fun _ => (.double (0 : UInt64))) i) := (F72.set W75)
    have N75 := Fr.snoc X75 N0 (Nat.le_trans Z0 (Nat.le_of_eq g71.symm))
    have c77 : ∀ t, Steps p.tables e below (T75.setTop (mkF m 26 #[.val (.int pl), .val (.int pa), .val (.int pb), .val (.int pc), .val (.int pd), .val (.int pe), .val (.int (4 : Int32)), .val (.ref ar), .unset] [])) t → Steps p.tables e below (s₁.setTop (entryFrame m #[(.int pl), (.int pa), (.int pb), (.int pc), (.int pd), (.int pe)] maxLocals)) t := fun t k => c74 t (st75 _ k)
    obtain ⟨x1, hx1⟩ : ∃ v : UInt64, FP.i2d pb = v := ⟨_, rfl⟩
    have D1 : DS pb.toInt 0 x1 := hx1 ▸ DS.i2d pb
    have c78 : ∀ t, Steps p.tables e below (T75.setTop (mkF m 37 #[.val (.int pl), .val (.int pa), .val (.int pb), .val (.int pc), .val (.int pd), .val (.int pe), .val (.int (4 : Int32)), .val (.ref ar), .unset] [(.double x1), (.int (1 : Int32)), (.ref ar)])) t → Steps p.tables e below (s₁.setTop (entryFrame m #[(.int pl), (.int pa), (.int pb), (.int pc), (.int pd), (.int pe)] maxLocals)) t := fun t k => c77 t (by
      show Steps p.tables e below (T75.setTop (mkF m 26 #[.val (.int pl), .val (.int pa), .val (.int pb), .val (.int pc), .val (.int pd), .val (.int pe), .val (.int (4 : Int32)), .val (.ref ar), .unset] [])) _
      refine XS.iload X75.here hx rfl (hb hby at_26) rfl ?_
      show Steps p.tables e below (T75.setTop (mkF m 28 #[.val (.int pl), .val (.int pa), .val (.int pb), .val (.int pc), .val (.int pd), .val (.int pe), .val (.int (4 : Int32)), .val (.ref ar), .unset] [(.int (4 : Int32))])) _
      refine XS.iconst X75.here hx rfl (hb hby at_28) ?_
      show Steps p.tables e below (T75.setTop (mkF m 29 #[.val (.int pl), .val (.int pa), .val (.int pb), .val (.int pc), .val (.int pd), .val (.int pe), .val (.int (4 : Int32)), .val (.ref ar), .unset] [(.int (1 : Int32)), (.int (4 : Int32))])) _
      refine XS.icmpNo X75.here hx rfl (hb hby at_29) rfl (XT.ii_le_f (by decide)) ?_
      show Steps p.tables e below (T75.setTop (mkF m 32 #[.val (.int pl), .val (.int pa), .val (.int pb), .val (.int pc), .val (.int pd), .val (.int pe), .val (.int (4 : Int32)), .val (.ref ar), .unset] [])) _
      refine XS.aload X75.here hx rfl (hb hby at_32) rfl rfl ?_
      show Steps p.tables e below (T75.setTop (mkF m 34 #[.val (.int pl), .val (.int pa), .val (.int pb), .val (.int pc), .val (.int pd), .val (.int pe), .val (.int (4 : Int32)), .val (.ref ar), .unset] [(.ref ar)])) _
      refine XS.iconst X75.here hx rfl (hb hby at_34) ?_
      show Steps p.tables e below (T75.setTop (mkF m 35 #[.val (.int pl), .val (.int pa), .val (.int pb), .val (.int pc), .val (.int pd), .val (.int pe), .val (.int (4 : Int32)), .val (.ref ar), .unset] [(.int (1 : Int32)), (.ref ar)])) _
      refine XS.iloadN X75.here hx rfl (hb hby at_35) rfl ?_
      show Steps p.tables e below (T75.setTop (mkF m 36 #[.val (.int pl), .val (.int pa), .val (.int pb), .val (.int pc), .val (.int pd), .val (.int pe), .val (.int (4 : Int32)), .val (.ref ar), .unset] [(.int pb), (.int (1 : Int32)), (.ref ar)])) _
      refine XS.i2dS X75.here hx rfl (hb hby at_36) rfl hx1 ?_
      show Steps p.tables e below (T75.setTop (mkF m 37 #[.val (.int pl), .val (.int pa), .val (.int pb), .val (.int pc), .val (.int pd), .val (.int pe), .val (.int (4 : Int32)), .val (.ref ar), .unset] [(.double x1), (.int (1 : Int32)), (.ref ar)])) _
      exact k)
    obtain ⟨T79, h79, X79, e79, W79, st79⟩ := OwnArr.stDA X75 hx hZ e75 F76 (j := (1 : Int32)) (J := 1) (by decide) (by decide) (g := (mkF m 37 #[.val (.int pl), .val (.int pa), .val (.int pb), .val (.int pc), .val (.int pd), .val (.int pe), .val (.int (4 : Int32)), .val (.ref ar), .unset] [(.double x1), (.int (1 : Int32)), (.ref ar)])) rfl rfl (hb hby at_37)
    have F80 : OwnArr.Ag Z h79 ar .double 4 (fun i => if i = 1 then (.double x1) else (fun i => if i = 0 then (.double x0) else (fun _ => (.double (0 : UInt64))) i) i) := (F76.set W79)
    have N79 := Fr.snoc X79 N75 (Nat.le_trans Z0 (Nat.le_of_eq g71.symm))
    have c81 : ∀ t, Steps p.tables e below (T79.setTop (mkF m 38 #[.val (.int pl), .val (.int pa), .val (.int pb), .val (.int pc), .val (.int pd), .val (.int pe), .val (.int (4 : Int32)), .val (.ref ar), .unset] [])) t → Steps p.tables e below (s₁.setTop (entryFrame m #[(.int pl), (.int pa), (.int pb), (.int pc), (.int pd), (.int pe)] maxLocals)) t := fun t k => c78 t (st79 _ k)
    obtain ⟨x2, hx2⟩ : ∃ v : UInt64, FP.i2d pc = v := ⟨_, rfl⟩
    have D2 : DS pc.toInt 0 x2 := hx2 ▸ DS.i2d pc
    have c82 : ∀ t, Steps p.tables e below (T79.setTop (mkF m 49 #[.val (.int pl), .val (.int pa), .val (.int pb), .val (.int pc), .val (.int pd), .val (.int pe), .val (.int (4 : Int32)), .val (.ref ar), .unset] [(.double x2), (.int (2 : Int32)), (.ref ar)])) t → Steps p.tables e below (s₁.setTop (entryFrame m #[(.int pl), (.int pa), (.int pb), (.int pc), (.int pd), (.int pe)] maxLocals)) t := fun t k => c81 t (by
      show Steps p.tables e below (T79.setTop (mkF m 38 #[.val (.int pl), .val (.int pa), .val (.int pb), .val (.int pc), .val (.int pd), .val (.int pe), .val (.int (4 : Int32)), .val (.ref ar), .unset] [])) _
      refine XS.iload X79.here hx rfl (hb hby at_38) rfl ?_
      show Steps p.tables e below (T79.setTop (mkF m 40 #[.val (.int pl), .val (.int pa), .val (.int pb), .val (.int pc), .val (.int pd), .val (.int pe), .val (.int (4 : Int32)), .val (.ref ar), .unset] [(.int (4 : Int32))])) _
      refine XS.iconst X79.here hx rfl (hb hby at_40) ?_
      show Steps p.tables e below (T79.setTop (mkF m 41 #[.val (.int pl), .val (.int pa), .val (.int pb), .val (.int pc), .val (.int pd), .val (.int pe), .val (.int (4 : Int32)), .val (.ref ar), .unset] [(.int (2 : Int32)), (.int (4 : Int32))])) _
      refine XS.icmpNo X79.here hx rfl (hb hby at_41) rfl (XT.ii_le_f (by decide)) ?_
      show Steps p.tables e below (T79.setTop (mkF m 44 #[.val (.int pl), .val (.int pa), .val (.int pb), .val (.int pc), .val (.int pd), .val (.int pe), .val (.int (4 : Int32)), .val (.ref ar), .unset] [])) _
      refine XS.aload X79.here hx rfl (hb hby at_44) rfl rfl ?_
      show Steps p.tables e below (T79.setTop (mkF m 46 #[.val (.int pl), .val (.int pa), .val (.int pb), .val (.int pc), .val (.int pd), .val (.int pe), .val (.int (4 : Int32)), .val (.ref ar), .unset] [(.ref ar)])) _
      refine XS.iconst X79.here hx rfl (hb hby at_46) ?_
      show Steps p.tables e below (T79.setTop (mkF m 47 #[.val (.int pl), .val (.int pa), .val (.int pb), .val (.int pc), .val (.int pd), .val (.int pe), .val (.int (4 : Int32)), .val (.ref ar), .unset] [(.int (2 : Int32)), (.ref ar)])) _
      refine XS.iloadN X79.here hx rfl (hb hby at_47) rfl ?_
      show Steps p.tables e below (T79.setTop (mkF m 48 #[.val (.int pl), .val (.int pa), .val (.int pb), .val (.int pc), .val (.int pd), .val (.int pe), .val (.int (4 : Int32)), .val (.ref ar), .unset] [(.int pc), (.int (2 : Int32)), (.ref ar)])) _
      refine XS.i2dS X79.here hx rfl (hb hby at_48) rfl hx2 ?_
      show Steps p.tables e below (T79.setTop (mkF m 49 #[.val (.int pl), .val (.int pa), .val (.int pb), .val (.int pc), .val (.int pd), .val (.int pe), .val (.int (4 : Int32)), .val (.ref ar), .unset] [(.double x2), (.int (2 : Int32)), (.ref ar)])) _
      exact k)
    obtain ⟨T83, h83, X83, e83, W83, st83⟩ := OwnArr.stDA X79 hx hZ e79 F80 (j := (2 : Int32)) (J := 2) (by decide) (by decide) (g := (mkF m 49 #[.val (.int pl), .val (.int pa), .val (.int pb), .val (.int pc), .val (.int pd), .val (.int pe), .val (.int (4 : Int32)), .val (.ref ar), .unset] [(.double x2), (.int (2 : Int32)), (.ref ar)])) rfl rfl (hb hby at_49)
    have F84 : OwnArr.Ag Z h83 ar .double 4 (fun i => if i = 2 then (.double x2) else (fun i => if i = 1 then (.double x1) else (fun i => if i = 0 then (.double x0) else (fun _ => (.double (0 : UInt64))) i) i) i) := (F80.set W83)
    have N83 := Fr.snoc X83 N79 (Nat.le_trans Z0 (Nat.le_of_eq g71.symm))
    have c85 : ∀ t, Steps p.tables e below (T83.setTop (mkF m 50 #[.val (.int pl), .val (.int pa), .val (.int pb), .val (.int pc), .val (.int pd), .val (.int pe), .val (.int (4 : Int32)), .val (.ref ar), .unset] [])) t → Steps p.tables e below (s₁.setTop (entryFrame m #[(.int pl), (.int pa), (.int pb), (.int pc), (.int pd), (.int pe)] maxLocals)) t := fun t k => c82 t (st83 _ k)
    obtain ⟨x3, hx3⟩ : ∃ v : UInt64, FP.i2d pd = v := ⟨_, rfl⟩
    have D3 : DS pd.toInt 0 x3 := hx3 ▸ DS.i2d pd
    have c86 : ∀ t, Steps p.tables e below (T83.setTop (mkF m 62 #[.val (.int pl), .val (.int pa), .val (.int pb), .val (.int pc), .val (.int pd), .val (.int pe), .val (.int (4 : Int32)), .val (.ref ar), .unset] [(.double x3), (.int (3 : Int32)), (.ref ar)])) t → Steps p.tables e below (s₁.setTop (entryFrame m #[(.int pl), (.int pa), (.int pb), (.int pc), (.int pd), (.int pe)] maxLocals)) t := fun t k => c85 t (by
      show Steps p.tables e below (T83.setTop (mkF m 50 #[.val (.int pl), .val (.int pa), .val (.int pb), .val (.int pc), .val (.int pd), .val (.int pe), .val (.int (4 : Int32)), .val (.ref ar), .unset] [])) _
      refine XS.iload X83.here hx rfl (hb hby at_50) rfl ?_
      show Steps p.tables e below (T83.setTop (mkF m 52 #[.val (.int pl), .val (.int pa), .val (.int pb), .val (.int pc), .val (.int pd), .val (.int pe), .val (.int (4 : Int32)), .val (.ref ar), .unset] [(.int (4 : Int32))])) _
      refine XS.iconst X83.here hx rfl (hb hby at_52) ?_
      show Steps p.tables e below (T83.setTop (mkF m 53 #[.val (.int pl), .val (.int pa), .val (.int pb), .val (.int pc), .val (.int pd), .val (.int pe), .val (.int (4 : Int32)), .val (.ref ar), .unset] [(.int (3 : Int32)), (.int (4 : Int32))])) _
      refine XS.icmpNo X83.here hx rfl (hb hby at_53) rfl (XT.ii_le_f (by decide)) ?_
      show Steps p.tables e below (T83.setTop (mkF m 56 #[.val (.int pl), .val (.int pa), .val (.int pb), .val (.int pc), .val (.int pd), .val (.int pe), .val (.int (4 : Int32)), .val (.ref ar), .unset] [])) _
      refine XS.aload X83.here hx rfl (hb hby at_56) rfl rfl ?_
      show Steps p.tables e below (T83.setTop (mkF m 58 #[.val (.int pl), .val (.int pa), .val (.int pb), .val (.int pc), .val (.int pd), .val (.int pe), .val (.int (4 : Int32)), .val (.ref ar), .unset] [(.ref ar)])) _
      refine XS.iconst X83.here hx rfl (hb hby at_58) ?_
      show Steps p.tables e below (T83.setTop (mkF m 59 #[.val (.int pl), .val (.int pa), .val (.int pb), .val (.int pc), .val (.int pd), .val (.int pe), .val (.int (4 : Int32)), .val (.ref ar), .unset] [(.int (3 : Int32)), (.ref ar)])) _
      refine XS.iload X83.here hx rfl (hb hby at_59) rfl ?_
      show Steps p.tables e below (T83.setTop (mkF m 61 #[.val (.int pl), .val (.int pa), .val (.int pb), .val (.int pc), .val (.int pd), .val (.int pe), .val (.int (4 : Int32)), .val (.ref ar), .unset] [(.int pd), (.int (3 : Int32)), (.ref ar)])) _
      refine XS.i2dS X83.here hx rfl (hb hby at_61) rfl hx3 ?_
      show Steps p.tables e below (T83.setTop (mkF m 62 #[.val (.int pl), .val (.int pa), .val (.int pb), .val (.int pc), .val (.int pd), .val (.int pe), .val (.int (4 : Int32)), .val (.ref ar), .unset] [(.double x3), (.int (3 : Int32)), (.ref ar)])) _
      exact k)
    obtain ⟨T87, h87, X87, e87, W87, st87⟩ := OwnArr.stDA X83 hx hZ e83 F84 (j := (3 : Int32)) (J := 3) (by decide) (by decide) (g := (mkF m 62 #[.val (.int pl), .val (.int pa), .val (.int pb), .val (.int pc), .val (.int pd), .val (.int pe), .val (.int (4 : Int32)), .val (.ref ar), .unset] [(.double x3), (.int (3 : Int32)), (.ref ar)])) rfl rfl (hb hby at_62)
    have F88 : OwnArr.Ag Z h87 ar .double 4 (fun i => if i = 3 then (.double x3) else (fun i => if i = 2 then (.double x2) else (fun i => if i = 1 then (.double x1) else (fun i => if i = 0 then (.double x0) else (fun _ => (.double (0 : UInt64))) i) i) i) i) := (F84.set W87)
    have N87 := Fr.snoc X87 N83 (Nat.le_trans Z0 (Nat.le_of_eq g71.symm))
    have c89 : ∀ t, Steps p.tables e below (T87.setTop (mkF m 63 #[.val (.int pl), .val (.int pa), .val (.int pb), .val (.int pc), .val (.int pd), .val (.int pe), .val (.int (4 : Int32)), .val (.ref ar), .unset] [])) t → Steps p.tables e below (s₁.setTop (entryFrame m #[(.int pl), (.int pa), (.int pb), (.int pc), (.int pd), (.int pe)] maxLocals)) t := fun t k => c86 t (st87 _ k)
    obtain ⟨xs, hxs⟩ : ∃ f : Nat → UInt64, f = fun i => if i = 0 then x0 else if i = 1 then x1 else if i = 2 then x2 else if i = 3 then x3 else (0 : UInt64) := ⟨_, rfl⟩
    have AX : OwnArr.Ag Z h87 ar .double 4 (fun i => .double (xs i)) := F88.congr (fun j hj => by
      rw [hxs]
      match j, hj with
      | 0, _ => rfl
      | 1, _ => rfl
      | 2, _ => rfl
      | 3, _ => rfl)
    have fin_ : ∀ i, i < 4 → Core.DFin (xs i) := (fun i hi => by
      rw [hxs]
      match i, hi with
      | 0, _ => exact D0.1
      | 1, _ => exact D1.1
      | 2, _ => exact D2.1
      | 3, _ => exact D3.1)
    have c90 : ∀ t, Steps p.tables e below (T87.setTop (mkF m 78 #[.val (.int pl), .val (.int pa), .val (.int pb), .val (.int pc), .val (.int pd), .val (.int pe), .val (.int (4 : Int32)), .val (.ref ar), .unset] [(.ref ar)])) t → Steps p.tables e below (s₁.setTop (entryFrame m #[(.int pl), (.int pa), (.int pb), (.int pc), (.int pd), (.int pe)] maxLocals)) t := fun t k => c89 t (by
      show Steps p.tables e below (T87.setTop (mkF m 63 #[.val (.int pl), .val (.int pa), .val (.int pb), .val (.int pc), .val (.int pd), .val (.int pe), .val (.int (4 : Int32)), .val (.ref ar), .unset] [])) _
      refine XS.iload X87.here hx rfl (hb hby at_63) rfl ?_
      show Steps p.tables e below (T87.setTop (mkF m 65 #[.val (.int pl), .val (.int pa), .val (.int pb), .val (.int pc), .val (.int pd), .val (.int pe), .val (.int (4 : Int32)), .val (.ref ar), .unset] [(.int (4 : Int32))])) _
      refine XS.iconst X87.here hx rfl (hb hby at_65) ?_
      show Steps p.tables e below (T87.setTop (mkF m 66 #[.val (.int pl), .val (.int pa), .val (.int pb), .val (.int pc), .val (.int pd), .val (.int pe), .val (.int (4 : Int32)), .val (.ref ar), .unset] [(.int (4 : Int32)), (.int (4 : Int32))])) _
      refine XS.icmpYes X87.here hx rfl (pc0 := 66) (pc' := 76) rfl (hb hby at_66) rfl (XT.ii_le_t (by decide)) (by decide) (by decide) ?_
      show Steps p.tables e below (T87.setTop (mkF m 76 #[.val (.int pl), .val (.int pa), .val (.int pb), .val (.int pc), .val (.int pd), .val (.int pe), .val (.int (4 : Int32)), .val (.ref ar), .unset] [])) _
      refine XS.aload X87.here hx rfl (hb hby at_76) rfl rfl ?_
      show Steps p.tables e below (T87.setTop (mkF m 78 #[.val (.int pl), .val (.int pa), .val (.int pb), .val (.int pc), .val (.int pd), .val (.int pe), .val (.int (4 : Int32)), .val (.ref ar), .unset] [(.ref ar)])) _
      exact k)
    obtain ⟨_, _, ⟨T91, L91, k91', n91⟩, -, X91, ⟨Lc91, hQ91, l91, y91, z91⟩, st91⟩ := Jvm.LawKit.callS X87 hx (y := (⟨"com/example/streamgrove/streamgrove/learners/ClassScores", "highest", "([D)I"⟩ : MethodName)) hown (mvT hZ (hw _ (List.mem_of_getElem? (i := 1) rfl))) (mvT hZ (hw _ (List.mem_of_getElem? (i := 2) rfl))) (mvT hZ (hw _ (List.mem_of_getElem? (i := 3) rfl))) (mvT hZ (hw _ (List.mem_of_getElem? (i := 4) rfl))) (by decide) (backOf (W := 0) (rm_1 l Z a0 hw [] ar (4 : Int32) xs 4 h87 n0 (Nat.le_trans (Nat.le_trans (Nat.le_trans (Nat.le_trans (Nat.le_trans Z0 E71.1) (Keep.of_wr W75).1) (Keep.of_wr W79).1) (Keep.of_wr W83).1) (Keep.of_wr W87).1) AX (by decide) fin_) hZ (hw _ (List.mem_of_getElem? (i := 4) rfl)) (hw _ (List.mem_of_getElem? (i := 3) rfl)) (by decide) (by decide)) (g := (mkF m 78 #[.val (.int pl), .val (.int pa), .val (.int pb), .val (.int pc), .val (.int pd), .val (.int pe), .val (.int (4 : Int32)), .val (.ref ar), .unset] [(.ref ar)])) rfl (by rw [hml]; rfl) (argsL := [(.ref ar)]) (rest := []) (lenOf pd___D_I rfl) rfl (by show 2 * 0 + _ ≤ _; exact Nat.le_of_eq rfl) (hb hby at_78) (fun _ _ => ⟨rfl, e87, (by decide : 1 + 0 ≤ _), (by decide : 4 + 0 ≤ _)⟩)
    dsimp only [Pt.U, Pt.locs, Pt.cells, Pt.slots] at X91 l91 y91 z91 st91 hQ91
    subst l91 y91 z91
    obtain ⟨⟨gi, gi1, rfl, gi2⟩, N91, e91⟩ := hQ91
    have M91 := Fr.app N87 N91
    have c92 : ∀ t, Steps p.tables e below (T91.setTop (mkF m 81 #[.val (.int pl), .val (.int pa), .val (.int pb), .val (.int pc), .val (.int pd), .val (.int pe), .val (.int (4 : Int32)), .val (.ref ar), .unset] [(.int (Int32.ofNat gi))])) t → Steps p.tables e below (s₁.setTop (entryFrame m #[(.int pl), (.int pa), (.int pb), (.int pc), (.int pd), (.int pe)] maxLocals)) t := fun t k => c90 t (st91 _ k)
    have c93 : ∀ t, Steps p.tables e below (T91.setTop (mkF m 94 #[.val (.int pl), .val (.int pa), .val (.int pb), .val (.int pc), .val (.int pd), .val (.int pe), .val (.int (4 : Int32)), .val (.ref ar), .val (.int (Int32.ofNat gi))] [(.int pe), (.int pd), (.int pc), (.int pb), (.int pa), (.int (4 : Int32)), (.int (Int32.ofNat gi))])) t → Steps p.tables e below (s₁.setTop (entryFrame m #[(.int pl), (.int pa), (.int pb), (.int pc), (.int pd), (.int pe)] maxLocals)) t := fun t k => c92 t (by
      show Steps p.tables e below (T91.setTop (mkF m 81 #[.val (.int pl), .val (.int pa), .val (.int pb), .val (.int pc), .val (.int pd), .val (.int pe), .val (.int (4 : Int32)), .val (.ref ar), .unset] [(.int (Int32.ofNat gi))])) _
      refine XS.istore X91.here hx rfl (hb hby at_81) rfl (l' := #[.val (.int pl), .val (.int pa), .val (.int pb), .val (.int pc), .val (.int pd), .val (.int pe), .val (.int (4 : Int32)), .val (.ref ar), .val (.int (Int32.ofNat gi))]) rfl ?_
      show Steps p.tables e below (T91.setTop (mkF m 83 #[.val (.int pl), .val (.int pa), .val (.int pb), .val (.int pc), .val (.int pd), .val (.int pe), .val (.int (4 : Int32)), .val (.ref ar), .val (.int (Int32.ofNat gi))] [])) _
      refine XS.iload X91.here hx rfl (hb hby at_83) rfl ?_
      show Steps p.tables e below (T91.setTop (mkF m 85 #[.val (.int pl), .val (.int pa), .val (.int pb), .val (.int pc), .val (.int pd), .val (.int pe), .val (.int (4 : Int32)), .val (.ref ar), .val (.int (Int32.ofNat gi))] [(.int (Int32.ofNat gi))])) _
      refine XS.iload X91.here hx rfl (hb hby at_85) rfl ?_
      show Steps p.tables e below (T91.setTop (mkF m 87 #[.val (.int pl), .val (.int pa), .val (.int pb), .val (.int pc), .val (.int pd), .val (.int pe), .val (.int (4 : Int32)), .val (.ref ar), .val (.int (Int32.ofNat gi))] [(.int (4 : Int32)), (.int (Int32.ofNat gi))])) _
      refine XS.iloadN X91.here hx rfl (hb hby at_87) rfl ?_
      show Steps p.tables e below (T91.setTop (mkF m 88 #[.val (.int pl), .val (.int pa), .val (.int pb), .val (.int pc), .val (.int pd), .val (.int pe), .val (.int (4 : Int32)), .val (.ref ar), .val (.int (Int32.ofNat gi))] [(.int pa), (.int (4 : Int32)), (.int (Int32.ofNat gi))])) _
      refine XS.iloadN X91.here hx rfl (hb hby at_88) rfl ?_
      show Steps p.tables e below (T91.setTop (mkF m 89 #[.val (.int pl), .val (.int pa), .val (.int pb), .val (.int pc), .val (.int pd), .val (.int pe), .val (.int (4 : Int32)), .val (.ref ar), .val (.int (Int32.ofNat gi))] [(.int pb), (.int pa), (.int (4 : Int32)), (.int (Int32.ofNat gi))])) _
      refine XS.iloadN X91.here hx rfl (hb hby at_89) rfl ?_
      show Steps p.tables e below (T91.setTop (mkF m 90 #[.val (.int pl), .val (.int pa), .val (.int pb), .val (.int pc), .val (.int pd), .val (.int pe), .val (.int (4 : Int32)), .val (.ref ar), .val (.int (Int32.ofNat gi))] [(.int pc), (.int pb), (.int pa), (.int (4 : Int32)), (.int (Int32.ofNat gi))])) _
      refine XS.iload X91.here hx rfl (hb hby at_90) rfl ?_
      show Steps p.tables e below (T91.setTop (mkF m 92 #[.val (.int pl), .val (.int pa), .val (.int pb), .val (.int pc), .val (.int pd), .val (.int pe), .val (.int (4 : Int32)), .val (.ref ar), .val (.int (Int32.ofNat gi))] [(.int pd), (.int pc), (.int pb), (.int pa), (.int (4 : Int32)), (.int (Int32.ofNat gi))])) _
      refine XS.iload X91.here hx rfl (hb hby at_92) rfl ?_
      show Steps p.tables e below (T91.setTop (mkF m 94 #[.val (.int pl), .val (.int pa), .val (.int pb), .val (.int pc), .val (.int pd), .val (.int pe), .val (.int (4 : Int32)), .val (.ref ar), .val (.int (Int32.ofNat gi))] [(.int pe), (.int pd), (.int pc), (.int pb), (.int pa), (.int (4 : Int32)), (.int (Int32.ofNat gi))])) _
      exact k)
    obtain ⟨_, _, ⟨T94, L94, k94', n94⟩, -, X94, ⟨Lc94, hQ94, l94, y94, z94⟩, st94⟩ := Jvm.LawKit.callS X91 hx (y := (⟨"com/example/streamgrove/streamgrove/learners/ClassScoresHighestPinLaw", "expected", "(IIIIII)I"⟩ : MethodName)) hown (mvT hZ (hw _ (List.mem_of_getElem? (i := 5) rfl))) (mvT hZ (hw _ (List.mem_of_getElem? (i := 6) rfl))) (mvT hZ (hw _ (List.mem_of_getElem? (i := 7) rfl))) (mvT hZ (hw _ (List.mem_of_getElem? (i := 8) rfl))) (by decide) (backOf (W := 1) (rm_2_4 l Z a0 hw [] pa pb pc pd pe h87 n0 (Nat.le_trans (Nat.le_trans (Nat.le_trans (Nat.le_trans (Nat.le_trans Z0 E71.1) (Keep.of_wr W75).1) (Keep.of_wr W79).1) (Keep.of_wr W83).1) (Keep.of_wr W87).1)) hZ (hw _ (List.mem_of_getElem? (i := 8) rfl)) (hw _ (List.mem_of_getElem? (i := 7) rfl)) (by decide) (by decide)) (g := (mkF m 94 #[.val (.int pl), .val (.int pa), .val (.int pb), .val (.int pc), .val (.int pd), .val (.int pe), .val (.int (4 : Int32)), .val (.ref ar), .val (.int (Int32.ofNat gi))] [(.int pe), (.int pd), (.int pc), (.int pb), (.int pa), (.int (4 : Int32)), (.int (Int32.ofNat gi))])) rfl (by rw [hml]; rfl) (argsL := [(.int (4 : Int32)), (.int pa), (.int pb), (.int pc), (.int pd), (.int pe)]) (rest := [(.int (Int32.ofNat gi))]) (lenOf pd__IIIIII_I rfl) rfl (by show 2 * 0 + _ ≤ _; exact Nat.le_of_eq rfl) (hb hby at_94) (fun _ _ => ⟨rfl, e91, (by decide : 1 + 0 ≤ _), (by decide : 4 + 0 ≤ _)⟩)
    dsimp only [Pt.U, Pt.locs, Pt.cells, Pt.slots] at X94 l94 y94 z94 st94 hQ94
    subst l94 y94 z94
    obtain ⟨⟨ei, ei1, rfl, ei2⟩, N94, e94⟩ := hQ94
    have M94 := Fr.app M91 N94
    have c95 : ∀ t, Steps p.tables e below (T94.setTop (mkF m 97 #[.val (.int pl), .val (.int pa), .val (.int pb), .val (.int pc), .val (.int pd), .val (.int pe), .val (.int (4 : Int32)), .val (.ref ar), .val (.int (Int32.ofNat gi))] [(.int (Int32.ofNat ei)), (.int (Int32.ofNat gi))])) t → Steps p.tables e below (s₁.setTop (entryFrame m #[(.int pl), (.int pa), (.int pb), (.int pc), (.int pd), (.int pe)] maxLocals)) t := fun t k => c93 t (st94 _ k)
    have same : gi = ei := (gi2.scale (y := five pa pb pc pd pe) (fun j hj => by
      rw [hxs]
      match j, hj with
      | 0, _ => show zv x0 = pa.toInt * U; have := D0.2; rwa [Int.pow_zero, Int.mul_one] at this
      | 1, _ => show zv x1 = pb.toInt * U; have := D1.2; rwa [Int.pow_zero, Int.mul_one] at this
      | 2, _ => show zv x2 = pc.toInt * U; have := D2.2; rwa [Int.pow_zero, Int.mul_one] at this
      | 3, _ => show zv x3 = pd.toInt * U; have := D3.2; rwa [Int.pow_zero, Int.mul_one] at this) (by decide)).unique ei2
    have c96 : ∀ t, Steps p.tables e below (T94.setTop (mkF m 105 #[.val (.int pl), .val (.int pa), .val (.int pb), .val (.int pc), .val (.int pd), .val (.int pe), .val (.int (4 : Int32)), .val (.ref ar), .val (.int (Int32.ofNat gi))] [(.int (1 : Int32))])) t → Steps p.tables e below (s₁.setTop (entryFrame m #[(.int pl), (.int pa), (.int pb), (.int pc), (.int pd), (.int pe)] maxLocals)) t := fun t k => c95 t (by
      show Steps p.tables e below (T94.setTop (mkF m 97 #[.val (.int pl), .val (.int pa), .val (.int pb), .val (.int pc), .val (.int pd), .val (.int pe), .val (.int (4 : Int32)), .val (.ref ar), .val (.int (Int32.ofNat gi))] [(.int (Int32.ofNat ei)), (.int (Int32.ofNat gi))])) _
      refine XS.icmpNo X94.here hx rfl (hb hby at_97) rfl (XT.ii_ne_f (by rw [same])) ?_
      show Steps p.tables e below (T94.setTop (mkF m 100 #[.val (.int pl), .val (.int pa), .val (.int pb), .val (.int pc), .val (.int pd), .val (.int pe), .val (.int (4 : Int32)), .val (.ref ar), .val (.int (Int32.ofNat gi))] [])) _
      refine XS.iconst X94.here hx rfl (hb hby at_100) ?_
      show Steps p.tables e below (T94.setTop (mkF m 101 #[.val (.int pl), .val (.int pa), .val (.int pb), .val (.int pc), .val (.int pd), .val (.int pe), .val (.int (4 : Int32)), .val (.ref ar), .val (.int (Int32.ofNat gi))] [(.int (1 : Int32))])) _
      refine XS.goto X94.here hx rfl (pc0 := 101) (pc' := 105) rfl (hb hby at_101) (by decide) (by decide) ?_
      show Steps p.tables e below (T94.setTop (mkF m 105 #[.val (.int pl), .val (.int pa), .val (.int pb), .val (.int pc), .val (.int pd), .val (.int pe), .val (.int (4 : Int32)), .val (.ref ar), .val (.int (Int32.ofNat gi))] [(.int (1 : Int32))])) _
      exact k)
    obtain ⟨fs, hr, hrun, hended, hW, hsame⟩ := X94.leave (v := (some (.int (1 : Int32)))) (fun h => by rw [Bd.returns] at h; cases h)
    refine ⟨_, _, pre0 _ (c96 _ (retN X94 hx (t := .boolean) Bd.returns (by simp) (hb hby at_105) hr)), hrun, hended, _, _, rfl, ?_, ⟨_, rfl⟩, hW, hsame.mono (by decide) (by decide)⟩
    show Q_0 Z pl pa pb pc pd pe h0 n0 _ T94.heap _
    rw [e94]
    exact ⟨rfl, M94⟩
  · rw [nk] at c1
    have c97 : ∀ t, Steps p.tables e below (s₁.setTop (mkF m 11 #[.val (.int pl), .val (.int pa), .val (.int pb), .val (.int pc), .val (.int pd), .val (.int pe), .val (.int (5 : Int32)), .unset, .unset] [(.int (5 : Int32))])) t → Steps p.tables e below (s₁.setTop (entryFrame m #[(.int pl), (.int pa), (.int pb), (.int pc), (.int pd), (.int pe)] maxLocals)) t := fun t k => c1 t (by
      show Steps p.tables e below (s₁.setTop (mkF m 9 #[.val (.int pl), .val (.int pa), .val (.int pb), .val (.int pc), .val (.int pd), .val (.int pe), .val (.int (5 : Int32)), .unset, .unset] [])) _
      refine XS.iload X0.here hx rfl (hb hby at_9) rfl ?_
      show Steps p.tables e below (s₁.setTop (mkF m 11 #[.val (.int pl), .val (.int pa), .val (.int pb), .val (.int pc), .val (.int pd), .val (.int pe), .val (.int (5 : Int32)), .unset, .unset] [(.int (5 : Int32))])) _
      exact k)
    obtain ⟨T98, h98, kA98, X98, e98, E98, A98, st98⟩ := newP X0 hx hZ (hw _ (List.mem_of_getElem? (i := 0) rfl)) e0 (g := (mkF m 11 #[.val (.int pl), .val (.int pa), .val (.int pb), .val (.int pc), .val (.int pd), .val (.int pe), .val (.int (5 : Int32)), .unset, .unset] [(.int (5 : Int32))])) rfl (hb hby at_11) rfl (by decide) (cap := 5) (by decide) (by decide) (by decide) (by decide)
    obtain ⟨ar, g98⟩ : ∃ z, z = h0.size := ⟨_, rfl⟩
    rw [← g98] at A98 st98
    have F99 : OwnArr.Ag Z h98 ar .double 5 (fun _ => (.double (0 : UInt64))) := (OwnArr.Ag.new A98 (by decide))
    have c100 : ∀ t, Steps p.tables e below (T98.setTop (mkF m 13 #[.val (.int pl), .val (.int pa), .val (.int pb), .val (.int pc), .val (.int pd), .val (.int pe), .val (.int (5 : Int32)), .unset, .unset] [(.ref ar)])) t → Steps p.tables e below (s₁.setTop (entryFrame m #[(.int pl), (.int pa), (.int pb), (.int pc), (.int pd), (.int pe)] maxLocals)) t := fun t k => c97 t (st98 _ k)
    obtain ⟨x0, hx0⟩ : ∃ v : UInt64, FP.i2d pa = v := ⟨_, rfl⟩
    have D0 : DS pa.toInt 0 x0 := hx0 ▸ DS.i2d pa
    have c101 : ∀ t, Steps p.tables e below (T98.setTop (mkF m 25 #[.val (.int pl), .val (.int pa), .val (.int pb), .val (.int pc), .val (.int pd), .val (.int pe), .val (.int (5 : Int32)), .val (.ref ar), .unset] [(.double x0), (.int (0 : Int32)), (.ref ar)])) t → Steps p.tables e below (s₁.setTop (entryFrame m #[(.int pl), (.int pa), (.int pb), (.int pc), (.int pd), (.int pe)] maxLocals)) t := fun t k => c100 t (by
      show Steps p.tables e below (T98.setTop (mkF m 13 #[.val (.int pl), .val (.int pa), .val (.int pb), .val (.int pc), .val (.int pd), .val (.int pe), .val (.int (5 : Int32)), .unset, .unset] [(.ref ar)])) _
      refine XS.astore X98.here hx rfl (hb hby at_13) rfl rfl (l' := #[.val (.int pl), .val (.int pa), .val (.int pb), .val (.int pc), .val (.int pd), .val (.int pe), .val (.int (5 : Int32)), .val (.ref ar), .unset]) rfl ?_
      show Steps p.tables e below (T98.setTop (mkF m 15 #[.val (.int pl), .val (.int pa), .val (.int pb), .val (.int pc), .val (.int pd), .val (.int pe), .val (.int (5 : Int32)), .val (.ref ar), .unset] [])) _
      refine XS.iload X98.here hx rfl (hb hby at_15) rfl ?_
      show Steps p.tables e below (T98.setTop (mkF m 17 #[.val (.int pl), .val (.int pa), .val (.int pb), .val (.int pc), .val (.int pd), .val (.int pe), .val (.int (5 : Int32)), .val (.ref ar), .unset] [(.int (5 : Int32))])) _
      refine XS.ifNo X98.here hx rfl (hb hby at_17) rfl (XT.i0_le_f (by decide)) ?_
      show Steps p.tables e below (T98.setTop (mkF m 20 #[.val (.int pl), .val (.int pa), .val (.int pb), .val (.int pc), .val (.int pd), .val (.int pe), .val (.int (5 : Int32)), .val (.ref ar), .unset] [])) _
      refine XS.aload X98.here hx rfl (hb hby at_20) rfl rfl ?_
      show Steps p.tables e below (T98.setTop (mkF m 22 #[.val (.int pl), .val (.int pa), .val (.int pb), .val (.int pc), .val (.int pd), .val (.int pe), .val (.int (5 : Int32)), .val (.ref ar), .unset] [(.ref ar)])) _
      refine XS.iconst X98.here hx rfl (hb hby at_22) ?_
      show Steps p.tables e below (T98.setTop (mkF m 23 #[.val (.int pl), .val (.int pa), .val (.int pb), .val (.int pc), .val (.int pd), .val (.int pe), .val (.int (5 : Int32)), .val (.ref ar), .unset] [(.int (0 : Int32)), (.ref ar)])) _
      refine XS.iloadN X98.here hx rfl (hb hby at_23) rfl ?_
      show Steps p.tables e below (T98.setTop (mkF m 24 #[.val (.int pl), .val (.int pa), .val (.int pb), .val (.int pc), .val (.int pd), .val (.int pe), .val (.int (5 : Int32)), .val (.ref ar), .unset] [(.int pa), (.int (0 : Int32)), (.ref ar)])) _
      refine XS.i2dS X98.here hx rfl (hb hby at_24) rfl hx0 ?_
      show Steps p.tables e below (T98.setTop (mkF m 25 #[.val (.int pl), .val (.int pa), .val (.int pb), .val (.int pc), .val (.int pd), .val (.int pe), .val (.int (5 : Int32)), .val (.ref ar), .unset] [(.double x0), (.int (0 : Int32)), (.ref ar)])) _
      exact k)
    obtain ⟨T102, h102, X102, e102, W102, st102⟩ := OwnArr.stDA X98 hx hZ e98 F99 (j := (0 : Int32)) (J := 0) (by decide) (by decide) (g := (mkF m 25 #[.val (.int pl), .val (.int pa), .val (.int pb), .val (.int pc), .val (.int pd), .val (.int pe), .val (.int (5 : Int32)), .val (.ref ar), .unset] [(.double x0), (.int (0 : Int32)), (.ref ar)])) rfl rfl (hb hby at_25)
    have F103 : OwnArr.Ag Z h102 ar .double 5 (fun i => if i = 0 then (.double x0) else (fun _ => (.double (0 : UInt64))) i) := (F99.set W102)
    have N102 := Fr.snoc X102 N0 (Nat.le_trans Z0 (Nat.le_of_eq g98.symm))
    have c104 : ∀ t, Steps p.tables e below (T102.setTop (mkF m 26 #[.val (.int pl), .val (.int pa), .val (.int pb), .val (.int pc), .val (.int pd), .val (.int pe), .val (.int (5 : Int32)), .val (.ref ar), .unset] [])) t → Steps p.tables e below (s₁.setTop (entryFrame m #[(.int pl), (.int pa), (.int pb), (.int pc), (.int pd), (.int pe)] maxLocals)) t := fun t k => c101 t (st102 _ k)
    obtain ⟨x1, hx1⟩ : ∃ v : UInt64, FP.i2d pb = v := ⟨_, rfl⟩
    have D1 : DS pb.toInt 0 x1 := hx1 ▸ DS.i2d pb
    have c105 : ∀ t, Steps p.tables e below (T102.setTop (mkF m 37 #[.val (.int pl), .val (.int pa), .val (.int pb), .val (.int pc), .val (.int pd), .val (.int pe), .val (.int (5 : Int32)), .val (.ref ar), .unset] [(.double x1), (.int (1 : Int32)), (.ref ar)])) t → Steps p.tables e below (s₁.setTop (entryFrame m #[(.int pl), (.int pa), (.int pb), (.int pc), (.int pd), (.int pe)] maxLocals)) t := fun t k => c104 t (by
      show Steps p.tables e below (T102.setTop (mkF m 26 #[.val (.int pl), .val (.int pa), .val (.int pb), .val (.int pc), .val (.int pd), .val (.int pe), .val (.int (5 : Int32)), .val (.ref ar), .unset] [])) _
      refine XS.iload X102.here hx rfl (hb hby at_26) rfl ?_
      show Steps p.tables e below (T102.setTop (mkF m 28 #[.val (.int pl), .val (.int pa), .val (.int pb), .val (.int pc), .val (.int pd), .val (.int pe), .val (.int (5 : Int32)), .val (.ref ar), .unset] [(.int (5 : Int32))])) _
      refine XS.iconst X102.here hx rfl (hb hby at_28) ?_
      show Steps p.tables e below (T102.setTop (mkF m 29 #[.val (.int pl), .val (.int pa), .val (.int pb), .val (.int pc), .val (.int pd), .val (.int pe), .val (.int (5 : Int32)), .val (.ref ar), .unset] [(.int (1 : Int32)), (.int (5 : Int32))])) _
      refine XS.icmpNo X102.here hx rfl (hb hby at_29) rfl (XT.ii_le_f (by decide)) ?_
      show Steps p.tables e below (T102.setTop (mkF m 32 #[.val (.int pl), .val (.int pa), .val (.int pb), .val (.int pc), .val (.int pd), .val (.int pe), .val (.int (5 : Int32)), .val (.ref ar), .unset] [])) _
      refine XS.aload X102.here hx rfl (hb hby at_32) rfl rfl ?_
      show Steps p.tables e below (T102.setTop (mkF m 34 #[.val (.int pl), .val (.int pa), .val (.int pb), .val (.int pc), .val (.int pd), .val (.int pe), .val (.int (5 : Int32)), .val (.ref ar), .unset] [(.ref ar)])) _
      refine XS.iconst X102.here hx rfl (hb hby at_34) ?_
      show Steps p.tables e below (T102.setTop (mkF m 35 #[.val (.int pl), .val (.int pa), .val (.int pb), .val (.int pc), .val (.int pd), .val (.int pe), .val (.int (5 : Int32)), .val (.ref ar), .unset] [(.int (1 : Int32)), (.ref ar)])) _
      refine XS.iloadN X102.here hx rfl (hb hby at_35) rfl ?_
      show Steps p.tables e below (T102.setTop (mkF m 36 #[.val (.int pl), .val (.int pa), .val (.int pb), .val (.int pc), .val (.int pd), .val (.int pe), .val (.int (5 : Int32)), .val (.ref ar), .unset] [(.int pb), (.int (1 : Int32)), (.ref ar)])) _
      refine XS.i2dS X102.here hx rfl (hb hby at_36) rfl hx1 ?_
      show Steps p.tables e below (T102.setTop (mkF m 37 #[.val (.int pl), .val (.int pa), .val (.int pb), .val (.int pc), .val (.int pd), .val (.int pe), .val (.int (5 : Int32)), .val (.ref ar), .unset] [(.double x1), (.int (1 : Int32)), (.ref ar)])) _
      exact k)
    obtain ⟨T106, h106, X106, e106, W106, st106⟩ := OwnArr.stDA X102 hx hZ e102 F103 (j := (1 : Int32)) (J := 1) (by decide) (by decide) (g := (mkF m 37 #[.val (.int pl), .val (.int pa), .val (.int pb), .val (.int pc), .val (.int pd), .val (.int pe), .val (.int (5 : Int32)), .val (.ref ar), .unset] [(.double x1), (.int (1 : Int32)), (.ref ar)])) rfl rfl (hb hby at_37)
    have F107 : OwnArr.Ag Z h106 ar .double 5 (fun i => if i = 1 then (.double x1) else (fun i => if i = 0 then (.double x0) else (fun _ => (.double (0 : UInt64))) i) i) := (F103.set W106)
    have N106 := Fr.snoc X106 N102 (Nat.le_trans Z0 (Nat.le_of_eq g98.symm))
    have c108 : ∀ t, Steps p.tables e below (T106.setTop (mkF m 38 #[.val (.int pl), .val (.int pa), .val (.int pb), .val (.int pc), .val (.int pd), .val (.int pe), .val (.int (5 : Int32)), .val (.ref ar), .unset] [])) t → Steps p.tables e below (s₁.setTop (entryFrame m #[(.int pl), (.int pa), (.int pb), (.int pc), (.int pd), (.int pe)] maxLocals)) t := fun t k => c105 t (st106 _ k)
    obtain ⟨x2, hx2⟩ : ∃ v : UInt64, FP.i2d pc = v := ⟨_, rfl⟩
    have D2 : DS pc.toInt 0 x2 := hx2 ▸ DS.i2d pc
    have c109 : ∀ t, Steps p.tables e below (T106.setTop (mkF m 49 #[.val (.int pl), .val (.int pa), .val (.int pb), .val (.int pc), .val (.int pd), .val (.int pe), .val (.int (5 : Int32)), .val (.ref ar), .unset] [(.double x2), (.int (2 : Int32)), (.ref ar)])) t → Steps p.tables e below (s₁.setTop (entryFrame m #[(.int pl), (.int pa), (.int pb), (.int pc), (.int pd), (.int pe)] maxLocals)) t := fun t k => c108 t (by
      show Steps p.tables e below (T106.setTop (mkF m 38 #[.val (.int pl), .val (.int pa), .val (.int pb), .val (.int pc), .val (.int pd), .val (.int pe), .val (.int (5 : Int32)), .val (.ref ar), .unset] [])) _
      refine XS.iload X106.here hx rfl (hb hby at_38) rfl ?_
      show Steps p.tables e below (T106.setTop (mkF m 40 #[.val (.int pl), .val (.int pa), .val (.int pb), .val (.int pc), .val (.int pd), .val (.int pe), .val (.int (5 : Int32)), .val (.ref ar), .unset] [(.int (5 : Int32))])) _
      refine XS.iconst X106.here hx rfl (hb hby at_40) ?_
      show Steps p.tables e below (T106.setTop (mkF m 41 #[.val (.int pl), .val (.int pa), .val (.int pb), .val (.int pc), .val (.int pd), .val (.int pe), .val (.int (5 : Int32)), .val (.ref ar), .unset] [(.int (2 : Int32)), (.int (5 : Int32))])) _
      refine XS.icmpNo X106.here hx rfl (hb hby at_41) rfl (XT.ii_le_f (by decide)) ?_
      show Steps p.tables e below (T106.setTop (mkF m 44 #[.val (.int pl), .val (.int pa), .val (.int pb), .val (.int pc), .val (.int pd), .val (.int pe), .val (.int (5 : Int32)), .val (.ref ar), .unset] [])) _
      refine XS.aload X106.here hx rfl (hb hby at_44) rfl rfl ?_
      show Steps p.tables e below (T106.setTop (mkF m 46 #[.val (.int pl), .val (.int pa), .val (.int pb), .val (.int pc), .val (.int pd), .val (.int pe), .val (.int (5 : Int32)), .val (.ref ar), .unset] [(.ref ar)])) _
      refine XS.iconst X106.here hx rfl (hb hby at_46) ?_
      show Steps p.tables e below (T106.setTop (mkF m 47 #[.val (.int pl), .val (.int pa), .val (.int pb), .val (.int pc), .val (.int pd), .val (.int pe), .val (.int (5 : Int32)), .val (.ref ar), .unset] [(.int (2 : Int32)), (.ref ar)])) _
      refine XS.iloadN X106.here hx rfl (hb hby at_47) rfl ?_
      show Steps p.tables e below (T106.setTop (mkF m 48 #[.val (.int pl), .val (.int pa), .val (.int pb), .val (.int pc), .val (.int pd), .val (.int pe), .val (.int (5 : Int32)), .val (.ref ar), .unset] [(.int pc), (.int (2 : Int32)), (.ref ar)])) _
      refine XS.i2dS X106.here hx rfl (hb hby at_48) rfl hx2 ?_
      show Steps p.tables e below (T106.setTop (mkF m 49 #[.val (.int pl), .val (.int pa), .val (.int pb), .val (.int pc), .val (.int pd), .val (.int pe), .val (.int (5 : Int32)), .val (.ref ar), .unset] [(.double x2), (.int (2 : Int32)), (.ref ar)])) _
      exact k)
    obtain ⟨T110, h110, X110, e110, W110, st110⟩ := OwnArr.stDA X106 hx hZ e106 F107 (j := (2 : Int32)) (J := 2) (by decide) (by decide) (g := (mkF m 49 #[.val (.int pl), .val (.int pa), .val (.int pb), .val (.int pc), .val (.int pd), .val (.int pe), .val (.int (5 : Int32)), .val (.ref ar), .unset] [(.double x2), (.int (2 : Int32)), (.ref ar)])) rfl rfl (hb hby at_49)
    have F111 : OwnArr.Ag Z h110 ar .double 5 (fun i => if i = 2 then (.double x2) else (fun i => if i = 1 then (.double x1) else (fun i => if i = 0 then (.double x0) else (fun _ => (.double (0 : UInt64))) i) i) i) := (F107.set W110)
    have N110 := Fr.snoc X110 N106 (Nat.le_trans Z0 (Nat.le_of_eq g98.symm))
    have c112 : ∀ t, Steps p.tables e below (T110.setTop (mkF m 50 #[.val (.int pl), .val (.int pa), .val (.int pb), .val (.int pc), .val (.int pd), .val (.int pe), .val (.int (5 : Int32)), .val (.ref ar), .unset] [])) t → Steps p.tables e below (s₁.setTop (entryFrame m #[(.int pl), (.int pa), (.int pb), (.int pc), (.int pd), (.int pe)] maxLocals)) t := fun t k => c109 t (st110 _ k)
    obtain ⟨x3, hx3⟩ : ∃ v : UInt64, FP.i2d pd = v := ⟨_, rfl⟩
    have D3 : DS pd.toInt 0 x3 := hx3 ▸ DS.i2d pd
    have c113 : ∀ t, Steps p.tables e below (T110.setTop (mkF m 62 #[.val (.int pl), .val (.int pa), .val (.int pb), .val (.int pc), .val (.int pd), .val (.int pe), .val (.int (5 : Int32)), .val (.ref ar), .unset] [(.double x3), (.int (3 : Int32)), (.ref ar)])) t → Steps p.tables e below (s₁.setTop (entryFrame m #[(.int pl), (.int pa), (.int pb), (.int pc), (.int pd), (.int pe)] maxLocals)) t := fun t k => c112 t (by
      show Steps p.tables e below (T110.setTop (mkF m 50 #[.val (.int pl), .val (.int pa), .val (.int pb), .val (.int pc), .val (.int pd), .val (.int pe), .val (.int (5 : Int32)), .val (.ref ar), .unset] [])) _
      refine XS.iload X110.here hx rfl (hb hby at_50) rfl ?_
      show Steps p.tables e below (T110.setTop (mkF m 52 #[.val (.int pl), .val (.int pa), .val (.int pb), .val (.int pc), .val (.int pd), .val (.int pe), .val (.int (5 : Int32)), .val (.ref ar), .unset] [(.int (5 : Int32))])) _
      refine XS.iconst X110.here hx rfl (hb hby at_52) ?_
      show Steps p.tables e below (T110.setTop (mkF m 53 #[.val (.int pl), .val (.int pa), .val (.int pb), .val (.int pc), .val (.int pd), .val (.int pe), .val (.int (5 : Int32)), .val (.ref ar), .unset] [(.int (3 : Int32)), (.int (5 : Int32))])) _
      refine XS.icmpNo X110.here hx rfl (hb hby at_53) rfl (XT.ii_le_f (by decide)) ?_
      show Steps p.tables e below (T110.setTop (mkF m 56 #[.val (.int pl), .val (.int pa), .val (.int pb), .val (.int pc), .val (.int pd), .val (.int pe), .val (.int (5 : Int32)), .val (.ref ar), .unset] [])) _
      refine XS.aload X110.here hx rfl (hb hby at_56) rfl rfl ?_
      show Steps p.tables e below (T110.setTop (mkF m 58 #[.val (.int pl), .val (.int pa), .val (.int pb), .val (.int pc), .val (.int pd), .val (.int pe), .val (.int (5 : Int32)), .val (.ref ar), .unset] [(.ref ar)])) _
      refine XS.iconst X110.here hx rfl (hb hby at_58) ?_
      show Steps p.tables e below (T110.setTop (mkF m 59 #[.val (.int pl), .val (.int pa), .val (.int pb), .val (.int pc), .val (.int pd), .val (.int pe), .val (.int (5 : Int32)), .val (.ref ar), .unset] [(.int (3 : Int32)), (.ref ar)])) _
      refine XS.iload X110.here hx rfl (hb hby at_59) rfl ?_
      show Steps p.tables e below (T110.setTop (mkF m 61 #[.val (.int pl), .val (.int pa), .val (.int pb), .val (.int pc), .val (.int pd), .val (.int pe), .val (.int (5 : Int32)), .val (.ref ar), .unset] [(.int pd), (.int (3 : Int32)), (.ref ar)])) _
      refine XS.i2dS X110.here hx rfl (hb hby at_61) rfl hx3 ?_
      show Steps p.tables e below (T110.setTop (mkF m 62 #[.val (.int pl), .val (.int pa), .val (.int pb), .val (.int pc), .val (.int pd), .val (.int pe), .val (.int (5 : Int32)), .val (.ref ar), .unset] [(.double x3), (.int (3 : Int32)), (.ref ar)])) _
      exact k)
    obtain ⟨T114, h114, X114, e114, W114, st114⟩ := OwnArr.stDA X110 hx hZ e110 F111 (j := (3 : Int32)) (J := 3) (by decide) (by decide) (g := (mkF m 62 #[.val (.int pl), .val (.int pa), .val (.int pb), .val (.int pc), .val (.int pd), .val (.int pe), .val (.int (5 : Int32)), .val (.ref ar), .unset] [(.double x3), (.int (3 : Int32)), (.ref ar)])) rfl rfl (hb hby at_62)
    have F115 : OwnArr.Ag Z h114 ar .double 5 (fun i => if i = 3 then (.double x3) else (fun i => if i = 2 then (.double x2) else (fun i => if i = 1 then (.double x1) else (fun i => if i = 0 then (.double x0) else (fun _ => (.double (0 : UInt64))) i) i) i) i) := (F111.set W114)
    have N114 := Fr.snoc X114 N110 (Nat.le_trans Z0 (Nat.le_of_eq g98.symm))
    have c116 : ∀ t, Steps p.tables e below (T114.setTop (mkF m 63 #[.val (.int pl), .val (.int pa), .val (.int pb), .val (.int pc), .val (.int pd), .val (.int pe), .val (.int (5 : Int32)), .val (.ref ar), .unset] [])) t → Steps p.tables e below (s₁.setTop (entryFrame m #[(.int pl), (.int pa), (.int pb), (.int pc), (.int pd), (.int pe)] maxLocals)) t := fun t k => c113 t (st114 _ k)
    obtain ⟨x4, hx4⟩ : ∃ v : UInt64, FP.i2d pe = v := ⟨_, rfl⟩
    have D4 : DS pe.toInt 0 x4 := hx4 ▸ DS.i2d pe
    have c117 : ∀ t, Steps p.tables e below (T114.setTop (mkF m 75 #[.val (.int pl), .val (.int pa), .val (.int pb), .val (.int pc), .val (.int pd), .val (.int pe), .val (.int (5 : Int32)), .val (.ref ar), .unset] [(.double x4), (.int (4 : Int32)), (.ref ar)])) t → Steps p.tables e below (s₁.setTop (entryFrame m #[(.int pl), (.int pa), (.int pb), (.int pc), (.int pd), (.int pe)] maxLocals)) t := fun t k => c116 t (by
      show Steps p.tables e below (T114.setTop (mkF m 63 #[.val (.int pl), .val (.int pa), .val (.int pb), .val (.int pc), .val (.int pd), .val (.int pe), .val (.int (5 : Int32)), .val (.ref ar), .unset] [])) _
      refine XS.iload X114.here hx rfl (hb hby at_63) rfl ?_
      show Steps p.tables e below (T114.setTop (mkF m 65 #[.val (.int pl), .val (.int pa), .val (.int pb), .val (.int pc), .val (.int pd), .val (.int pe), .val (.int (5 : Int32)), .val (.ref ar), .unset] [(.int (5 : Int32))])) _
      refine XS.iconst X114.here hx rfl (hb hby at_65) ?_
      show Steps p.tables e below (T114.setTop (mkF m 66 #[.val (.int pl), .val (.int pa), .val (.int pb), .val (.int pc), .val (.int pd), .val (.int pe), .val (.int (5 : Int32)), .val (.ref ar), .unset] [(.int (4 : Int32)), (.int (5 : Int32))])) _
      refine XS.icmpNo X114.here hx rfl (hb hby at_66) rfl (XT.ii_le_f (by decide)) ?_
      show Steps p.tables e below (T114.setTop (mkF m 69 #[.val (.int pl), .val (.int pa), .val (.int pb), .val (.int pc), .val (.int pd), .val (.int pe), .val (.int (5 : Int32)), .val (.ref ar), .unset] [])) _
      refine XS.aload X114.here hx rfl (hb hby at_69) rfl rfl ?_
      show Steps p.tables e below (T114.setTop (mkF m 71 #[.val (.int pl), .val (.int pa), .val (.int pb), .val (.int pc), .val (.int pd), .val (.int pe), .val (.int (5 : Int32)), .val (.ref ar), .unset] [(.ref ar)])) _
      refine XS.iconst X114.here hx rfl (hb hby at_71) ?_
      show Steps p.tables e below (T114.setTop (mkF m 72 #[.val (.int pl), .val (.int pa), .val (.int pb), .val (.int pc), .val (.int pd), .val (.int pe), .val (.int (5 : Int32)), .val (.ref ar), .unset] [(.int (4 : Int32)), (.ref ar)])) _
      refine XS.iload X114.here hx rfl (hb hby at_72) rfl ?_
      show Steps p.tables e below (T114.setTop (mkF m 74 #[.val (.int pl), .val (.int pa), .val (.int pb), .val (.int pc), .val (.int pd), .val (.int pe), .val (.int (5 : Int32)), .val (.ref ar), .unset] [(.int pe), (.int (4 : Int32)), (.ref ar)])) _
      refine XS.i2dS X114.here hx rfl (hb hby at_74) rfl hx4 ?_
      show Steps p.tables e below (T114.setTop (mkF m 75 #[.val (.int pl), .val (.int pa), .val (.int pb), .val (.int pc), .val (.int pd), .val (.int pe), .val (.int (5 : Int32)), .val (.ref ar), .unset] [(.double x4), (.int (4 : Int32)), (.ref ar)])) _
      exact k)
    obtain ⟨T118, h118, X118, e118, W118, st118⟩ := OwnArr.stDA X114 hx hZ e114 F115 (j := (4 : Int32)) (J := 4) (by decide) (by decide) (g := (mkF m 75 #[.val (.int pl), .val (.int pa), .val (.int pb), .val (.int pc), .val (.int pd), .val (.int pe), .val (.int (5 : Int32)), .val (.ref ar), .unset] [(.double x4), (.int (4 : Int32)), (.ref ar)])) rfl rfl (hb hby at_75)
    have F119 : OwnArr.Ag Z h118 ar .double 5 (fun i => if i = 4 then (.double x4) else (fun i => if i = 3 then (.double x3) else (fun i => if i = 2 then (.double x2) else (fun i => if i = 1 then (.double x1) else (fun i => if i = 0 then (.double x0) else (fun _ => (.double (0 : UInt64))) i) i) i) i) i) := (F115.set W118)
    have N118 := Fr.snoc X118 N114 (Nat.le_trans Z0 (Nat.le_of_eq g98.symm))
    have c120 : ∀ t, Steps p.tables e below (T118.setTop (mkF m 76 #[.val (.int pl), .val (.int pa), .val (.int pb), .val (.int pc), .val (.int pd), .val (.int pe), .val (.int (5 : Int32)), .val (.ref ar), .unset] [])) t → Steps p.tables e below (s₁.setTop (entryFrame m #[(.int pl), (.int pa), (.int pb), (.int pc), (.int pd), (.int pe)] maxLocals)) t := fun t k => c117 t (st118 _ k)
    obtain ⟨xs, hxs⟩ : ∃ f : Nat → UInt64, f = fun i => if i = 0 then x0 else if i = 1 then x1 else if i = 2 then x2 else if i = 3 then x3 else if i = 4 then x4 else (0 : UInt64) := ⟨_, rfl⟩
    have AX : OwnArr.Ag Z h118 ar .double 5 (fun i => .double (xs i)) := F119.congr (fun j hj => by
      rw [hxs]
      match j, hj with
      | 0, _ => rfl
      | 1, _ => rfl
      | 2, _ => rfl
      | 3, _ => rfl
      | 4, _ => rfl)
    have fin_ : ∀ i, i < 5 → Core.DFin (xs i) := (fun i hi => by
      rw [hxs]
      match i, hi with
      | 0, _ => exact D0.1
      | 1, _ => exact D1.1
      | 2, _ => exact D2.1
      | 3, _ => exact D3.1
      | 4, _ => exact D4.1)
    have c121 : ∀ t, Steps p.tables e below (T118.setTop (mkF m 78 #[.val (.int pl), .val (.int pa), .val (.int pb), .val (.int pc), .val (.int pd), .val (.int pe), .val (.int (5 : Int32)), .val (.ref ar), .unset] [(.ref ar)])) t → Steps p.tables e below (s₁.setTop (entryFrame m #[(.int pl), (.int pa), (.int pb), (.int pc), (.int pd), (.int pe)] maxLocals)) t := fun t k => c120 t (by
      show Steps p.tables e below (T118.setTop (mkF m 76 #[.val (.int pl), .val (.int pa), .val (.int pb), .val (.int pc), .val (.int pd), .val (.int pe), .val (.int (5 : Int32)), .val (.ref ar), .unset] [])) _
      refine XS.aload X118.here hx rfl (hb hby at_76) rfl rfl ?_
      show Steps p.tables e below (T118.setTop (mkF m 78 #[.val (.int pl), .val (.int pa), .val (.int pb), .val (.int pc), .val (.int pd), .val (.int pe), .val (.int (5 : Int32)), .val (.ref ar), .unset] [(.ref ar)])) _
      exact k)
    obtain ⟨_, _, ⟨T122, L122, k122', n122⟩, -, X122, ⟨Lc122, hQ122, l122, y122, z122⟩, st122⟩ := Jvm.LawKit.callS X118 hx (y := (⟨"com/example/streamgrove/streamgrove/learners/ClassScores", "highest", "([D)I"⟩ : MethodName)) hown (mvT hZ (hw _ (List.mem_of_getElem? (i := 1) rfl))) (mvT hZ (hw _ (List.mem_of_getElem? (i := 2) rfl))) (mvT hZ (hw _ (List.mem_of_getElem? (i := 3) rfl))) (mvT hZ (hw _ (List.mem_of_getElem? (i := 4) rfl))) (by decide) (backOf (W := 0) (rm_1 l Z a0 hw [] ar (5 : Int32) xs 5 h118 n0 (Nat.le_trans (Nat.le_trans (Nat.le_trans (Nat.le_trans (Nat.le_trans (Nat.le_trans Z0 E98.1) (Keep.of_wr W102).1) (Keep.of_wr W106).1) (Keep.of_wr W110).1) (Keep.of_wr W114).1) (Keep.of_wr W118).1) AX (by decide) fin_) hZ (hw _ (List.mem_of_getElem? (i := 4) rfl)) (hw _ (List.mem_of_getElem? (i := 3) rfl)) (by decide) (by decide)) (g := (mkF m 78 #[.val (.int pl), .val (.int pa), .val (.int pb), .val (.int pc), .val (.int pd), .val (.int pe), .val (.int (5 : Int32)), .val (.ref ar), .unset] [(.ref ar)])) rfl (by rw [hml]; rfl) (argsL := [(.ref ar)]) (rest := []) (lenOf pd___D_I rfl) rfl (by show 2 * 0 + _ ≤ _; exact Nat.le_of_eq rfl) (hb hby at_78) (fun _ _ => ⟨rfl, e118, (by decide : 1 + 0 ≤ _), (by decide : 5 + 0 ≤ _)⟩)
    dsimp only [Pt.U, Pt.locs, Pt.cells, Pt.slots] at X122 l122 y122 z122 st122 hQ122
    subst l122 y122 z122
    obtain ⟨⟨gi, gi1, rfl, gi2⟩, N122, e122⟩ := hQ122
    have M122 := Fr.app N118 N122
    have c123 : ∀ t, Steps p.tables e below (T122.setTop (mkF m 81 #[.val (.int pl), .val (.int pa), .val (.int pb), .val (.int pc), .val (.int pd), .val (.int pe), .val (.int (5 : Int32)), .val (.ref ar), .unset] [(.int (Int32.ofNat gi))])) t → Steps p.tables e below (s₁.setTop (entryFrame m #[(.int pl), (.int pa), (.int pb), (.int pc), (.int pd), (.int pe)] maxLocals)) t := fun t k => c121 t (st122 _ k)
    have c124 : ∀ t, Steps p.tables e below (T122.setTop (mkF m 94 #[.val (.int pl), .val (.int pa), .val (.int pb), .val (.int pc), .val (.int pd), .val (.int pe), .val (.int (5 : Int32)), .val (.ref ar), .val (.int (Int32.ofNat gi))] [(.int pe), (.int pd), (.int pc), (.int pb), (.int pa), (.int (5 : Int32)), (.int (Int32.ofNat gi))])) t → Steps p.tables e below (s₁.setTop (entryFrame m #[(.int pl), (.int pa), (.int pb), (.int pc), (.int pd), (.int pe)] maxLocals)) t := fun t k => c123 t (by
      show Steps p.tables e below (T122.setTop (mkF m 81 #[.val (.int pl), .val (.int pa), .val (.int pb), .val (.int pc), .val (.int pd), .val (.int pe), .val (.int (5 : Int32)), .val (.ref ar), .unset] [(.int (Int32.ofNat gi))])) _
      refine XS.istore X122.here hx rfl (hb hby at_81) rfl (l' := #[.val (.int pl), .val (.int pa), .val (.int pb), .val (.int pc), .val (.int pd), .val (.int pe), .val (.int (5 : Int32)), .val (.ref ar), .val (.int (Int32.ofNat gi))]) rfl ?_
      show Steps p.tables e below (T122.setTop (mkF m 83 #[.val (.int pl), .val (.int pa), .val (.int pb), .val (.int pc), .val (.int pd), .val (.int pe), .val (.int (5 : Int32)), .val (.ref ar), .val (.int (Int32.ofNat gi))] [])) _
      refine XS.iload X122.here hx rfl (hb hby at_83) rfl ?_
      show Steps p.tables e below (T122.setTop (mkF m 85 #[.val (.int pl), .val (.int pa), .val (.int pb), .val (.int pc), .val (.int pd), .val (.int pe), .val (.int (5 : Int32)), .val (.ref ar), .val (.int (Int32.ofNat gi))] [(.int (Int32.ofNat gi))])) _
      refine XS.iload X122.here hx rfl (hb hby at_85) rfl ?_
      show Steps p.tables e below (T122.setTop (mkF m 87 #[.val (.int pl), .val (.int pa), .val (.int pb), .val (.int pc), .val (.int pd), .val (.int pe), .val (.int (5 : Int32)), .val (.ref ar), .val (.int (Int32.ofNat gi))] [(.int (5 : Int32)), (.int (Int32.ofNat gi))])) _
      refine XS.iloadN X122.here hx rfl (hb hby at_87) rfl ?_
      show Steps p.tables e below (T122.setTop (mkF m 88 #[.val (.int pl), .val (.int pa), .val (.int pb), .val (.int pc), .val (.int pd), .val (.int pe), .val (.int (5 : Int32)), .val (.ref ar), .val (.int (Int32.ofNat gi))] [(.int pa), (.int (5 : Int32)), (.int (Int32.ofNat gi))])) _
      refine XS.iloadN X122.here hx rfl (hb hby at_88) rfl ?_
      show Steps p.tables e below (T122.setTop (mkF m 89 #[.val (.int pl), .val (.int pa), .val (.int pb), .val (.int pc), .val (.int pd), .val (.int pe), .val (.int (5 : Int32)), .val (.ref ar), .val (.int (Int32.ofNat gi))] [(.int pb), (.int pa), (.int (5 : Int32)), (.int (Int32.ofNat gi))])) _
      refine XS.iloadN X122.here hx rfl (hb hby at_89) rfl ?_
      show Steps p.tables e below (T122.setTop (mkF m 90 #[.val (.int pl), .val (.int pa), .val (.int pb), .val (.int pc), .val (.int pd), .val (.int pe), .val (.int (5 : Int32)), .val (.ref ar), .val (.int (Int32.ofNat gi))] [(.int pc), (.int pb), (.int pa), (.int (5 : Int32)), (.int (Int32.ofNat gi))])) _
      refine XS.iload X122.here hx rfl (hb hby at_90) rfl ?_
      show Steps p.tables e below (T122.setTop (mkF m 92 #[.val (.int pl), .val (.int pa), .val (.int pb), .val (.int pc), .val (.int pd), .val (.int pe), .val (.int (5 : Int32)), .val (.ref ar), .val (.int (Int32.ofNat gi))] [(.int pd), (.int pc), (.int pb), (.int pa), (.int (5 : Int32)), (.int (Int32.ofNat gi))])) _
      refine XS.iload X122.here hx rfl (hb hby at_92) rfl ?_
      show Steps p.tables e below (T122.setTop (mkF m 94 #[.val (.int pl), .val (.int pa), .val (.int pb), .val (.int pc), .val (.int pd), .val (.int pe), .val (.int (5 : Int32)), .val (.ref ar), .val (.int (Int32.ofNat gi))] [(.int pe), (.int pd), (.int pc), (.int pb), (.int pa), (.int (5 : Int32)), (.int (Int32.ofNat gi))])) _
      exact k)
    obtain ⟨_, _, ⟨T125, L125, k125', n125⟩, -, X125, ⟨Lc125, hQ125, l125, y125, z125⟩, st125⟩ := Jvm.LawKit.callS X122 hx (y := (⟨"com/example/streamgrove/streamgrove/learners/ClassScoresHighestPinLaw", "expected", "(IIIIII)I"⟩ : MethodName)) hown (mvT hZ (hw _ (List.mem_of_getElem? (i := 5) rfl))) (mvT hZ (hw _ (List.mem_of_getElem? (i := 6) rfl))) (mvT hZ (hw _ (List.mem_of_getElem? (i := 7) rfl))) (mvT hZ (hw _ (List.mem_of_getElem? (i := 8) rfl))) (by decide) (backOf (W := 1) (rm_2_5 l Z a0 hw [] pa pb pc pd pe h118 n0 (Nat.le_trans (Nat.le_trans (Nat.le_trans (Nat.le_trans (Nat.le_trans (Nat.le_trans Z0 E98.1) (Keep.of_wr W102).1) (Keep.of_wr W106).1) (Keep.of_wr W110).1) (Keep.of_wr W114).1) (Keep.of_wr W118).1)) hZ (hw _ (List.mem_of_getElem? (i := 8) rfl)) (hw _ (List.mem_of_getElem? (i := 7) rfl)) (by decide) (by decide)) (g := (mkF m 94 #[.val (.int pl), .val (.int pa), .val (.int pb), .val (.int pc), .val (.int pd), .val (.int pe), .val (.int (5 : Int32)), .val (.ref ar), .val (.int (Int32.ofNat gi))] [(.int pe), (.int pd), (.int pc), (.int pb), (.int pa), (.int (5 : Int32)), (.int (Int32.ofNat gi))])) rfl (by rw [hml]; rfl) (argsL := [(.int (5 : Int32)), (.int pa), (.int pb), (.int pc), (.int pd), (.int pe)]) (rest := [(.int (Int32.ofNat gi))]) (lenOf pd__IIIIII_I rfl) rfl (by show 2 * 0 + _ ≤ _; exact Nat.le_of_eq rfl) (hb hby at_94) (fun _ _ => ⟨rfl, e122, (by decide : 1 + 0 ≤ _), (by decide : 5 + 0 ≤ _)⟩)
    dsimp only [Pt.U, Pt.locs, Pt.cells, Pt.slots] at X125 l125 y125 z125 st125 hQ125
    subst l125 y125 z125
    obtain ⟨⟨ei, ei1, rfl, ei2⟩, N125, e125⟩ := hQ125
    have M125 := Fr.app M122 N125
    have c126 : ∀ t, Steps p.tables e below (T125.setTop (mkF m 97 #[.val (.int pl), .val (.int pa), .val (.int pb), .val (.int pc), .val (.int pd), .val (.int pe), .val (.int (5 : Int32)), .val (.ref ar), .val (.int (Int32.ofNat gi))] [(.int (Int32.ofNat ei)), (.int (Int32.ofNat gi))])) t → Steps p.tables e below (s₁.setTop (entryFrame m #[(.int pl), (.int pa), (.int pb), (.int pc), (.int pd), (.int pe)] maxLocals)) t := fun t k => c124 t (st125 _ k)
    have same : gi = ei := (gi2.scale (y := five pa pb pc pd pe) (fun j hj => by
      rw [hxs]
      match j, hj with
      | 0, _ => show zv x0 = pa.toInt * U; have := D0.2; rwa [Int.pow_zero, Int.mul_one] at this
      | 1, _ => show zv x1 = pb.toInt * U; have := D1.2; rwa [Int.pow_zero, Int.mul_one] at this
      | 2, _ => show zv x2 = pc.toInt * U; have := D2.2; rwa [Int.pow_zero, Int.mul_one] at this
      | 3, _ => show zv x3 = pd.toInt * U; have := D3.2; rwa [Int.pow_zero, Int.mul_one] at this
      | 4, _ => show zv x4 = pe.toInt * U; have := D4.2; rwa [Int.pow_zero, Int.mul_one] at this) (by decide)).unique ei2
    have c127 : ∀ t, Steps p.tables e below (T125.setTop (mkF m 105 #[.val (.int pl), .val (.int pa), .val (.int pb), .val (.int pc), .val (.int pd), .val (.int pe), .val (.int (5 : Int32)), .val (.ref ar), .val (.int (Int32.ofNat gi))] [(.int (1 : Int32))])) t → Steps p.tables e below (s₁.setTop (entryFrame m #[(.int pl), (.int pa), (.int pb), (.int pc), (.int pd), (.int pe)] maxLocals)) t := fun t k => c126 t (by
      show Steps p.tables e below (T125.setTop (mkF m 97 #[.val (.int pl), .val (.int pa), .val (.int pb), .val (.int pc), .val (.int pd), .val (.int pe), .val (.int (5 : Int32)), .val (.ref ar), .val (.int (Int32.ofNat gi))] [(.int (Int32.ofNat ei)), (.int (Int32.ofNat gi))])) _
      refine XS.icmpNo X125.here hx rfl (hb hby at_97) rfl (XT.ii_ne_f (by rw [same])) ?_
      show Steps p.tables e below (T125.setTop (mkF m 100 #[.val (.int pl), .val (.int pa), .val (.int pb), .val (.int pc), .val (.int pd), .val (.int pe), .val (.int (5 : Int32)), .val (.ref ar), .val (.int (Int32.ofNat gi))] [])) _
      refine XS.iconst X125.here hx rfl (hb hby at_100) ?_
      show Steps p.tables e below (T125.setTop (mkF m 101 #[.val (.int pl), .val (.int pa), .val (.int pb), .val (.int pc), .val (.int pd), .val (.int pe), .val (.int (5 : Int32)), .val (.ref ar), .val (.int (Int32.ofNat gi))] [(.int (1 : Int32))])) _
      refine XS.goto X125.here hx rfl (pc0 := 101) (pc' := 105) rfl (hb hby at_101) (by decide) (by decide) ?_
      show Steps p.tables e below (T125.setTop (mkF m 105 #[.val (.int pl), .val (.int pa), .val (.int pb), .val (.int pc), .val (.int pd), .val (.int pe), .val (.int (5 : Int32)), .val (.ref ar), .val (.int (Int32.ofNat gi))] [(.int (1 : Int32))])) _
      exact k)
    obtain ⟨fs, hr, hrun, hended, hW, hsame⟩ := X125.leave (v := (some (.int (1 : Int32)))) (fun h => by rw [Bd.returns] at h; cases h)
    refine ⟨_, _, pre0 _ (c127 _ (retN X125 hx (t := .boolean) Bd.returns (by simp) (hb hby at_105) hr)), hrun, hended, _, _, rfl, ?_, ⟨_, rfl⟩, hW, hsame.mono (by decide) (by decide)⟩
    show Q_0 Z pl pa pb pc pd pe h0 n0 _ T125.heap _
    rw [e125]
    exact ⟨rfl, M125⟩
set_option maxRecDepth 65536 in
set_option maxHeartbeats 40000000 in
theorem comes_1 {Post : Tables → Env → Array Value → State → Outcome → State → Prop} (hpost : ∀ tb e args s v u, (limb_1_1.after args s (.returned v) u = true ∧ limb_1_2.after args s (.returned v) u = true ∧ True) → FrameEnd s (.returned v) u (Jvm.fieldLocs frame_1_writes args s ++ Jvm.arrayLocs frame_1_arrays args s ++ Jvm.staticLocs frame_1_statics s) 16 128 → Post tb e args s (.returned v) u) :
    ArmFor flags0 classFile x code maxLocals ret World_1 tables_1 room_1 Calls_1 rest_1 Pre_1 Post := by
  intro l hfl _ _ p e ha hc hk s m args below hf hA hF happ hP
  obtain ⟨hcalls, hrest, hpre⟩ := hP
  obtain ⟨-, -, -, hnamed, -, -, -, hat⟩ := (Spec.applies_iff hf).mp happ
  obtain ⟨hg, hn⟩ := and_e (Cond.before_iff.mp (show (Jvm.Cond.and given_1 narrow_1).before args s = true from hpre))
  obtain ⟨g0, r0⟩ := and_e hg
  obtain ⟨g1, r1⟩ := and_e r0
  obtain ⟨g2, r2⟩ := and_e r1
  obtain ⟨g3, r3⟩ := and_e r2
  obtain ⟨g4, r4⟩ := and_e r3
  obtain ⟨g5, r5⟩ := and_e r4
  obtain ⟨w0, w1, w2, w3, w4, w5, rfl⟩ : ∃ w0 w1 w2 w3 w4 w5 : Value, args = #[w0, w1, w2, w3, w4, w5] := by
    have hs : args.size = 6 := by simpa [Cond.value, given_1] using g0
    obtain ⟨L⟩ := args
    match L, hs with
    | [w0, w1, w2, w3, w4, w5], _ => exact ⟨w0, w1, w2, w3, w4, w5, rfl⟩
  have hw := fun d (hd : d ∈ tables_1) => atoms_spec (ws := Jvm.Cond.code x code maxLocals ret :: tables_1) hat d (List.mem_cons_of_mem _ hd)
  obtain ⟨i0, e0⟩ := is_v g1
  obtain rfl : w0 = (.int i0) := Option.some.inj e0
  obtain ⟨i1, e1⟩ := is_v g2
  obtain rfl : w1 = (.int i1) := Option.some.inj e1
  obtain ⟨i2, e2⟩ := is_v g3
  obtain rfl : w2 = (.int i2) := Option.some.inj e2
  obtain ⟨i3, e3⟩ := is_v g4
  obtain rfl : w3 = (.int i3) := Option.some.inj e3
  obtain ⟨i4, e4⟩ := is_v g5
  obtain rfl : w4 = (.int i4) := Option.some.inj e4
  obtain ⟨i5, e5⟩ := is_v r5
  obtain rfl : w5 = (.int i5) := Option.some.inj e5
  obtain ⟨n, o, h1, h2, h3, _, L, rfl, ⟨rfl, N⟩, hq⟩ := rm_0 l s _ hw tables_1 i0 i1 i2 i3 i4 i5 s.heap s.heap.size (Nat.le_refl _)  p e ha hc hk s m _ below hf ((Spec.applies_iff_loose hf).mp happ).1 ⟨rfl, State.Warmed39.refl s, rfl⟩ trivial
  refine ⟨n, _, h1, h2, h3, hpost _ _ _ _ _ _ ⟨Cond.after_iff.mpr rfl, Cond.after_iff.mpr (eq_i res_at (Term.int_eval (1)) rfl), trivial⟩ ⟨hq.1, hq.2.1, (hq.2.2.sift fun y hy => Or.inr (N y hy)).mono (by decide) (by decide)⟩⟩
theorem main_1_1 : Claimed_1_1 := comes_1 fun _ _ _ _ _ _ h hF => ⟨h.1, hF⟩
theorem main_1_2 : Claimed_1_2 := comes_1 fun _ _ _ _ _ _ h hF => ⟨h.2.1, hF⟩
end Jvm.Pilot.@@N@@
namespace Jvm.Pilot.@@N@@
open Jvm Jvm.ClassFile Sem Op Lib Jvm.Free Jvm.Stand Jvm.Pilot.@@N@@.Jvm.D
/-! MADE BY PROGRAM (witnessworld.py) out of the Statement's table words and the real class files: 12 classes; the members and pool entries that the words name. The judged class is class 1, her method 1. -/
namespace start1
open Jvm.ClassFile
def u (s : String) : CpInfo := .utf8 (stringToUtf16 s)
/-- a pool by its gaps: so many unusable entries, then the entry; so many at the end -/
def gap : Nat → List CpInfo → List CpInfo
  | 0, r => r
  | n + 1, r => .unusable :: gap n r
def poolList (es : List (Nat × CpInfo)) (last : Nat) : List CpInfo := es.foldr (fun e r => gap e.1 (e.2 :: r)) (gap last [])
def pool (es : List (Nat × CpInfo)) (last : Nat) : Array CpInfo := ⟨poolList es last⟩
def fileOf (pool : Array CpInfo) (this : Nat) (attrs : Array Attribute := #[]) (ms : Array MethodInfo := #[]) (fl : Nat := 33) (sup : Nat := 0) (ifs : Array Nat := #[]) (fds : Array FieldInfo := #[]) : ClassFile where
  minorVersion := 0
  majorVersion := 65
  constantPool := pool
  accessFlags := fl
  thisClass := this
  superClass := sup
  interfaces := ifs
  fields := fds
  methods := ms
  attributes := attrs
def plain (name : String) (sup : Option ClassId) : Class where
  name := name
  kind := .ordinary
  loader := none
  accessFlags := 33
  super := sup
  interfaces := #[]
  cf := none
  fields := #[]
  methods := #[]
  instanceTypes := #[]
  staticTypes := #[]
  resolved := #[]
  callSites := []
  init := .initialized
  statics := none
  mirror := none

def pool0 : Array CpInfo := pool [(5, u "<init>"), (0, u "()V"), (1, .class_ 10), (1, u "java/lang/Object")] 113

def k0m0 : Method := { name := "<init>", desc := "()V", sig := { parameters := [], returnType := none }, accessFlags := 1, code := none }
/-- java/lang/Object -/
def k0 : Class := { plain "java/lang/Object" none with
  accessFlags := 33
  interfaces := #[]
  cf := some (fileOf pool0 8 #[] #[{ accessFlags := 1, nameIndex := 5, descriptorIndex := 6, attributes := #[] }] 33 0 #[] #[])
  fields := #[]
  methods := #[k0m0]
  instanceTypes := #[]
  staticTypes := #[]
  resolved := Array.replicate 124 none
  statics := none }

def pool1 : Array CpInfo := pool [(2, .class_ 4), (1, u "java/lang/Object"), (0, u "<init>"), (0, u "()V"), (0, .methodref 8 9), (0, .class_ 10), (0, .nameAndType 11 12), (0, u "com/example/streamgrove/streamgrove/learners/ClassScores"), (0, u "highest"), (0, u "([D)I"), (0, .methodref 14 15), (0, .class_ 16), (0, .nameAndType 17 18), (0, u "com/example/streamgrove/streamgrove/learners/ClassScoresHighestPinLaw"), (0, u "expected"), (0, u "(IIIIII)I"), (0, .methodref 20 21), (0, .class_ 22), (0, .nameAndType 23 24), (0, u "java/lang/Math"), (0, u "max"), (0, u "(II)I"), (2, u "law"), (0, u "(IIIIII)Z")] 5

def k1m0 : Method := { name := "<init>", desc := "()V", sig := { parameters := [], returnType := none }, accessFlags := 2, code := none }
def k1c1 : Code := { maxStack := 7, maxLocals := 9, code := code, exceptionTable := #[], attributes := #[] }
def k1m1 : Method := { name := "law", desc := "(IIIIII)Z", sig := { parameters := [.int, .int, .int, .int, .int, .int], returnType := some .boolean }, accessFlags := 9, code := some k1c1 }
def k1c2 : Code := { maxStack := 2, maxLocals := 7, code := method_3_code, exceptionTable := #[], attributes := #[] }
def k1m2 : Method := { name := "expected", desc := "(IIIIII)I", sig := { parameters := [.int, .int, .int, .int, .int, .int], returnType := some .int }, accessFlags := 10, code := some k1c2 }
/-- com/example/streamgrove/streamgrove/learners/ClassScoresHighestPinLaw -/
def k1 : Class := { plain "com/example/streamgrove/streamgrove/learners/ClassScoresHighestPinLaw" (some 0) with
  accessFlags := 49
  interfaces := #[]
  cf := some (fileOf pool1 14 #[] #[{ accessFlags := 2, nameIndex := 5, descriptorIndex := 6, attributes := #[] }, { accessFlags := 9, nameIndex := 27, descriptorIndex := 28, attributes := #[] }, { accessFlags := 10, nameIndex := 17, descriptorIndex := 18, attributes := #[] }] 49 2 #[] #[])
  fields := #[]
  methods := #[k1m0, k1m1, k1m2]
  instanceTypes := #[]
  staticTypes := #[]
  resolved := Array.replicate 34 none
  statics := none }

def pool2 : Array CpInfo := pool [(2, .class_ 4), (1, u "java/lang/Object"), (0, u "<init>"), (0, u "()V"), (1, .class_ 10), (1, u "com/example/streamgrove/streamgrove/learners/ClassScores"), (28, u "highest"), (0, u "([D)I")] 4

def k2m0 : Method := { name := "<init>", desc := "()V", sig := { parameters := [], returnType := none }, accessFlags := 2, code := none }
def k2c1 : Code := { maxStack := 4, maxLocals := 3, code := prog_33_method_2_code, exceptionTable := #[], attributes := #[] }
def k2m1 : Method := { name := "highest", desc := "([D)I", sig := { parameters := [(.array .double)], returnType := some .int }, accessFlags := 8, code := some k2c1 }
/-- com/example/streamgrove/streamgrove/learners/ClassScores -/
def k2 : Class := { plain "com/example/streamgrove/streamgrove/learners/ClassScores" (some 0) with
  accessFlags := 48
  interfaces := #[]
  cf := some (fileOf pool2 8 #[] #[{ accessFlags := 2, nameIndex := 5, descriptorIndex := 6, attributes := #[] }, { accessFlags := 8, nameIndex := 39, descriptorIndex := 40, attributes := #[] }] 48 2 #[] #[])
  fields := #[]
  methods := #[k2m0, k2m1]
  instanceTypes := #[]
  staticTypes := #[]
  resolved := Array.replicate 45 none
  statics := none }

def pool3 : Array CpInfo := pool [(1, .class_ 2), (0, u "java/lang/Math"), (1, .class_ 6), (1, u "java/lang/Object"), (0, u "<init>"), (0, u "()V"), (89, .class_ 100), (1, u "java/lang/Math$RandomNumberGeneratorHolder"), (71, u "negativeZeroFloatBits"), (0, u "J"), (2, u "negativeZeroDoubleBits"), (21, u "max"), (46, u "$assertionsDisabled"), (0, u "Z"), (88, u "(II)I"), (2, u "twoToTheDoubleScaleDown"), (0, u "D"), (4, u "twoToTheDoubleScaleUp"), (9, u "E"), (3, u "PI"), (2, u "TAU"), (2, u "DEGREES_TO_RADIANS"), (0, u "RADIANS_TO_DEGREES")] 94

def k3m0 : Method := { name := "<init>", desc := "()V", sig := { parameters := [], returnType := none }, accessFlags := 2, code := none }
def k3c1 : Code := { maxStack := 2, maxLocals := 2, code := jdk_29_method_65_code, exceptionTable := #[], attributes := #[] }
def k3m1 : Method := { name := "max", desc := "(II)I", sig := { parameters := [.int, .int], returnType := some .int }, accessFlags := 9, code := some k3c1 }
/-- java/lang/Math -/
def k3 : Class := { plain "java/lang/Math" (some 0) with
  accessFlags := 49
  interfaces := #[]
  cf := some (fileOf pool3 1 #[.nestMembers #[98]] #[{ accessFlags := 2, nameIndex := 7, descriptorIndex := 8, attributes := #[] }, { accessFlags := 9, nameIndex := 198, descriptorIndex := 335, attributes := #[] }] 49 4 #[] #[{ accessFlags := 25, nameIndex := 354, descriptorIndex := 339, attributes := #[] }, { accessFlags := 25, nameIndex := 358, descriptorIndex := 339, attributes := #[] }, { accessFlags := 25, nameIndex := 361, descriptorIndex := 339, attributes := #[] }, { accessFlags := 26, nameIndex := 364, descriptorIndex := 339, attributes := #[] }, { accessFlags := 26, nameIndex := 365, descriptorIndex := 339, attributes := #[] }, { accessFlags := 26, nameIndex := 172, descriptorIndex := 173, attributes := #[] }, { accessFlags := 26, nameIndex := 176, descriptorIndex := 173, attributes := #[] }, { accessFlags := 8, nameIndex := 344, descriptorIndex := 339, attributes := #[] }, { accessFlags := 8, nameIndex := 338, descriptorIndex := 339, attributes := #[] }, { accessFlags := 4120, nameIndex := 245, descriptorIndex := 246, attributes := #[] }])
  fields := #[{ name := "E", type := .double, accessFlags := 25, slot := 0, constantValue := 0 }, { name := "PI", type := .double, accessFlags := 25, slot := 1, constantValue := 0 }, { name := "TAU", type := .double, accessFlags := 25, slot := 2, constantValue := 0 }, { name := "DEGREES_TO_RADIANS", type := .double, accessFlags := 26, slot := 3, constantValue := 0 }, { name := "RADIANS_TO_DEGREES", type := .double, accessFlags := 26, slot := 4, constantValue := 0 }, { name := "negativeZeroFloatBits", type := .long, accessFlags := 26, slot := 5, constantValue := 0 }, { name := "negativeZeroDoubleBits", type := .long, accessFlags := 26, slot := 6, constantValue := 0 }, { name := "twoToTheDoubleScaleUp", type := .double, accessFlags := 8, slot := 7, constantValue := 0 }, { name := "twoToTheDoubleScaleDown", type := .double, accessFlags := 8, slot := 8, constantValue := 0 }, { name := "$assertionsDisabled", type := .boolean, accessFlags := 4120, slot := 9, constantValue := 0 }]
  methods := #[k3m0, k3m1]
  instanceTypes := #[]
  staticTypes := #[.double, .double, .double, .double, .double, .long, .long, .double, .double, .boolean]
  resolved := Array.replicate 460 none
  statics := none }

def pool4 : Array CpInfo := pool [(1, u "java/lang/Cloneable"), (0, .class_ 1), (0, u "java/lang/Object"), (0, .class_ 3)] 3

/-- java/lang/Cloneable -/
def k4 : Class := { plain "java/lang/Cloneable" (some 0) with
  accessFlags := 1537
  interfaces := #[]
  cf := some (fileOf pool4 2 #[] #[] 1537 4 #[] #[])
  fields := #[]
  methods := #[]
  instanceTypes := #[]
  staticTypes := #[]
  resolved := Array.replicate 8 none
  statics := none }

def pool5 : Array CpInfo := pool [(1, u "java/io/Serializable"), (0, .class_ 1), (0, u "java/lang/Object"), (0, .class_ 3)] 3

/-- java/io/Serializable -/
def k5 : Class := { plain "java/io/Serializable" (some 0) with
  accessFlags := 1537
  interfaces := #[]
  cf := some (fileOf pool5 2 #[] #[] 1537 4 #[] #[])
  fields := #[]
  methods := #[]
  instanceTypes := #[]
  staticTypes := #[]
  resolved := Array.replicate 8 none
  statics := none }

/-- the primitive byte -/
def k6 : Class := { plain "byte" none with kind := .primitive 'B', accessFlags := 0x411 }
/-- [B -/
def k7 : Class := { plain "[B" (some 0) with kind := .array 6 .byte, interfaces := #[4, 5], accessFlags := 1041 }

/-- the primitive double -/
def k8 : Class := { plain "double" none with kind := .primitive 'D', accessFlags := 0x411 }
/-- [D -/
def k9 : Class := { plain "[D" (some 0) with kind := .array 8 .double, interfaces := #[4, 5], accessFlags := 1041 }

/-- the primitive int -/
def k10 : Class := { plain "int" none with kind := .primitive 'I', accessFlags := 0x411 }
/-- [I -/
def k11 : Class := { plain "[I" (some 0) with kind := .array 10 .int, interfaces := #[4, 5], accessFlags := 1041 }

def heap : Heap := #[]
def classes : Array Class := #[k0, k1, k2, k3, k4, k5, k6, k7, k8, k9, k10, k11]
def interned : List (Array UInt16 × Addr) := []
def slotsUsed : Nat := 0
def theMethod : MethodId := ⟨1, 1⟩
def args0 : Array Value := #[.int 3, .int 3, .int 3, .int 3, .int 3, .int 3]
def aboutOver (below : List Frame) : State where
  vm := { classes := classes, interned := interned.toArray }
  heap := heap
  slotsUsed := slotsUsed
  threads := #[{ frames := .invoking theMethod args0 :: below }]
def below0 : List Frame := [.native { method := ⟨0, 0⟩, args := #[] }]
def about1 : State := aboutOver below0
def p0 : Program := .bare "" "" ""
def e0 : Env := launch0.env 0 0 0
theorem w_frames : about1.frames = Frame.invoking theMethod args0 :: below0 := rfl
set_option maxRecDepth 65536 in
theorem w_args : argsFit about1.vm theMethod args0 = true := by decide +kernel
set_option maxRecDepth 65536 in
theorem w_heap : heapFits about1 = true := by decide +kernel
set_option maxRecDepth 65536 in
theorem w_runnable : about1.curStatus? = some .runnable := by decide +kernel
set_option maxRecDepth 65536 in
theorem w_alone : about1.alone = true := by decide +kernel
set_option maxRecDepth 65536 in
theorem w_named : about1.methodNamed? x = some theMethod := by decide +kernel
set_option maxRecDepth 65536 in
theorem w_hears : about1.hears theMethod below0 = true := by decide +kernel
set_option maxRecDepth 65536 in
theorem w_ripe : about1.ripe theMethod args0 below0 = true := by decide +kernel
theorem w_running : about1.status = .running := rfl
set_option maxRecDepth 65536 in
theorem w_room : about1.hasRoom e0.platform room_1 = true :=
  launch0.hasRoom_least _ room_1 (by decide +kernel) (by decide +kernel) (by decide +kernel) (by decide +kernel) (by decide +kernel) (by decide +kernel)
theorem allAtoms_all (ts : List Jvm.Cond) (a : Array Jvm.Value) (st : Jvm.State) : (allAtoms ts).before a st = ts.all (fun c => c.before a st) := by
  induction ts with
  | nil => rfl
  | cons c t ih =>
    show (Jvm.Cond.and c (allAtoms t)).before a st = _
    rw [Jvm.Cond.before_and, ih, List.all_cons]
def words1 : List Jvm.Cond := Jvm.Cond.code x code maxLocals ret :: tables_1
/-- a 'code' word, met by the world's own term for the bytes: nothing is compared byte by byte -/
theorem code_word {y : MethodName} {bytes : ByteArray} {mx : Nat} {rt : Option FieldType} {a : Array Value} {s : State} {m : MethodId} {meth : Method} {c : Code} (h1 : s.methodNamed? y = some m) (h2 : s.vm.method? m = some meth) (h3 : meth.code = some c) (h4 : c.code = bytes)
    (h5 : (c.maxLocals == mx && c.exceptionTable.isEmpty && decide (c.maxStack ≤ mostOperands) && decide (meth.sig.returnType = rt) && !meth.locks && decide (parseMethodDescriptor y.desc = some meth.sig)) = true) : (Jvm.Cond.code y bytes mx rt).before a s = true := by
  simp only [Bool.and_eq_true, beq_iff_eq, Bool.not_eq_true', decide_eq_true_eq] at h5
  obtain ⟨⟨⟨⟨⟨g1, g2⟩, g3⟩, g4⟩, g5⟩, g6⟩ := h5
  simp [Cond.before, Cond.holds, Cond.value, h1, h2, h3, h4, g1, g2, g3, g4, g5, g6]
def isCode : Jvm.Cond → Bool
  | .code _ _ _ _ => true
  | _ => false
theorem all_split {L : List Jvm.Cond} {P : Jvm.Cond → Bool} (h1 : L.all (fun c => isCode c || P c) = true) (h2 : ∀ c ∈ L.filter isCode, P c = true) : L.all P = true := by
  refine List.all_eq_true.mpr fun c hc => ?_
  have h := List.all_eq_true.mp h1 c hc
  rcases Bool.eq_false_or_eq_true (isCode c) with hi | hi
  · exact h2 c (List.mem_filter.mpr ⟨hc, hi⟩)
  · simpa [hi] using h
set_option maxRecDepth 65536 in
theorem w_c0 : (Jvm.Cond.code x code maxLocals ret).before args0 about1 = true := code_word (m := ⟨1, 1⟩) (meth := k1m1) (c := k1c1) (by decide +kernel) rfl rfl rfl (by decide +kernel)
set_option maxRecDepth 65536 in
theorem w_c1 : (Jvm.Cond.code ({ cls := "com/example/streamgrove/streamgrove/learners/ClassScores", name := "highest", desc := "([D)I" } : Jvm.MethodName) prog_33_method_2_code (3 : Nat) (Option.some Jvm.ClassFile.FieldType.int)).before args0 about1 = true := code_word (m := ⟨2, 1⟩) (meth := k2m1) (c := k2c1) (by decide +kernel) rfl rfl rfl (by decide +kernel)
set_option maxRecDepth 65536 in
theorem w_c2 : (Jvm.Cond.code ({ cls := "com/example/streamgrove/streamgrove/learners/ClassScoresHighestPinLaw", name := "expected", desc := "(IIIIII)I" } : Jvm.MethodName) method_3_code (7 : Nat) (Option.some Jvm.ClassFile.FieldType.int)).before args0 about1 = true := code_word (m := ⟨1, 2⟩) (meth := k1m2) (c := k1c2) (by decide +kernel) rfl rfl rfl (by decide +kernel)
set_option maxRecDepth 65536 in
theorem w_c3 : (Jvm.Cond.code ({ cls := "java/lang/Math", name := "max", desc := "(II)I" } : Jvm.MethodName) jdk_29_method_65_code (2 : Nat) (Option.some Jvm.ClassFile.FieldType.int)).before args0 about1 = true := code_word (m := ⟨3, 1⟩) (meth := k3m1) (c := k3c1) (by decide +kernel) rfl rfl rfl (by decide +kernel)
def codes1 : List Jvm.Cond := [Jvm.Cond.code x code maxLocals ret, Jvm.Cond.code ({ cls := "com/example/streamgrove/streamgrove/learners/ClassScores", name := "highest", desc := "([D)I" } : Jvm.MethodName) prog_33_method_2_code (3 : Nat) (Option.some Jvm.ClassFile.FieldType.int), Jvm.Cond.code ({ cls := "com/example/streamgrove/streamgrove/learners/ClassScoresHighestPinLaw", name := "expected", desc := "(IIIIII)I" } : Jvm.MethodName) method_3_code (7 : Nat) (Option.some Jvm.ClassFile.FieldType.int), Jvm.Cond.code ({ cls := "java/lang/Math", name := "max", desc := "(II)I" } : Jvm.MethodName) jdk_29_method_65_code (2 : Nat) (Option.some Jvm.ClassFile.FieldType.int)]
set_option maxRecDepth 65536 in
theorem codes_eq : words1.filter isCode = codes1 := rfl
theorem w_codes : ∀ c ∈ words1.filter isCode, c.before args0 about1 = true := by
  rw [codes_eq]
  intro c hc
  simp only [codes1, List.mem_cons, List.not_mem_nil, or_false] at hc
  rcases hc with rfl | rfl | rfl | rfl
  · exact w_c0
  · exact w_c1
  · exact w_c2
  · exact w_c3
set_option maxRecDepth 65536 in
theorem w_t1 : words1.all (fun c => isCode c || c.before args0 about1) = true := by decide +kernel
theorem w_tables : (allAtoms (Jvm.Cond.code x code maxLocals ret :: tables_1)).before args0 about1 = true := by
  rw [allAtoms_all]
  show words1.all (fun c => c.before args0 about1) = true
  refine all_split ?_ w_codes
  rw [w_t1]
set_option maxRecDepth 65536 in
theorem w_case : (Jvm.Cond.and given_1 narrow_1).before args0 about1 = true := by decide +kernel
theorem w_applies : (headSpec (Jvm.Cond.code x code maxLocals ret :: tables_1) room_1).applies x e0.platform about1 = true :=
  (Spec.applies_iff w_frames).mpr ⟨w_running, w_runnable, w_alone, w_named, w_hears, w_ripe, w_room, w_tables⟩
theorem atStart : AtStart classFile x code maxLocals ret World_1 tables_1 room_1 Calls_1 rest_1 Pre_1 launch0 p0 e0 about1 theMethod args0 below0 :=
  ⟨lists_1, trivial, launch0.admits_env _ _ _, launch0.least_env, fairChoices_fair.cas, fairChoices_fair.clock, w_frames, w_args, w_heap, w_applies, trivial, trivial, w_case⟩
end start1
theorem witness_1 : WitnessClaimed_1 := ⟨start1.p0, start1.e0, start1.about1, start1.theMethod, start1.args0, start1.below0, start1.atStart⟩
end Jvm.Pilot.@@N@@
