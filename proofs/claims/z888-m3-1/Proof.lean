import JvmDerived
import JvmDerived.Pilot.@@N@@Statement
import JvmDerived.Pilot.@@N@@Code
set_option linter.unusedVariables false
set_option linter.unusedSimpArgs false
@@BLOCK:NumsL.lean.txt@@
namespace Jvm.RoadKit
open Sem ClassFile Op Lib Jvm.Stand Jvm.Free Jvm.LawKit
section New
variable {p : Program} {l : Launch} {e : Env} {R : Room} {s : State} {m : MethodId} {args : Array Value} {below : List Frame} {meth : Method} {c : Code} {T : State} {locs : List Loc} {cells slots : Nat}
theorem retI (X : Stand p l e R s m args below meth c T locs cells slots) (hx : p.tables.exec = Jvm.exec) {pc : Nat} {Ls : Array Slot} {z : Int32} {rest : List Value} (hret : meth.sig.returnType = some .int) (hd : decode c.code pc = .ok (.ireturn, 1)) {fs : List Frame}
    (hl : ∀ (f : JFrame) (acts : List Action), f.method = m → f.locked = none → f.entered = [] → (doReturn e (T.setTop f) acts (some (.int z))).1 = T.setFrames fs) : Steps p.tables e below (T.setTop (mkF m pc Ls (.int z :: rest))) (T.setFrames fs) := by
  have hm' : T.vm.method? m = some meth := X.method'
  have hn : narrow .int (.int z) = .int z := rfl
  show Steps p.tables e below (T.setTop { method := m, pc := pc, locals := Ls, stack := _ :: rest, locked := none }) _
  jvm_step X.here [X.here.top, hx, hd, hm', hret, hn]
  first | (intro acts; rw [hl _ acts rfl rfl rfl]) | rw [hl _ _ rfl rfl rfl]
  exact Steps.refl _
end New
end Jvm.RoadKit
namespace Jvm.OwnFP
open Jvm.FP
/-- a double's value in units of 2^-1074 -/
def zv (a : UInt64) : Int := Core.zval Core.b64 (Core.val64 a)
/-- how many units make one -/
def U : Int := (Core.one64 : Int)
theorem U_pos : 0 < U := by have := Core.one64_pos; unfold U; omega
theorem U_pow (k : Nat) (h : k ≤ 1074) : U = 2 ^ (1074 - k) * 2 ^ k := by
  have e : (2 : Int) ^ (1074 - k) * 2 ^ k = 2 ^ 1074 := by rw [← Int.pow_add]; congr 1; omega
  rw [e]; unfold U Core.one64; rw [Int.natCast_pow]; rfl
theorem pow_pos (k : Nat) : (0 : Int) < 2 ^ k := Int.pow_pos (by decide)
theorem notNan {a : UInt64} (h : Core.DFin a) : Core.val64 a ≠ .nan := by obtain ⟨s, c, q, h⟩ := h; rw [h]; exact Core.Datum.noConfusion
theorem fin_parts {a : UInt64} (h : Core.DFin a) : ∃ (s : Bool) (c i : Nat), Core.val64 a = .fin s c ((i : Int) - 1074) ∧ Core.fits Core.b64 (.fin s c ((i : Int) - 1074)) ∧ zv a = Core.signed s (c * 2 ^ i) := by
  obtain ⟨s, c, q, h⟩ := h
  have hf := Core.val64_fits a
  rw [h] at hf
  have hq : -1074 ≤ q := by have := hf.2.1; rw [Core.qmin_b64] at this; exact this
  obtain ⟨i, hi⟩ : ∃ i : Nat, q = (i : Int) - 1074 := ⟨(q + 1074).toNat, by omega⟩
  subst hi
  refine ⟨s, c, i, h, hf, ?_⟩
  unfold zv Core.zval; rw [h]
  show Core.signed s (c * 2 ^ ((i : Int) - 1074 - Core.b64.qmin).toNat) = _
  rw [Core.qmin_b64, show ((i : Int) - 1074 - -1074).toNat = i by omega]
/-- rounding a quotient is monotone: at most a number of the format -/
theorem ratio_le {s : Bool} {A B : Nat} {e e0 : Int} {V : Core.Datum} (hB : 0 < B) (hV : Core.fits Core.b64 V) (hn : V ≠ .nan) (h0 : e0 ≤ Core.b64.qmin) (h0e : e0 ≤ e)
    (h : Core.signed s (Core.inUnits A e e0) ≤ Core.zval Core.b64 V * ((2 ^ (Core.b64.qmin - e0).toNat * B : Nat) : Int)) :
    Core.zval Core.b64 (Core.roundRatio Core.b64 s A B e) ≤ Core.zval Core.b64 V := by
  have hle := Core.zmag_roundRatio_le Core.good_b64 (s := s) (A := A) hB hV hn h0 h0e
  have hge := Core.zmag_roundRatio_ge Core.good_b64 (s := s) (A := A) hB hV h0 h0e
  have hP : 0 < 2 ^ (Core.b64.qmin - e0).toNat * B := Nat.mul_pos (Nat.two_pow_pos _) hB
  rw [Nat.mul_assoc] at hle hge
  unfold Core.zval at h ⊢
  rw [Core.sgn_roundRatio]
  rw [← Core.signed_mul] at h
  have hz : Core.zmag Core.b64 V * (2 ^ (Core.b64.qmin - e0).toNat * B) = 0 → Core.zmag Core.b64 V = 0 := fun q => by
    rcases Nat.mul_eq_zero.mp q with q | q
    · exact q
    · omega
  generalize Core.zmag Core.b64 V * (2 ^ (Core.b64.qmin - e0).toNat * B) = vP at *
  generalize Core.sgn V = t at *
  generalize Core.zmag Core.b64 V = z at *
  generalize Core.zmag Core.b64 (Core.roundRatio Core.b64 s A B e) = r at *
  generalize Core.inUnits A e e0 = x at *
  cases s <;> cases t <;> simp only [Core.signed, if_true, Bool.false_eq_true, if_false] at h ⊢
  · have := hle (by omega); omega
  · have := hle (by omega); have := hz (by omega); omega
  · omega
  · have := hge (by omega); omega
theorem ratio_ge {s : Bool} {A B : Nat} {e e0 : Int} {V : Core.Datum} (hB : 0 < B) (hV : Core.fits Core.b64 V) (hn : V ≠ .nan) (h0 : e0 ≤ Core.b64.qmin) (h0e : e0 ≤ e)
    (h : Core.zval Core.b64 V * ((2 ^ (Core.b64.qmin - e0).toNat * B : Nat) : Int) ≤ Core.signed s (Core.inUnits A e e0)) :
    Core.zval Core.b64 V ≤ Core.zval Core.b64 (Core.roundRatio Core.b64 s A B e) := by
  have h1 := ratio_le (s := !s) (V := Core.negate V) hB (Core.negate_fits hV) (Core.negate_ne_nan hn) h0 h0e (by
    rw [Core.zval_negate, Int.neg_mul, Core.signed_not]; exact Int.neg_le_neg h)
  rw [Core.zval_negate, ← Core.negate_roundRatio, Core.zval_negate] at h1
  omega
theorem signed_pos_parts {t : Bool} {n : Nat} (h : 0 < Core.signed t n) : t = false ∧ 0 < n := by
  cases t <;> simp [Core.signed] at h ⊢ <;> omega
/-- the quotient as a rounded ratio -/
theorem ddiv_parts {a b : UInt64} (ha : Core.DFin a) (hb : Core.DFin b) (pb : 0 < zv b) :
    ∃ (s : Bool) (c d i j : Nat), zv a = Core.signed s (c * 2 ^ i) ∧ zv b = ((d * 2 ^ j : Nat) : Int) ∧ 0 < d ∧ Core.val64 (FP.ddiv a b) = Core.roundRatio Core.b64 s c d ((i : Int) - (j : Int)) := by
  obtain ⟨s, c, i, h1, f1, z1⟩ := fin_parts ha
  obtain ⟨t, d, j, h2, f2, z2⟩ := fin_parts hb
  rw [z2] at pb
  obtain ⟨rfl, hd⟩ := signed_pos_parts pb
  have hd' : 0 < d := Nat.pos_of_mul_pos_right hd
  refine ⟨s, c, d, i, j, z1, z2, hd', ?_⟩
  show Core.val64 (Core.ddiv a b) = _
  rw [Core.val64_ddiv, h1, h2]
  show (if d = 0 then _ else Core.roundRatio Core.b64 (s != false) c d ((i : Int) - 1074 - ((j : Int) - 1074))) = _
  rw [if_neg (by omega), show ((i : Int) - 1074 - ((j : Int) - 1074)) = (i : Int) - j by omega]
  cases s <;> rfl
theorem div_key {s : Bool} {c d i j : Nat} : Core.signed s (Core.inUnits c ((i : Int) - j) (-1074 - (j : Int))) = Core.signed s (c * 2 ^ i) * U ∧ ((2 ^ (Core.b64.qmin - (-1074 - (j : Int))).toNat * d : Nat) : Int) = ((d * 2 ^ j : Nat) : Int) := by
  constructor
  · unfold Core.inUnits
    rw [show ((i : Int) - j - (-1074 - (j : Int))).toNat = i + 1074 by omega, Nat.pow_add, ← Nat.mul_assoc, Core.signed_mul]
    rfl
  · rw [Core.qmin_b64, show (-1074 - (-1074 - (j : Int))).toNat = j by omega, Nat.mul_comm]
theorem ddiv_le {a b V : UInt64} (ha : Core.DFin a) (hb : Core.DFin b) (pb : 0 < zv b) (hV : Core.val64 V ≠ .nan) (h : zv a * U ≤ zv V * zv b) : zv (FP.ddiv a b) ≤ zv V := by
  obtain ⟨s, c, d, i, j, z1, z2, hd, hr⟩ := ddiv_parts ha hb pb
  have e : zv (FP.ddiv a b) = Core.zval Core.b64 (Core.roundRatio Core.b64 s c d ((i : Int) - (j : Int))) := by unfold zv; rw [hr]
  rw [e]
  refine ratio_le (e0 := -1074 - (j : Int)) hd (Core.val64_fits V) hV (by rw [Core.qmin_b64]; omega) (by omega) ?_
  rw [(div_key (d := d)).1, (div_key (s := s) (c := c) (i := i)).2, ← z1, ← z2]; exact h
theorem ddiv_ge {a b V : UInt64} (ha : Core.DFin a) (hb : Core.DFin b) (pb : 0 < zv b) (hV : Core.val64 V ≠ .nan) (h : zv V * zv b ≤ zv a * U) : zv V ≤ zv (FP.ddiv a b) := by
  obtain ⟨s, c, d, i, j, z1, z2, hd, hr⟩ := ddiv_parts ha hb pb
  have e : zv (FP.ddiv a b) = Core.zval Core.b64 (Core.roundRatio Core.b64 s c d ((i : Int) - (j : Int))) := by unfold zv; rw [hr]
  rw [e]
  refine ratio_ge (e0 := -1074 - (j : Int)) hd (Core.val64_fits V) hV (by rw [Core.qmin_b64]; omega) (by omega) ?_
  rw [(div_key (d := d)).1, (div_key (s := s) (c := c) (i := i)).2, ← z1, ← z2]; exact h
theorem ddiv_nn {a b : UInt64} (ha : Core.DFin a) (hb : Core.DFin b) (pb : 0 < zv b) : Core.val64 (FP.ddiv a b) ≠ .nan := by
  obtain ⟨s, c, d, i, j, z1, z2, hd, hr⟩ := ddiv_parts ha hb pb
  rw [hr]; exact Core.roundRatio_ne_nan _ _ _ _ _
/-- two quotients of one value -/
theorem ddiv_congr {a b a' b' : UInt64} (ha : Core.DFin a) (hb : Core.DFin b) (pb : 0 < zv b) (ha' : Core.DFin a') (hb' : Core.DFin b') (pb' : 0 < zv b') (hs : Core.sgn (Core.val64 a) = Core.sgn (Core.val64 a')) (h : zv a * zv b' = zv a' * zv b) : FP.ddiv a b = FP.ddiv a' b' := by
  obtain ⟨s, c, i, h1, f1, z1⟩ := fin_parts ha
  obtain ⟨s', c', i', h1', f1', z1'⟩ := fin_parts ha'
  obtain ⟨t, d, j, h2, f2, z2⟩ := fin_parts hb
  obtain ⟨t', d', j', h2', f2', z2'⟩ := fin_parts hb'
  rw [z2] at pb; rw [z2'] at pb'
  obtain ⟨rfl, hd⟩ := signed_pos_parts pb
  obtain ⟨rfl, hd'⟩ := signed_pos_parts pb'
  have hd1 : 0 < d := Nat.pos_of_mul_pos_right hd
  have hd1' : 0 < d' := Nat.pos_of_mul_pos_right hd'
  have es : s = s' := by rw [h1, h1'] at hs; exact hs
  subst es
  show Core.of64 (Core.quotient Core.b64 (Core.val64 a) (Core.val64 b)) = Core.of64 (Core.quotient Core.b64 (Core.val64 a') (Core.val64 b'))
  congr 1
  rw [h1, h2, h1', h2']
  show (if d = 0 then _ else Core.roundRatio Core.b64 (s != false) c d ((i : Int) - 1074 - ((j : Int) - 1074))) = (if d' = 0 then _ else Core.roundRatio Core.b64 (s != false) c' d' ((i' : Int) - 1074 - ((j' : Int) - 1074)))
  rw [if_neg (by omega), if_neg (by omega)]
  apply Core.roundRatio_congr hd1 hd1'
  have hn : (c * 2 ^ i) * (d' * 2 ^ j') = (c' * 2 ^ i') * (d * 2 ^ j) := by
    rw [z1, z1', z2, z2'] at h
    have : ∀ n : Nat, Core.signed false n = (n : Int) := fun _ => rfl
    rw [this, this, ← Core.signed_mul, ← Core.signed_mul] at h
    have := congrArg Int.natAbs h
    rwa [Core.natAbs_signed, Core.natAbs_signed] at this
  generalize hE : (i : Int) - 1074 - ((j : Int) - 1074) = E
  generalize hE' : (i' : Int) - 1074 - ((j' : Int) - 1074) = E'
  have k1 : c * d' * 2 ^ (i + j') = c' * d * 2 ^ (i' + j) := by
    rw [Nat.pow_add, Nat.pow_add]
    calc c * d' * (2 ^ i * 2 ^ j') = (c * 2 ^ i) * (d' * 2 ^ j') := by ac_rfl
      _ = (c' * 2 ^ i') * (d * 2 ^ j) := hn
      _ = c' * d * (2 ^ i' * 2 ^ j) := by ac_rfl
  by_cases hle : i' + j ≤ i + j'
  · have e1 : (E - E').toNat = i + j' - (i' + j) := by omega
    have e2 : (E' - E).toNat = 0 := by omega
    rw [e1, e2]
    have : 2 ^ (i + j') = 2 ^ (i + j' - (i' + j)) * 2 ^ (i' + j) := by rw [← Nat.pow_add]; congr 1; omega
    rw [this, ← Nat.mul_assoc] at k1
    simpa using Nat.eq_of_mul_eq_mul_right (Nat.two_pow_pos _) k1
  · have e1 : (E - E').toNat = 0 := by omega
    have e2 : (E' - E).toNat = i' + j - (i + j') := by omega
    rw [e1, e2]
    have : 2 ^ (i' + j) = 2 ^ (i' + j - (i + j')) * 2 ^ (i + j') := by rw [← Nat.pow_add]; congr 1; omega
    rw [this, ← Nat.mul_assoc] at k1
    simpa using Nat.eq_of_mul_eq_mul_right (Nat.two_pow_pos _) k1
theorem dmul_parts {a b : UInt64} (ha : Core.DFin a) (hb : Core.DFin b) :
    ∃ (s : Bool) (n : Nat) (e : Int), Core.val64 (FP.dmul a b) = Core.round Core.b64 (.fin s n e) ∧ -2148 ≤ e ∧ Core.signed s (Core.inUnits n e (-2148)) = zv a * zv b := by
  obtain ⟨s, c, i, h1, f1, z1⟩ := fin_parts ha
  obtain ⟨t, d, j, h2, f2, z2⟩ := fin_parts hb
  obtain ⟨p1, p2, p3⟩ := Core.product_units f1 f2
  refine ⟨s != t, c * d, (i : Int) - 1074 + ((j : Int) - 1074), ?_, by omega, ?_⟩
  · show Core.val64 (Core.dmul a b) = _
    rw [Core.val64_dmul, h1, h2, p1]
  · rw [z1, z2]
    unfold Core.inUnits
    rw [show ((i : Int) - 1074 + ((j : Int) - 1074) - (-2148)).toNat = i + j by omega, Nat.pow_add,
      show c * d * (2 ^ i * 2 ^ j) = (c * 2 ^ i) * (d * 2 ^ j) by ac_rfl, Core.signed_xor]
theorem mul_key : ((2 ^ (Core.b64.qmin - (-2148 : Int)).toNat : Nat) : Int) = U := by
  rw [Core.qmin_b64]; rfl
theorem dmul_le {a b V : UInt64} (ha : Core.DFin a) (hb : Core.DFin b) (hV : Core.val64 V ≠ .nan) (h : zv a * zv b ≤ zv V * U) : zv (FP.dmul a b) ≤ zv V := by
  obtain ⟨s, n, e, h1, h2, h3⟩ := dmul_parts ha hb
  have e1 : zv (FP.dmul a b) = Core.zval Core.b64 (Core.round Core.b64 (.fin s n e)) := by unfold zv; rw [h1]
  rw [e1]
  refine Core.zval_round_le Core.good_b64 (e0 := -2148) (Core.val64_fits V) hV (by rw [Core.qmin_b64]; decide) h2 ?_
  rw [h3, mul_key]; exact h
theorem dmul_ge {a b V : UInt64} (ha : Core.DFin a) (hb : Core.DFin b) (hV : Core.val64 V ≠ .nan) (h : zv V * U ≤ zv a * zv b) : zv V ≤ zv (FP.dmul a b) := by
  obtain ⟨s, n, e, h1, h2, h3⟩ := dmul_parts ha hb
  have e1 : zv (FP.dmul a b) = Core.zval Core.b64 (Core.round Core.b64 (.fin s n e)) := by unfold zv; rw [h1]
  rw [e1]
  refine Core.zval_round_ge Core.good_b64 (e0 := -2148) (Core.val64_fits V) hV (by rw [Core.qmin_b64]; decide) h2 ?_
  rw [h3, mul_key]; exact h
theorem dmul_nn {a b : UInt64} (ha : Core.DFin a) (hb : Core.DFin b) : Core.val64 (FP.dmul a b) ≠ .nan := by
  obtain ⟨s, n, e, h1, h2, h3⟩ := dmul_parts ha hb
  rw [h1]; exact Core.roundRatio_ne_nan _ _ _ _ _
theorem dadd_le {a b V : UInt64} (ha : Core.DFin a) (hb : Core.DFin b) (hV : Core.val64 V ≠ .nan) (h : zv a + zv b ≤ zv V) : zv (FP.dadd a b) ≤ zv V := by
  have := Core.sum_le Core.good_b64 ha hb (Core.val64_fits a) (Core.val64_fits b) (Core.val64_fits V) hV h
  unfold zv; show Core.zval Core.b64 (Core.val64 (Core.dadd a b)) ≤ _
  rw [Core.val64_dadd]; exact this
theorem dadd_ge {a b V : UInt64} (ha : Core.DFin a) (hb : Core.DFin b) (hV : Core.val64 V ≠ .nan) (h : zv V ≤ zv a + zv b) : zv V ≤ zv (FP.dadd a b) := by
  have := Core.sum_ge Core.good_b64 ha hb (Core.val64_fits a) (Core.val64_fits b) (Core.val64_fits V) hV h
  unfold zv; show _ ≤ Core.zval Core.b64 (Core.val64 (Core.dadd a b))
  rw [Core.val64_dadd]; exact this
theorem dadd_nn {a b : UInt64} (ha : Core.DFin a) (hb : Core.DFin b) : Core.val64 (FP.dadd a b) ≠ .nan := by
  have := Core.dadd_out (notNaN_of ha) hb
  exact (Core.notNaN_iff _).mp this
where notNaN_of {a : UInt64} (h : Core.DFin a) : Core.dIsNaN a = false := (Core.notNaN_iff a).mpr (notNan h)
theorem zv_dneg (a : UInt64) : zv (FP.dneg a) = - zv a := by
  unfold zv; rw [FP.val64_dneg, Core.zval_negate]
theorem fin_dneg {a : UInt64} (h : Core.DFin a) : Core.DFin (FP.dneg a) := by
  obtain ⟨s, c, q, h⟩ := h
  refine ⟨!s, c, q, ?_⟩
  rw [FP.val64_dneg, h]; rfl
theorem dsub_dadd {a b : UInt64} (hb : Core.DFin b) : FP.dsub a b = FP.dadd a (FP.dneg b) := by
  have h1 : FP.dneg b = Core.dneg b := FP.dneg_core ((Core.notNaN_iff b).mpr (notNan hb))
  rw [h1]; exact Core.dsub_eq a b
theorem dsub_le {a b V : UInt64} (ha : Core.DFin a) (hb : Core.DFin b) (hV : Core.val64 V ≠ .nan) (h : zv a - zv b ≤ zv V) : zv (FP.dsub a b) ≤ zv V := by
  rw [dsub_dadd hb]; exact dadd_le ha (fin_dneg hb) hV (by rw [zv_dneg]; omega)
theorem dsub_ge {a b V : UInt64} (ha : Core.DFin a) (hb : Core.DFin b) (hV : Core.val64 V ≠ .nan) (h : zv V ≤ zv a - zv b) : zv V ≤ zv (FP.dsub a b) := by
  rw [dsub_dadd hb]; exact dadd_ge ha (fin_dneg hb) hV (by rw [zv_dneg]; omega)
theorem dsub_nn {a b : UInt64} (ha : Core.DFin a) (hb : Core.DFin b) : Core.val64 (FP.dsub a b) ≠ .nan := by
  rw [dsub_dadd hb]; exact dadd_nn ha (fin_dneg hb)
/-- finite, if it lies between two finite ones -/
theorem fin_between {a V W : UInt64} (n : Core.val64 a ≠ .nan) (hV : Core.DFin V) (hW : Core.DFin W) (h1 : zv V ≤ zv a) (h2 : zv a ≤ zv W) : Core.DFin a := by
  have hv := hV.zval_lt; have hw := hW.zval_lt
  unfold zv Core.zval at h1 h2
  cases e : Core.val64 a with
  | nan => exact absurd e n
  | fin s c q => exact ⟨s, c, q, e⟩
  | inf s =>
    exfalso
    rw [e] at h1 h2
    have t : Core.zmag Core.b64 (.inf s) = Core.b64.tails * 2 ^ (Core.b64.exps - 2) := rfl
    rw [t] at h1 h2
    generalize Core.b64.tails * 2 ^ (Core.b64.exps - 2) = top at *
    generalize Core.zmag Core.b64 (Core.val64 V) = v at *
    generalize Core.zmag Core.b64 (Core.val64 W) = w at *
    generalize Core.sgn (Core.val64 V) = sv at *
    generalize Core.sgn (Core.val64 W) = sw at *
    cases s <;> cases sv <;> cases sw <;> simp [Core.signed, Core.sgn] at h1 h2 <;> omega
theorem signed_of (n : Int) : Core.signed (decide (n < 0)) n.natAbs = n := by
  unfold Core.signed
  by_cases q : n < 0
  · simp [q]; omega
  · simp [q]; omega
/-- n * 2^E units are a double -/
theorem repE (n : Int) (E : Nat) (hn : n.natAbs < 2 ^ 53) (hE : E ≤ 2045) : ∃ V, Core.DFin V ∧ zv V = n * 2 ^ E := by
  have hq : Core.b64.qmax = 971 := by decide
  obtain ⟨c', q', h1, h2⟩ := Core.round_exact Core.good_b64 (decide (n < 0)) (c := n.natAbs) (q := (E : Int) - 1074) hn (by rw [Core.qmin_b64]; omega) (by rw [hq]; omega)
  have h3 : Core.val64 (Core.of64 (Core.round Core.b64 (.fin (decide (n < 0)) n.natAbs ((E : Int) - 1074)))) = .fin (decide (n < 0)) c' q' := by
    rw [Core.val64_of64 (Core.round_fits Core.good_b64 _), h1]
  refine ⟨_, ⟨_, _, _, h3⟩, ?_⟩
  unfold zv Core.zval
  rw [h3]
  show Core.signed (decide (n < 0)) (Core.inUnits c' q' Core.b64.qmin) = _
  rw [h2]
  unfold Core.inUnits
  rw [Core.qmin_b64, show ((E : Int) - 1074 - -1074).toNat = E by omega, Core.signed_mul, signed_of, Int.natCast_pow]
  rfl
/-- n / 2^k is a double -/
theorem rep (n : Int) (k : Nat) (hn : n.natAbs ≤ 2 ^ 53) (hk : k ≤ 1000) : ∃ V, Core.DFin V ∧ zv V * 2 ^ k = n * U := by
  by_cases h : n.natAbs < 2 ^ 53
  · obtain ⟨V, fV, zV⟩ := repE n (1074 - k) h (by omega)
    exact ⟨V, fV, by rw [zV, U_pow k (by omega), Int.mul_assoc]⟩
  · by_cases hs : n < 0
    · obtain ⟨V, fV, zV⟩ := repE (-1) (53 + (1074 - k)) (by decide) (by omega)
      exact ⟨V, fV, by rw [zV, U_pow k (by omega), show n = -1 * 2 ^ 53 by omega, Int.pow_add]; ac_rfl⟩
    · obtain ⟨V, fV, zV⟩ := repE 1 (53 + (1074 - k)) (by decide) (by omega)
      exact ⟨V, fV, by rw [zV, U_pow k (by omega), show n = 1 * 2 ^ 53 by omega, Int.pow_add]; ac_rfl⟩
/-- and so are, with the infinities, the numbers up to 2^53 * 2^E -/
theorem repI (n : Int) (E : Nat) (hn : n.natAbs ≤ 2 ^ 53) (hE : E ≤ 2045) : ∃ V, Core.val64 V ≠ .nan ∧ zv V = n * 2 ^ E := by
  by_cases h : n.natAbs < 2 ^ 53
  · obtain ⟨V, fV, zV⟩ := repE n E h hE; exact ⟨V, notNan fV, zV⟩
  · by_cases hE2 : E + 53 ≤ 2045
    · by_cases hs : n < 0
      · obtain ⟨V, fV, zV⟩ := repE (-1) (53 + E) (by decide) (by omega)
        exact ⟨V, notNan fV, by rw [zV, show n = -1 * 2 ^ 53 by omega, Int.pow_add, Int.mul_assoc]⟩
      · obtain ⟨V, fV, zV⟩ := repE 1 (53 + E) (by decide) (by omega)
        exact ⟨V, notNan fV, by rw [zV, show n = 1 * 2 ^ 53 by omega, Int.pow_add, Int.mul_assoc]⟩
    · by_cases hE3 : E = 2045
      · subst hE3
        have v1 : Core.val64 9218868437227405312 = .inf false := by decide +kernel
        have v2 : Core.val64 18442240474082181120 = .inf true := by decide +kernel
        have z1 : Core.zmag Core.b64 (.inf false) = 2 ^ 53 * 2 ^ 2045 := by decide +kernel
        by_cases hs : n < 0
        · refine ⟨18442240474082181120, by rw [v2]; exact Core.Datum.noConfusion, ?_⟩
          unfold zv Core.zval; rw [v2]
          show Core.signed true (Core.zmag Core.b64 (.inf false)) = _
          rw [z1, Core.signed_mul, show n = -2 ^ 53 by omega, Int.natCast_pow]; rfl
        · refine ⟨9218868437227405312, by rw [v1]; exact Core.Datum.noConfusion, ?_⟩
          unfold zv Core.zval; rw [v1]
          show Core.signed false (Core.zmag Core.b64 (.inf false)) = _
          rw [z1, Core.signed_mul, show n = 2 ^ 53 by omega, Int.natCast_pow]; rfl
      · by_cases hs : n < 0
        · obtain ⟨V, fV, zV⟩ := repE (-2 ^ 52) (1 + E) (by decide) (by omega)
          exact ⟨V, notNan fV, by rw [zV, show n = -2 ^ 52 * 2 ^ 1 by omega, Int.pow_add, Int.mul_assoc]⟩
        · obtain ⟨V, fV, zV⟩ := repE (2 ^ 52) (1 + E) (by decide) (by omega)
          exact ⟨V, notNan fV, by rw [zV, show n = 2 ^ 52 * 2 ^ 1 by omega, Int.pow_add, Int.mul_assoc]⟩
theorem dmul_eq {a b V : UInt64} (ha : Core.DFin a) (hb : Core.DFin b) (hV : Core.val64 V ≠ .nan) (h : zv a * zv b = zv V * U) : zv (FP.dmul a b) = zv V := by
  have := dmul_le ha hb hV (Int.le_of_eq h); have := dmul_ge ha hb hV (Int.le_of_eq h.symm); omega
/-! ## values n / 2^k -/
/-- finite, and worth n / 2^k -/
def DS (n : Int) (k : Nat) (a : UInt64) : Prop := Core.DFin a ∧ zv a * 2 ^ k = n * U
def Le (a : UInt64) (n : Int) (k : Nat) : Prop := zv a * 2 ^ k ≤ n * U
def Ge (a : UInt64) (n : Int) (k : Nat) : Prop := n * U ≤ zv a * 2 ^ k
theorem DS.le {n : Int} {k : Nat} {a : UInt64} (h : DS n k a) : Le a n k := Int.le_of_eq h.2
theorem DS.ge {n : Int} {k : Nat} {a : UInt64} (h : DS n k a) : Ge a n k := Int.le_of_eq h.2.symm
theorem DS.int {i : Int} {a : UInt64} (h : Core.DInt i a) : DS i 0 a := by
  refine ⟨?_, ?_⟩
  · unfold Core.DInt at h
    cases e : Core.val64 a with
    | nan => rw [e] at h; exact h.elim
    | inf => rw [e] at h; exact h.elim
    | fin s c q => exact ⟨s, c, q, e⟩
  · show zv a * 2 ^ 0 = i * U
    rw [Int.pow_zero, Int.mul_one]; exact Core.DInt_zval h
theorem DS.i2d (x : Int32) : DS x.toInt 0 (FP.i2d x) := DS.int (Core.i2d_int x)
theorem DS.l2d {x : Int64} (h : x.toInt.natAbs ≤ 2 ^ 53) : DS x.toInt 0 (FP.l2d x) := DS.int (Core.l2d_int h)
theorem mul_cancel {a b c : Int} (hc : 0 < c) (h : a * c = b * c) : a = b := Int.eq_of_mul_eq_mul_right (by omega) h
theorem le_cancel {a b c : Int} (hc : 0 < c) (h : a * c ≤ b * c) : a ≤ b := Int.le_of_mul_le_mul_right h hc
theorem DS.up {n : Int} {k : Nat} {a : UInt64} (h : DS n k a) (j : Nat) : DS (n * 2 ^ j) (k + j) a := ⟨h.1, by
  rw [Int.pow_add, ← Int.mul_assoc, h.2]; grind⟩
theorem Le.up {n : Int} {k : Nat} {a : UInt64} (h : Le a n k) (j : Nat) : Le a (n * 2 ^ j) (k + j) := by
  unfold Le at *
  have := Int.mul_le_mul_of_nonneg_right h (Int.le_of_lt (pow_pos j))
  rw [Int.pow_add]; grind
theorem Ge.up {n : Int} {k : Nat} {a : UInt64} (h : Ge a n k) (j : Nat) : Ge a (n * 2 ^ j) (k + j) := by
  unfold Ge at *
  have := Int.mul_le_mul_of_nonneg_right h (Int.le_of_lt (pow_pos j))
  rw [Int.pow_add]; grind
/-- what lies between two bounds n / 2^k is finite -/
theorem fin_of {a : UInt64} {n m : Int} {k j : Nat} (nn : Core.val64 a ≠ .nan) (h1 : Ge a n k) (h2 : Le a m j) (bn : n.natAbs ≤ 2 ^ 53) (bm : m.natAbs ≤ 2 ^ 53) (hk : k ≤ 1000) (hj : j ≤ 1000) : Core.DFin a := by
  obtain ⟨V, fV, zV⟩ := rep n k bn hk
  obtain ⟨W, fW, zW⟩ := rep m j bm hj
  refine fin_between nn fV fW ?_ ?_
  · exact le_cancel (pow_pos k) (by unfold Ge at h1; omega)
  · exact le_cancel (pow_pos j) (by unfold Le at h2; omega)
theorem DS.of {a : UInt64} {n : Int} {k : Nat} (nn : Core.val64 a ≠ .nan) (h1 : Ge a n k) (h2 : Le a n k) (bn : n.natAbs ≤ 2 ^ 53) (hk : k ≤ 1000) : DS n k a :=
  ⟨fin_of nn h1 h2 bn bn hk hk, by unfold Ge at h1; unfold Le at h2; omega⟩
/-! the operations against bounds -/
theorem add_Le {a b : UInt64} {n m q : Int} {k : Nat} (fa : Core.DFin a) (fb : Core.DFin b) (ha : Le a n k) (hb : Le b m k) (h : n + m ≤ q) (bq : q.natAbs ≤ 2 ^ 53) (hk : k ≤ 1000) : Le (FP.dadd a b) q k := by
  obtain ⟨V, fV, zV⟩ := rep q k bq hk
  have h1 : zv (FP.dadd a b) ≤ zv V := dadd_le fa fb (notNan fV) (le_cancel (pow_pos k) (by
    unfold Le at ha hb
    rw [Int.add_mul, zV]
    have := Int.mul_le_mul_of_nonneg_right h (Int.le_of_lt U_pos)
    rw [Int.add_mul] at this; omega))
  unfold Le; rw [← zV]; exact Int.mul_le_mul_of_nonneg_right h1 (Int.le_of_lt (pow_pos k))
theorem add_Ge {a b : UInt64} {n m q : Int} {k : Nat} (fa : Core.DFin a) (fb : Core.DFin b) (ha : Ge a n k) (hb : Ge b m k) (h : q ≤ n + m) (bq : q.natAbs ≤ 2 ^ 53) (hk : k ≤ 1000) : Ge (FP.dadd a b) q k := by
  obtain ⟨V, fV, zV⟩ := rep q k bq hk
  have h1 : zv V ≤ zv (FP.dadd a b) := dadd_ge fa fb (notNan fV) (le_cancel (pow_pos k) (by
    unfold Ge at ha hb
    rw [Int.add_mul, zV]
    have := Int.mul_le_mul_of_nonneg_right h (Int.le_of_lt U_pos)
    rw [Int.add_mul] at this; omega))
  unfold Ge; rw [← zV]; exact Int.mul_le_mul_of_nonneg_right h1 (Int.le_of_lt (pow_pos k))
theorem DS.add {a b : UInt64} {n m : Int} {k : Nat} (ha : DS n k a) (hb : DS m k b) (bq : (n + m).natAbs ≤ 2 ^ 53) (hk : k ≤ 1000) : DS (n + m) k (FP.dadd a b) :=
  DS.of (dadd_nn ha.1 hb.1) (add_Ge ha.1 hb.1 ha.ge hb.ge (Int.le_refl _) bq hk) (add_Le ha.1 hb.1 ha.le hb.le (Int.le_refl _) bq hk) bq hk
theorem DS.neg {a : UInt64} {n : Int} {k : Nat} (ha : DS n k a) : DS (-n) k (FP.dneg a) := ⟨fin_dneg ha.1, by rw [zv_dneg, Int.neg_mul, ha.2, Int.neg_mul]⟩
theorem DS.sub {a b : UInt64} {n m : Int} {k : Nat} (ha : DS n k a) (hb : DS m k b) (bq : (n - m).natAbs ≤ 2 ^ 53) (hk : k ≤ 1000) : DS (n - m) k (FP.dsub a b) := by
  rw [dsub_dadd hb.1, show n - m = n + -m by omega]; exact ha.add hb.neg (by rw [← Int.sub_eq_add_neg]; exact bq) hk
theorem DS.mul {a b : UInt64} {n m : Int} {k j : Nat} (ha : DS n k a) (hb : DS m j b) (bq : (n * m).natAbs ≤ 2 ^ 53) (hk : k + j ≤ 1000) : DS (n * m) (k + j) (FP.dmul a b) := by
  obtain ⟨V, fV, zV⟩ := rep (n * m) (k + j) bq hk
  have e : zv a * zv b = zv V * U := by
    have h1 := ha.2; have h2 := hb.2
    refine mul_cancel (pow_pos (k + j)) ?_
    calc zv a * zv b * 2 ^ (k + j) = (zv a * 2 ^ k) * (zv b * 2 ^ j) := by rw [Int.pow_add]; grind
      _ = (n * U) * (m * U) := by rw [h1, h2]
      _ = (n * m * U) * U := by grind
      _ = zv V * U * 2 ^ (k + j) := by rw [← zV]; grind
  have g1 := dmul_le ha.1 hb.1 (notNan fV) (Int.le_of_eq e)
  have g2 := dmul_ge ha.1 hb.1 (notNan fV) (Int.le_of_eq e.symm)
  have g : zv (FP.dmul a b) = zv V := by omega
  exact ⟨fin_between (dmul_nn ha.1 hb.1) fV fV (by omega) (by omega), by rw [g, zV]⟩
theorem DS.pos {b : UInt64} {m : Int} {j : Nat} (hb : DS m j b) (hm : 0 < m) : 0 < zv b := by
  have h1 : 0 < zv b * 2 ^ j := by rw [hb.2]; exact Int.mul_pos hm U_pos
  exact Int.pos_of_mul_pos_left h1 (pow_pos j)
/-- a quotient against a bound q / 2^l -/
theorem div_Le {a b : UInt64} {n m q : Int} {k j l : Nat} (ha : DS n k a) (hb : DS m j b) (hm : 0 < m) (h : n * 2 ^ j * 2 ^ l ≤ q * m * 2 ^ k) (bq : q.natAbs ≤ 2 ^ 53) (hl : l ≤ 1000) : Le (FP.ddiv a b) q l := by
  obtain ⟨V, fV, zV⟩ := rep q l bq hl
  have h1 : zv (FP.ddiv a b) ≤ zv V := ddiv_le ha.1 hb.1 (hb.pos hm) (notNan fV) (by
    refine le_cancel (pow_pos (k + j + l)) ?_
    have e1 : zv a * U * 2 ^ (k + j + l) = (n * 2 ^ j * 2 ^ l) * (U * U) := by
      calc zv a * U * 2 ^ (k + j + l) = (zv a * 2 ^ k) * U * 2 ^ j * 2 ^ l := by rw [Int.pow_add, Int.pow_add]; grind
        _ = _ := by rw [ha.2]; grind
    have e2 : zv V * zv b * 2 ^ (k + j + l) = (q * m * 2 ^ k) * (U * U) := by
      calc zv V * zv b * 2 ^ (k + j + l) = (zv V * 2 ^ l) * (zv b * 2 ^ j) * 2 ^ k := by rw [Int.pow_add, Int.pow_add]; grind
        _ = _ := by rw [zV, hb.2]; grind
    rw [e1, e2]
    exact Int.mul_le_mul_of_nonneg_right h (Int.le_of_lt (Int.mul_pos U_pos U_pos)))
  unfold Le; rw [← zV]; exact Int.mul_le_mul_of_nonneg_right h1 (Int.le_of_lt (pow_pos l))
theorem div_Ge {a b : UInt64} {n m q : Int} {k j l : Nat} (ha : DS n k a) (hb : DS m j b) (hm : 0 < m) (h : q * m * 2 ^ k ≤ n * 2 ^ j * 2 ^ l) (bq : q.natAbs ≤ 2 ^ 53) (hl : l ≤ 1000) : Ge (FP.ddiv a b) q l := by
  obtain ⟨V, fV, zV⟩ := rep q l bq hl
  have h1 : zv V ≤ zv (FP.ddiv a b) := ddiv_ge ha.1 hb.1 (hb.pos hm) (notNan fV) (by
    refine le_cancel (pow_pos (k + j + l)) ?_
    have e1 : zv a * U * 2 ^ (k + j + l) = (n * 2 ^ j * 2 ^ l) * (U * U) := by
      calc zv a * U * 2 ^ (k + j + l) = (zv a * 2 ^ k) * U * 2 ^ j * 2 ^ l := by rw [Int.pow_add, Int.pow_add]; grind
        _ = _ := by rw [ha.2]; grind
    have e2 : zv V * zv b * 2 ^ (k + j + l) = (q * m * 2 ^ k) * (U * U) := by
      calc zv V * zv b * 2 ^ (k + j + l) = (zv V * 2 ^ l) * (zv b * 2 ^ j) * 2 ^ k := by rw [Int.pow_add, Int.pow_add]; grind
        _ = _ := by rw [zV, hb.2]; grind
    rw [e1, e2]
    exact Int.mul_le_mul_of_nonneg_right h (Int.le_of_lt (Int.mul_pos U_pos U_pos)))
  unfold Ge; rw [← zV]; exact Int.mul_le_mul_of_nonneg_right h1 (Int.le_of_lt (pow_pos l))
theorem DS.div {a b : UInt64} {n m q : Int} {k j l : Nat} (ha : DS n k a) (hb : DS m j b) (hm : 0 < m) (h : n * 2 ^ j * 2 ^ l = q * m * 2 ^ k) (bq : q.natAbs ≤ 2 ^ 53) (hl : l ≤ 1000) : DS q l (FP.ddiv a b) :=
  DS.of (ddiv_nn ha.1 hb.1 (hb.pos hm)) (div_Ge ha hb hm (Int.le_of_eq h.symm) bq hl) (div_Le ha hb hm (Int.le_of_eq h) bq hl) bq hl
/-! comparisons -/
theorem cmp_zv {a b : UInt64} (ha : Core.val64 a ≠ .nan) (hb : Core.val64 b ≠ .nan) : FP.dcmp a b = some (compare (zv a) (zv b)) := Core.dcmp_zval ha hb
theorem cmpV_of {a b : UInt64} (ha : Core.val64 a ≠ .nan) (hb : Core.val64 b ≠ .nan) (o : ClassFile.CmpOp) : Op.cmpValue (FP.dcmp a b) o = if zv a < zv b then -1 else if zv a = zv b then 0 else 1 := by
  rw [cmp_zv ha hb, Core.compare_ite]
  split
  · rfl
  · split <;> rfl
theorem cmp_gt {a b : UInt64} (ha : Core.val64 a ≠ .nan) (hb : Core.val64 b ≠ .nan) (h : zv b < zv a) (o : ClassFile.CmpOp) : Op.cmpValue (FP.dcmp a b) o = 1 := by
  rw [cmpV_of ha hb, if_neg (by omega), if_neg (by omega)]
theorem cmp_lt {a b : UInt64} (ha : Core.val64 a ≠ .nan) (hb : Core.val64 b ≠ .nan) (h : zv a < zv b) (o : ClassFile.CmpOp) : Op.cmpValue (FP.dcmp a b) o = -1 := by
  rw [cmpV_of ha hb, if_pos h]
theorem cmp_eq {a b : UInt64} (ha : Core.val64 a ≠ .nan) (hb : Core.val64 b ≠ .nan) (h : zv a = zv b) (o : ClassFile.CmpOp) : Op.cmpValue (FP.dcmp a b) o = 0 := by
  rw [cmpV_of ha hb, if_neg (by omega), if_pos h]
theorem zv_zero : zv FP.dconst0 = 0 := Core.zval64_zero
theorem cmp_neg {a b : UInt64} {k : Int32} {o : ClassFile.CmpOp} (h : Op.cmpValue (FP.dcmp a b) o = k) (ha : Core.val64 a ≠ .nan) (hb : Core.val64 b ≠ .nan) : k < 0 ↔ zv a < zv b := by
  rw [← h, cmpV_of ha hb]; split
  · exact ⟨fun _ => by assumption, fun _ => by decide⟩
  · split
    · exact ⟨fun h => absurd h (by decide), fun h => absurd h (by assumption)⟩
    · exact ⟨fun h => absurd h (by decide), fun h => absurd h (by assumption)⟩
theorem cmp_pos {a b : UInt64} {k : Int32} {o : ClassFile.CmpOp} (h : Op.cmpValue (FP.dcmp a b) o = k) (ha : Core.val64 a ≠ .nan) (hb : Core.val64 b ≠ .nan) : 0 < k ↔ zv b < zv a := by
  rw [← h, cmpV_of ha hb]; split
  · exact ⟨fun h => absurd h (by decide), fun h => by omega⟩
  · split
    · exact ⟨fun h => absurd h (by decide), fun h => by omega⟩
    · exact ⟨fun h => by omega, fun _ => by decide⟩
theorem cmp_nul {a b : UInt64} {k : Int32} {o : ClassFile.CmpOp} (h : Op.cmpValue (FP.dcmp a b) o = k) (ha : Core.val64 a ≠ .nan) (hb : Core.val64 b ≠ .nan) : k = 0 ↔ zv a = zv b := by
  rw [← h, cmpV_of ha hb]; split
  · exact ⟨fun h => absurd h (by decide), fun h => by omega⟩
  · split
    · exact ⟨fun _ => by assumption, fun _ => rfl⟩
    · exact ⟨fun h => absurd h (by decide), fun h => by omega⟩
theorem lt_of {a b : UInt64} {n m : Int} {k : Nat} (h1 : Le a n k) (h2 : Ge b m k) (h : n < m) : zv a < zv b := by
  unfold Le at h1; unfold Ge at h2
  have : n * U < m * U := Int.mul_lt_mul_of_pos_right h U_pos
  exact Int.lt_of_mul_lt_mul_right (a := 2 ^ k) (by omega) (Int.le_of_lt (pow_pos k))
theorem le_of {a b : UInt64} {n m : Int} {k : Nat} (h1 : Le a n k) (h2 : Ge b m k) (h : n ≤ m) : zv a ≤ zv b := by
  unfold Le at h1; unfold Ge at h2
  have : n * U ≤ m * U := Int.mul_le_mul_of_nonneg_right h (Int.le_of_lt U_pos)
  exact Int.le_of_mul_le_mul_right (a := 2 ^ k) (by omega) (pow_pos k)
theorem DS.cmp {a b : UInt64} {n m : Int} {k : Nat} (ha : DS n k a) (hb : DS m k b) (o : ClassFile.CmpOp) : Op.cmpValue (FP.dcmp a b) o = if n < m then -1 else if n = m then 0 else 1 := by
  rw [cmpV_of (notNan ha.1) (notNan hb.1)]
  by_cases h1 : n < m
  · rw [if_pos h1, if_pos (lt_of ha.le hb.ge h1)]
  · by_cases h2 : n = m
    · have e : zv a = zv b := by
        subst h2; have := le_of ha.le hb.ge (Int.le_refl _); have := le_of hb.le ha.ge (Int.le_refl _); omega
      rw [if_neg h1, if_pos h2, if_neg (by omega), if_pos e]
    · have := lt_of hb.le ha.ge (show m < n by omega)
      rw [if_neg h1, if_neg h2, if_neg (by omega), if_neg (by omega)]
theorem DS.zero : DS 0 0 FP.dconst0 := ⟨⟨false, 0, _, Core.val64_dconst0⟩, by
  have : zv FP.dconst0 = 0 := Core.zval64_zero
  rw [this]; simp⟩
theorem DS.one : DS 1 0 FP.dconst1 := DS.int Core.dint_one
theorem zv_one : zv FP.dconst1 = U := by have := DS.one.2; rwa [Int.pow_zero, Int.mul_one, Int.one_mul] at this
theorem DS.noNaN {n : Int} {k : Nat} {a : UInt64} (h : DS n k a) : Jvm.Free.Fl.NoNaN64 a := (Jvm.Free.Fl.fin64_core.mpr h.1).noNaN
theorem noNaN_of {a : UInt64} (h : Core.val64 a ≠ .nan) : Jvm.Free.Fl.NoNaN64 a := Jvm.Free.Fl.noNaN64_no.mpr ((Core.notNaN_iff a).mpr h)
end Jvm.OwnFP
namespace Jvm.OwnFP
open Jvm.FP
theorem sgn_pos {a : UInt64} (h : 0 < zv a) : Core.sgn (Core.val64 a) = false := by
  unfold zv Core.zval at h
  cases e : Core.sgn (Core.val64 a) with
  | false => rfl
  | true => rw [e] at h; simp only [Core.signed, if_true] at h; omega
/-- one quotient by two roads -/
theorem DS.div_same {a a' b b' : UInt64} {n d : Int} {k j : Nat} (ha : DS n k a) (ha' : DS n k a') (hb : DS d j b) (hb' : DS d j b') (hn : 0 < n) (hd : 0 < d) : FP.ddiv a b = FP.ddiv a' b' := by
  have e1 : zv a = zv a' := mul_cancel (pow_pos k) (by rw [ha.2, ha'.2])
  have e2 : zv b = zv b' := mul_cancel (pow_pos j) (by rw [hb.2, hb'.2])
  refine ddiv_congr ha.1 hb.1 (hb.pos hd) ha'.1 hb'.1 (hb'.pos hd) ?_ (by rw [e1, e2])
  rw [sgn_pos (ha.pos hn), sgn_pos (ha'.pos hn)]
end Jvm.OwnFP
namespace Jvm.OwnFP
open Jvm.FP
theorem Le.neg {a : UInt64} {n : Int} {k : Nat} (h : Le a n k) : Ge (FP.dneg a) (-n) k := by unfold Le at h; unfold Ge; rw [zv_dneg, Int.neg_mul, Int.neg_mul]; omega
theorem Ge.neg {a : UInt64} {n : Int} {k : Nat} (h : Ge a n k) : Le (FP.dneg a) (-n) k := by unfold Ge at h; unfold Le; rw [zv_dneg, Int.neg_mul, Int.neg_mul]; omega
theorem sub_Le {a b : UInt64} {n m q : Int} {k : Nat} (fa : Core.DFin a) (fb : Core.DFin b) (ha : Le a n k) (hb : Ge b m k) (h : n - m ≤ q) (bq : q.natAbs ≤ 2 ^ 53) (hk : k ≤ 1000) : Le (FP.dsub a b) q k := by
  rw [dsub_dadd fb]; exact add_Le fa (fin_dneg fb) ha hb.neg (by omega) bq hk
theorem sub_Ge {a b : UInt64} {n m q : Int} {k : Nat} (fa : Core.DFin a) (fb : Core.DFin b) (ha : Ge a n k) (hb : Le b m k) (h : q ≤ n - m) (bq : q.natAbs ≤ 2 ^ 53) (hk : k ≤ 1000) : Ge (FP.dsub a b) q k := by
  rw [dsub_dadd fb]; exact add_Ge fa (fin_dneg fb) ha hb.neg (by omega) bq hk
/-- one quotient at two scales -/
theorem DS.div_scale {a a' b b' : UInt64} {n d : Int} {k k' : Nat} (ha : DS n k a) (ha' : DS n k' a') (hb : DS d k b) (hb' : DS d k' b') (hn : 0 < n) (hd : 0 < d) : FP.ddiv a b = FP.ddiv a' b' := by
  refine ddiv_congr ha.1 hb.1 (hb.pos hd) ha'.1 hb'.1 (hb'.pos hd) ?_ ?_
  · rw [sgn_pos (ha.pos hn), sgn_pos (ha'.pos hn)]
  · refine mul_cancel (pow_pos (k + k')) ?_
    calc zv a * zv b' * 2 ^ (k + k') = (zv a * 2 ^ k) * (zv b' * 2 ^ k') := by rw [Int.pow_add]; ac_rfl
      _ = (zv a' * 2 ^ k') * (zv b * 2 ^ k) := by rw [ha.2, hb'.2, ha'.2, hb.2]
      _ = zv a' * zv b * 2 ^ (k + k') := by rw [Int.pow_add]; ac_rfl
end Jvm.OwnFP
namespace Jvm.Pilot.@@N@@
open Jvm Jvm.ClassFile Sem Op Lib Jvm.Free Jvm.Stand Jvm.LawKit Jvm.RoadKit Bundle Jvm.Pilot.@@N@@.Jvm.D
open Jvm.OwnFP Jvm.FP
theorem pn_com_example_streamgrove_streamgrove_learners_RunningMomentsVariancePinLaw : plainName "com/example/streamgrove/streamgrove/learners/RunningMomentsVariancePinLaw" = true := by first | (simp [plainName, overriddenIn]; done) | decide +kernel
theorem pn_com_example_streamgrove_streamgrove_learners_RunningMoments : plainName "com/example/streamgrove/streamgrove/learners/RunningMoments" = true := by first | (simp [plainName, overriddenIn]; done) | decide +kernel
theorem pd___V : parseMethodDescriptor "()V" = some ⟨[], none⟩ := by decide +kernel
theorem pd__D_V : parseMethodDescriptor "(D)V" = some ⟨[.double], none⟩ := by decide +kernel
theorem pd___D : parseMethodDescriptor "()D" = some ⟨[], some .double⟩ := by decide +kernel
theorem pd__DD_D : parseMethodDescriptor "(DD)D" = some ⟨[.double, .double], some .double⟩ := by decide +kernel
theorem d1_0 : decode prog_51_method_1_code 0 = .ok (.aload_n 0, 1) := by decide +kernel
theorem d1_1 : decode prog_51_method_1_code 1 = .ok (.invokespecial 1, 3) := by decide +kernel
theorem d1_4 : decode prog_51_method_1_code 4 = .ok (.aload_n 0, 1) := by decide +kernel
theorem d1_5 : decode prog_51_method_1_code 5 = .ok (.ldc2_w 9, 3) := by decide +kernel
theorem d1_8 : decode prog_51_method_1_code 8 = .ok (.putfield 11, 3) := by decide +kernel
theorem d1_11 : decode prog_51_method_1_code 11 = .ok (.aload_n 0, 1) := by decide +kernel
theorem d1_12 : decode prog_51_method_1_code 12 = .ok (.ldc2_w 17, 3) := by decide +kernel
theorem d1_15 : decode prog_51_method_1_code 15 = .ok (.putfield 19, 3) := by decide +kernel
theorem d1_18 : decode prog_51_method_1_code 18 = .ok (.return_, 1) := by decide +kernel
theorem ef_1 (m : MethodId) (a1 : Addr) : entryFrame m #[(.ref a1)] 1 = (mkF m 0 #[.val (.ref a1)] []) := by first | (simp [entryFrame, mkF, argsToLocals, Value.category]; done) | rfl
def Q_1 (Z : State) (a1 : Addr) (h0 : Heap) (n0 : Nat) (v : Option Value) (h : Heap) (L : List Loc) : Prop := v = none ∧ Fr n0 L ∧ Keep h0 h [a1] ∧ Exa Z h a1 "com/example/streamgrove/streamgrove/learners/RunningMoments" ∧ Fld Z h a1 "com/example/streamgrove/streamgrove/learners/RunningMoments" "count" "J" (.long (0 : Int64)) ∧ Fld Z h a1 "com/example/streamgrove/streamgrove/learners/RunningMoments" "mean" "D" (.double (0 : UInt64)) ∧ Fld Z h a1 "com/example/streamgrove/streamgrove/learners/RunningMoments" "squaredDeviations" "D" (.double (0 : UInt64)) ∧ Fld Z h a1 "com/example/streamgrove/streamgrove/learners/RunningMoments" "smallest" "D" (.double (9218868437227405312 : UInt64)) ∧ Fld Z h a1 "com/example/streamgrove/streamgrove/learners/RunningMoments" "largest" "D" (.double (18442240474082181120 : UInt64))
set_option maxRecDepth 65536 in
set_option maxHeartbeats 2000000 in
theorem rm_1 (l : Launch) (Z : State) (a0 : Array Value) (hw : ∀ d ∈ tables_1, d.before a0 Z = true) (ws : List Jvm.Cond) (a1 : Addr) (h0 : Heap) (n0 : Nat) (Z0 : n0 ≤ h0.size) (E_a1 : Exa Z h0 a1 "com/example/streamgrove/streamgrove/learners/RunningMoments") (F_0 : Fld Z h0 a1 "com/example/streamgrove/streamgrove/learners/RunningMoments" "count" "J" (.long (0 : Int64))) (F_1 : Fld Z h0 a1 "com/example/streamgrove/streamgrove/learners/RunningMoments" "mean" "D" (.double (0 : UInt64))) (F_2 : Fld Z h0 a1 "com/example/streamgrove/streamgrove/learners/RunningMoments" "squaredDeviations" "D" (.double (0 : UInt64))) (F_3 : Fld Z h0 a1 "com/example/streamgrove/streamgrove/learners/RunningMoments" "smallest" "D" (.double (0 : UInt64))) (F_4 : Fld Z h0 a1 "com/example/streamgrove/streamgrove/learners/RunningMoments" "largest" "D" (.double (0 : UInt64))) (g_a1 : n0 ≤ a1) :
    MetFree l (⟨"com/example/streamgrove/streamgrove/learners/RunningMoments", "<init>", "()V"⟩ : MethodName) (head1 (Jvm.Cond.code (⟨"com/example/streamgrove/streamgrove/learners/RunningMoments", "<init>", "()V"⟩ : MethodName) prog_51_method_1_code 1 none :: ws) ({ frames := 1, cells := 0, slots := 0, locals := 12 } : Room)) (fun aa UU => aa = #[(.ref a1)] ∧ Z.Warmed39 UU.vm ∧ UU.heap = h0) (fun _ _ _ _ _ => True) (fun _ UU oo UU' => ∃ v L, oo = .returned v ∧ Q_1 Z a1 h0 n0 v UU'.heap L ∧ FrameEnd UU oo UU' L ({ frames := 1, cells := 0, slots := 0, locals := 12 } : Room).cells ({ frames := 1, cells := 0, slots := 0, locals := 12 } : Room).slots) := by
  refine MetFree.of_bodySF (plainFor_of_name pn_com_example_streamgrove_streamgrove_learners_RunningMoments) hisR ?_
  intro p e s m args below meth c s₁ Bd hml0 hP hK
  obtain ⟨rfl, hZ, hh⟩ := hP
  have hx := Bd.exec
  have hby := Bd.bytes
  have hml : c.maxLocals = 1 := hml0
  have hown : s.vm.findClass "com/example/streamgrove/streamgrove/learners/RunningMoments" = some m.cls := findClass_of_methodNamed Bd.named
  have hnaM := (name_of_methodNamed Bd.named Bd.method).1
  have X0 : Stand p l e ({ frames := 1, cells := 0, slots := 0, locals := 12 } : Room) s m #[(.ref a1)] below meth c s₁ [] 0 0 := Stand.of_body Bd
  have e0 : s₁.heap = h0 := by rw [← hh, Bd.state]; rfl
  have N0 := Fr.nil n0
  have pre0 : ∀ t, Steps p.tables e below (s₁.setTop (entryFrame m #[(.ref a1)] 1)) t → Steps p.tables e below (s₁.setTop (entryFrame m #[(.ref a1)] 1)) t := fun t k => k
  have c0 : ∀ t, Steps p.tables e below (s₁.setTop (mkF m 0 #[.val (.ref a1)] [])) t → Steps p.tables e below (s₁.setTop (entryFrame m #[(.ref a1)] 1)) t := fun t k => castTop (ef_1 m a1) k
  have K0 := Keep.refl h0 [a1]
  have c1 : ∀ t, Steps p.tables e below (s₁.setTop (mkF m 1 #[.val (.ref a1)] [(.ref a1)])) t → Steps p.tables e below (s₁.setTop (entryFrame m #[(.ref a1)] 1)) t := fun t k => c0 t (by
    show Steps p.tables e below (s₁.setTop (mkF m 0 #[.val (.ref a1)] [])) _
    refine XS.aloadN X0.here hx rfl (hb hby d1_0) rfl rfl ?_
    show Steps p.tables e below (s₁.setTop (mkF m 1 #[.val (.ref a1)] [(.ref a1)])) _
    exact k)
  obtain ⟨T2, X2, e2, st2⟩ := initO X0 hx hZ hown (hw _ (List.mem_of_getElem? (i := 6) rfl)) (hw _ (List.mem_of_getElem? (i := 7) rfl)) (hw _ (List.mem_of_getElem? (i := 8) rfl)) e0 (g := (mkF m 1 #[.val (.ref a1)] [(.ref a1)])) rfl (by rw [hml]; rfl) rfl (hb hby d1_1) (by decide) (W := 0) (by show 2 * 0 + _ ≤ _; exact Nat.le_of_eq rfl) (by decide)
  have c3 : ∀ t, Steps p.tables e below (T2.setTop (mkF m 4 #[.val (.ref a1)] [])) t → Steps p.tables e below (s₁.setTop (entryFrame m #[(.ref a1)] 1)) t := fun t k => c1 t (st2 _ k)
  have c4 : ∀ t, Steps p.tables e below (T2.setTop (mkF m 8 #[.val (.ref a1)] [(.double (9218868437227405312 : UInt64)), (.ref a1)])) t → Steps p.tables e below (s₁.setTop (entryFrame m #[(.ref a1)] 1)) t := fun t k => c3 t (by
    show Steps p.tables e below (T2.setTop (mkF m 4 #[.val (.ref a1)] [])) _
    refine XS.aloadN X2.here hx rfl (hb hby d1_4) rfl rfl ?_
    show Steps p.tables e below (T2.setTop (mkF m 5 #[.val (.ref a1)] [(.ref a1)])) _
    refine Jvm.Stand.ldc2DoubleC X2 hx hown (mvT hZ (hw _ (List.mem_of_getElem? (i := 9) rfl))) (g := (mkF m 5 #[.val (.ref a1)] [(.ref a1)])) rfl (hb hby d1_5) _ ?_
    show Steps p.tables e below (T2.setTop (mkF m 8 #[.val (.ref a1)] [(.double (9218868437227405312 : UInt64)), (.ref a1)])) _
    exact k)
  obtain ⟨T5, h5, X5, e5, W5, st5⟩ := putF X2 hx hZ hown (host := "") (Or.inl (hw _ (List.mem_of_getElem? (i := 10) rfl))) Via.refl e2 F_3 E_a1 (Or.inl (hw _ (List.mem_of_getElem? (i := 11) rfl))) (hw _ (List.mem_of_getElem? (i := 1) rfl)) (ty := .double) (by decide) rfl rfl (g := (mkF m 8 #[.val (.ref a1)] [(.double (9218868437227405312 : UInt64)), (.ref a1)])) rfl rfl (hb hby d1_8)
  have F6 : Fld Z h5 a1 "com/example/streamgrove/streamgrove/learners/RunningMoments" "smallest" "D" (.double (9218868437227405312 : UInt64)) := F_3.same W5
  have F7 : Exa Z h5 a1 "com/example/streamgrove/streamgrove/learners/RunningMoments" := (E_a1.wr W5)
  have F8 : Fld Z h5 a1 "com/example/streamgrove/streamgrove/learners/RunningMoments" "count" "J" (.long (0 : Int64)) := (F_0.other W5 (Or.inr (slot_ne (Or.inl (hw _ (List.mem_of_getElem? (i := 21) rfl))) (Or.inl (hw _ (List.mem_of_getElem? (i := 11) rfl))) (by decide) (t := .long) (t' := .double) (by decide) (by decide))))
  have F9 : Fld Z h5 a1 "com/example/streamgrove/streamgrove/learners/RunningMoments" "mean" "D" (.double (0 : UInt64)) := (F_1.other W5 (Or.inr (slot_ne (Or.inl (hw _ (List.mem_of_getElem? (i := 28) rfl))) (Or.inl (hw _ (List.mem_of_getElem? (i := 11) rfl))) (by decide) (t := .double) (t' := .double) (by decide) (by decide))))
  have F10 : Fld Z h5 a1 "com/example/streamgrove/streamgrove/learners/RunningMoments" "squaredDeviations" "D" (.double (0 : UInt64)) := (F_2.other W5 (Or.inr (slot_ne (Or.inl (hw _ (List.mem_of_getElem? (i := 30) rfl))) (Or.inl (hw _ (List.mem_of_getElem? (i := 11) rfl))) (by decide) (t := .double) (t' := .double) (by decide) (by decide))))
  have F11 : Fld Z h5 a1 "com/example/streamgrove/streamgrove/learners/RunningMoments" "largest" "D" (.double (0 : UInt64)) := (F_4.other W5 (Or.inr (slot_ne (Or.inl (hw _ (List.mem_of_getElem? (i := 14) rfl))) (Or.inl (hw _ (List.mem_of_getElem? (i := 11) rfl))) (by decide) (t := .double) (t' := .double) (by decide) (by decide))))
  have N5 := Fr.snoc X5 N0 g_a1
  have K12 : Keep h0 h5 [a1] := K0.wr W5 (Or.inl (List.mem_of_getElem? (i := 0) rfl))
  have c13 : ∀ t, Steps p.tables e below (T5.setTop (mkF m 11 #[.val (.ref a1)] [])) t → Steps p.tables e below (s₁.setTop (entryFrame m #[(.ref a1)] 1)) t := fun t k => c4 t (st5 _ k)
  have c14 : ∀ t, Steps p.tables e below (T5.setTop (mkF m 15 #[.val (.ref a1)] [(.double (18442240474082181120 : UInt64)), (.ref a1)])) t → Steps p.tables e below (s₁.setTop (entryFrame m #[(.ref a1)] 1)) t := fun t k => c13 t (by
    show Steps p.tables e below (T5.setTop (mkF m 11 #[.val (.ref a1)] [])) _
    refine XS.aloadN X5.here hx rfl (hb hby d1_11) rfl rfl ?_
    show Steps p.tables e below (T5.setTop (mkF m 12 #[.val (.ref a1)] [(.ref a1)])) _
    refine Jvm.Stand.ldc2DoubleC X5 hx hown (mvT hZ (hw _ (List.mem_of_getElem? (i := 12) rfl))) (g := (mkF m 12 #[.val (.ref a1)] [(.ref a1)])) rfl (hb hby d1_12) _ ?_
    show Steps p.tables e below (T5.setTop (mkF m 15 #[.val (.ref a1)] [(.double (18442240474082181120 : UInt64)), (.ref a1)])) _
    exact k)
  obtain ⟨T15, h15, X15, e15, W15, st15⟩ := putF X5 hx hZ hown (host := "") (Or.inl (hw _ (List.mem_of_getElem? (i := 13) rfl))) Via.refl e5 F11 F7 (Or.inl (hw _ (List.mem_of_getElem? (i := 14) rfl))) (hw _ (List.mem_of_getElem? (i := 1) rfl)) (ty := .double) (by decide) rfl rfl (g := (mkF m 15 #[.val (.ref a1)] [(.double (18442240474082181120 : UInt64)), (.ref a1)])) rfl rfl (hb hby d1_15)
  have F16 : Fld Z h15 a1 "com/example/streamgrove/streamgrove/learners/RunningMoments" "largest" "D" (.double (18442240474082181120 : UInt64)) := F11.same W15
  have F17 : Exa Z h15 a1 "com/example/streamgrove/streamgrove/learners/RunningMoments" := (F7.wr W15)
  have F18 : Fld Z h15 a1 "com/example/streamgrove/streamgrove/learners/RunningMoments" "count" "J" (.long (0 : Int64)) := (F8.other W15 (Or.inr (slot_ne (Or.inl (hw _ (List.mem_of_getElem? (i := 21) rfl))) (Or.inl (hw _ (List.mem_of_getElem? (i := 14) rfl))) (by decide) (t := .long) (t' := .double) (by decide) (by decide))))
  have F19 : Fld Z h15 a1 "com/example/streamgrove/streamgrove/learners/RunningMoments" "mean" "D" (.double (0 : UInt64)) := (F9.other W15 (Or.inr (slot_ne (Or.inl (hw _ (List.mem_of_getElem? (i := 28) rfl))) (Or.inl (hw _ (List.mem_of_getElem? (i := 14) rfl))) (by decide) (t := .double) (t' := .double) (by decide) (by decide))))
  have F20 : Fld Z h15 a1 "com/example/streamgrove/streamgrove/learners/RunningMoments" "squaredDeviations" "D" (.double (0 : UInt64)) := (F10.other W15 (Or.inr (slot_ne (Or.inl (hw _ (List.mem_of_getElem? (i := 30) rfl))) (Or.inl (hw _ (List.mem_of_getElem? (i := 14) rfl))) (by decide) (t := .double) (t' := .double) (by decide) (by decide))))
  have F21 : Fld Z h15 a1 "com/example/streamgrove/streamgrove/learners/RunningMoments" "smallest" "D" (.double (9218868437227405312 : UInt64)) := (F6.other W15 (Or.inr (slot_ne (Or.inl (hw _ (List.mem_of_getElem? (i := 11) rfl))) (Or.inl (hw _ (List.mem_of_getElem? (i := 14) rfl))) (by decide) (t := .double) (t' := .double) (by decide) (by decide))))
  have N15 := Fr.snoc X15 N5 g_a1
  have K22 : Keep h0 h15 [a1] := K12.wr W15 (Or.inl (List.mem_of_getElem? (i := 0) rfl))
  have c23 : ∀ t, Steps p.tables e below (T15.setTop (mkF m 18 #[.val (.ref a1)] [])) t → Steps p.tables e below (s₁.setTop (entryFrame m #[(.ref a1)] 1)) t := fun t k => c14 t (st15 _ k)
  obtain ⟨fs, hr, hrun, hended, hW, hsame⟩ := X15.leave (v := none) (fun _ => rfl)
  refine ⟨_, _, pre0 _ (c23 _ (X15.returnOut hx Bd.returns (hb hby d1_18) hr)), hrun, hended, _, _, rfl, ?_, ⟨_, rfl⟩, hW, hsame.mono (by decide) (by decide)⟩
  show Q_1 Z a1 h0 n0 _ T15.heap _
  rw [e15]
  exact ⟨rfl, N15, K22, F17, F18, F19, F20, F21, F16⟩
theorem d3_0 : decode prog_51_method_6_code 0 = .ok (.aload_n 0, 1) := by decide +kernel
theorem d3_1 : decode prog_51_method_6_code 1 = .ok (.getfield 22, 3) := by decide +kernel
theorem d3_4 : decode prog_51_method_6_code 4 = .ok (.lconst 1, 1) := by decide +kernel
theorem d3_5 : decode prog_51_method_6_code 5 = .ok (.lcmp, 1) := by decide +kernel
theorem d3_6 : decode prog_51_method_6_code 6 = .ok (.ifCond .le 18, 3) := by decide +kernel
theorem d3_9 : decode prog_51_method_6_code 9 = .ok (.aload_n 0, 1) := by decide +kernel
theorem d3_10 : decode prog_51_method_6_code 10 = .ok (.getfield 29, 3) := by decide +kernel
theorem d3_13 : decode prog_51_method_6_code 13 = .ok (.aload_n 0, 1) := by decide +kernel
theorem d3_14 : decode prog_51_method_6_code 14 = .ok (.getfield 22, 3) := by decide +kernel
theorem d3_17 : decode prog_51_method_6_code 17 = .ok (.lconst 1, 1) := by decide +kernel
theorem d3_18 : decode prog_51_method_6_code 18 = .ok (.lsub, 1) := by decide +kernel
theorem d3_19 : decode prog_51_method_6_code 19 = .ok (.l2d, 1) := by decide +kernel
theorem d3_20 : decode prog_51_method_6_code 20 = .ok (.ddiv, 1) := by decide +kernel
theorem d3_21 : decode prog_51_method_6_code 21 = .ok (.goto 4, 3) := by decide +kernel
theorem d3_24 : decode prog_51_method_6_code 24 = .ok (.dconst 0, 1) := by decide +kernel
theorem d3_25 : decode prog_51_method_6_code 25 = .ok (.dreturn, 1) := by decide +kernel
theorem ef_3 (m : MethodId) (a1 : Addr) (cn : Int64) (pq : UInt64) (pr : UInt64) : entryFrame m #[(.ref a1)] 1 = (mkF m 0 #[.val (.ref a1)] []) := by first | (simp [entryFrame, mkF, argsToLocals, Value.category]; done) | rfl
def Q_3 (Z : State) (a1 : Addr) (cn : Int64) (pq : UInt64) (pr : UInt64) (h0 : Heap) (n0 : Nat) (v : Option Value) (h : Heap) (L : List Loc) : Prop := v = some (.double pr) ∧ Fr n0 L ∧ h = h0
set_option maxRecDepth 65536 in
set_option maxHeartbeats 2000000 in
theorem rm_3 (l : Launch) (Z : State) (a0 : Array Value) (hw : ∀ d ∈ tables_1, d.before a0 Z = true) (ws : List Jvm.Cond) (a1 : Addr) (cn : Int64) (pq : UInt64) (pr : UInt64) (h0 : Heap) (n0 : Nat) (Z0 : n0 ≤ h0.size) (F_0 : Fld Z h0 a1 "com/example/streamgrove/streamgrove/learners/RunningMoments" "count" "J" (.long cn)) (F_2 : Fld Z h0 a1 "com/example/streamgrove/streamgrove/learners/RunningMoments" "squaredDeviations" "D" (.double pq)) (r0 : ¬ (1 : Int64) < cn → pr = FP.dconst0) (r1 : (1 : Int64) < cn → FP.ddiv pq (FP.l2d (cn - (1 : Int64))) = pr ∧ Jvm.Free.Fl.NoNaN64 pr) :
    MetFree l (⟨"com/example/streamgrove/streamgrove/learners/RunningMoments", "variance", "()D"⟩ : MethodName) (head1 (Jvm.Cond.code (⟨"com/example/streamgrove/streamgrove/learners/RunningMoments", "variance", "()D"⟩ : MethodName) prog_51_method_6_code 1 (some .double) :: ws) ({ frames := 0, cells := 0, slots := 0, locals := 0 } : Room)) (fun aa UU => aa = #[(.ref a1)] ∧ Z.Warmed39 UU.vm ∧ UU.heap = h0) (fun _ _ _ _ _ => True) (fun _ UU oo UU' => ∃ v L, oo = .returned v ∧ Q_3 Z a1 cn pq pr h0 n0 v UU'.heap L ∧ FrameEnd UU oo UU' L ({ frames := 0, cells := 0, slots := 0, locals := 0 } : Room).cells ({ frames := 0, cells := 0, slots := 0, locals := 0 } : Room).slots) := by
  refine MetFree.of_bodySF (plainFor_of_name pn_com_example_streamgrove_streamgrove_learners_RunningMoments) hisR ?_
  intro p e s m args below meth c s₁ Bd hml0 hP hK
  obtain ⟨rfl, hZ, hh⟩ := hP
  have hx := Bd.exec
  have hby := Bd.bytes
  have hml : c.maxLocals = 1 := hml0
  have hown : s.vm.findClass "com/example/streamgrove/streamgrove/learners/RunningMoments" = some m.cls := findClass_of_methodNamed Bd.named
  have hnaM := (name_of_methodNamed Bd.named Bd.method).1
  have X0 : Stand p l e ({ frames := 0, cells := 0, slots := 0, locals := 0 } : Room) s m #[(.ref a1)] below meth c s₁ [] 0 0 := Stand.of_body Bd
  have e0 : s₁.heap = h0 := by rw [← hh, Bd.state]; rfl
  have N0 := Fr.nil n0
  have pre0 : ∀ t, Steps p.tables e below (s₁.setTop (entryFrame m #[(.ref a1)] 1)) t → Steps p.tables e below (s₁.setTop (entryFrame m #[(.ref a1)] 1)) t := fun t k => k
  have c0 : ∀ t, Steps p.tables e below (s₁.setTop (mkF m 0 #[.val (.ref a1)] [])) t → Steps p.tables e below (s₁.setTop (entryFrame m #[(.ref a1)] 1)) t := fun t k => castTop (ef_3 m a1 cn pq pr) k
  have c1 : ∀ t, Steps p.tables e below (s₁.setTop (mkF m 1 #[.val (.ref a1)] [(.ref a1)])) t → Steps p.tables e below (s₁.setTop (entryFrame m #[(.ref a1)] 1)) t := fun t k => c0 t (by
    show Steps p.tables e below (s₁.setTop (mkF m 0 #[.val (.ref a1)] [])) _
    refine XS.aloadN X0.here hx rfl (hb hby d3_0) rfl rfl ?_
    show Steps p.tables e below (s₁.setTop (mkF m 1 #[.val (.ref a1)] [(.ref a1)])) _
    exact k)
  obtain ⟨T2, X2, e2, st2⟩ := getF X0 hx hZ hown (host := "") (Or.inl (hw _ (List.mem_of_getElem? (i := 20) rfl))) Via.refl e0 F_0 (g := (mkF m 1 #[.val (.ref a1)] [(.ref a1)])) rfl rfl (hb hby d3_1)
  have c3 : ∀ t, Steps p.tables e below (T2.setTop (mkF m 4 #[.val (.ref a1)] [(.long cn)])) t → Steps p.tables e below (s₁.setTop (entryFrame m #[(.ref a1)] 1)) t := fun t k => c1 t (st2 _ k)
  have c4 : ∀ t, Steps p.tables e below (T2.setTop (mkF m 6 #[.val (.ref a1)] [(.int (XT.cmpL cn (1 : Int64)))])) t → Steps p.tables e below (s₁.setTop (entryFrame m #[(.ref a1)] 1)) t := fun t k => c3 t (by
    show Steps p.tables e below (T2.setTop (mkF m 4 #[.val (.ref a1)] [(.long cn)])) _
    refine XT.lconst X2.here hx rfl (hb hby d3_4) ?_
    show Steps p.tables e below (T2.setTop (mkF m 5 #[.val (.ref a1)] [(.long (1 : Int64)), (.long cn)])) _
    refine XT.lcmp X2.here hx rfl (hb hby d3_5) rfl ?_
    show Steps p.tables e below (T2.setTop (mkF m 6 #[.val (.ref a1)] [(.int (XT.cmpL cn (1 : Int64)))])) _
    exact k)
  by_cases hq : (1 : Int64) < cn
  · skip
    obtain ⟨e1, n1⟩ := r1 hq
    have c5 : ∀ t, Steps p.tables e below (T2.setTop (mkF m 10 #[.val (.ref a1)] [(.ref a1)])) t → Steps p.tables e below (s₁.setTop (entryFrame m #[(.ref a1)] 1)) t := fun t k => c4 t (by
      show Steps p.tables e below (T2.setTop (mkF m 6 #[.val (.ref a1)] [(.int (XT.cmpL cn (1 : Int64)))])) _
      refine XS.ifNo X2.here hx rfl (hb hby d3_6) rfl (XT.ll_le_f hq) ?_
      show Steps p.tables e below (T2.setTop (mkF m 9 #[.val (.ref a1)] [])) _
      refine XS.aloadN X2.here hx rfl (hb hby d3_9) rfl rfl ?_
      show Steps p.tables e below (T2.setTop (mkF m 10 #[.val (.ref a1)] [(.ref a1)])) _
      exact k)
    obtain ⟨T6, X6, e6, st6⟩ := getF X2 hx hZ hown (host := "") (Or.inl (hw _ (List.mem_of_getElem? (i := 29) rfl))) Via.refl e2 F_2 (g := (mkF m 10 #[.val (.ref a1)] [(.ref a1)])) rfl rfl (hb hby d3_10)
    have c7 : ∀ t, Steps p.tables e below (T6.setTop (mkF m 13 #[.val (.ref a1)] [(.double pq)])) t → Steps p.tables e below (s₁.setTop (entryFrame m #[(.ref a1)] 1)) t := fun t k => c5 t (st6 _ k)
    have c8 : ∀ t, Steps p.tables e below (T6.setTop (mkF m 14 #[.val (.ref a1)] [(.ref a1), (.double pq)])) t → Steps p.tables e below (s₁.setTop (entryFrame m #[(.ref a1)] 1)) t := fun t k => c7 t (by
      show Steps p.tables e below (T6.setTop (mkF m 13 #[.val (.ref a1)] [(.double pq)])) _
      refine XS.aloadN X6.here hx rfl (hb hby d3_13) rfl rfl ?_
      show Steps p.tables e below (T6.setTop (mkF m 14 #[.val (.ref a1)] [(.ref a1), (.double pq)])) _
      exact k)
    obtain ⟨T9, X9, e9, st9⟩ := getF X6 hx hZ hown (host := "") (Or.inl (hw _ (List.mem_of_getElem? (i := 20) rfl))) Via.refl e6 F_0 (g := (mkF m 14 #[.val (.ref a1)] [(.ref a1), (.double pq)])) rfl rfl (hb hby d3_14)
    have c10 : ∀ t, Steps p.tables e below (T9.setTop (mkF m 17 #[.val (.ref a1)] [(.long cn), (.double pq)])) t → Steps p.tables e below (s₁.setTop (entryFrame m #[(.ref a1)] 1)) t := fun t k => c8 t (st9 _ k)
    have c11 : ∀ t, Steps p.tables e below (T9.setTop (mkF m 25 #[.val (.ref a1)] [(.double pr)])) t → Steps p.tables e below (s₁.setTop (entryFrame m #[(.ref a1)] 1)) t := fun t k => c10 t (by
      show Steps p.tables e below (T9.setTop (mkF m 17 #[.val (.ref a1)] [(.long cn), (.double pq)])) _
      refine XT.lconst X9.here hx rfl (hb hby d3_17) ?_
      show Steps p.tables e below (T9.setTop (mkF m 18 #[.val (.ref a1)] [(.long (1 : Int64)), (.long cn), (.double pq)])) _
      refine XT.lsub X9.here hx rfl (hb hby d3_18) rfl ?_
      show Steps p.tables e below (T9.setTop (mkF m 19 #[.val (.ref a1)] [(.long (cn - (1 : Int64))), (.double pq)])) _
      refine XS.l2dS X9.here hx rfl (hb hby d3_19) rfl rfl ?_
      show Steps p.tables e below (T9.setTop (mkF m 20 #[.val (.ref a1)] [(.double (FP.l2d (cn - (1 : Int64)))), (.double pq)])) _
      refine XS.ddivS X9.here hx rfl (hb hby d3_20) rfl (e1 ▸ n1) e1 ?_
      show Steps p.tables e below (T9.setTop (mkF m 21 #[.val (.ref a1)] [(.double pr)])) _
      refine XS.goto X9.here hx rfl (pc0 := 21) (pc' := 25) rfl (hb hby d3_21) (by decide) (by decide) ?_
      show Steps p.tables e below (T9.setTop (mkF m 25 #[.val (.ref a1)] [(.double pr)])) _
      exact k)
    obtain ⟨fs, hr, hrun, hended, hW, hsame⟩ := X9.leave (v := (some (.double pr))) (fun h => by rw [Bd.returns] at h; cases h)
    refine ⟨_, _, pre0 _ (c11 _ (retOut X9 hx (t := .double) (i := .dreturn) Bd.returns rfl (Or.inr (Or.inr (Or.inl ⟨rfl, rfl, _, rfl⟩))) (hb hby d3_25) hr)), hrun, hended, _, _, rfl, ?_, ⟨_, rfl⟩, hW, hsame.mono (by decide) (by decide)⟩
    show Q_3 Z a1 cn pq pr h0 n0 _ T9.heap _
    rw [e9]
    exact ⟨rfl, N0, rfl⟩
  · skip
    have c12 : ∀ t, Steps p.tables e below (T2.setTop (mkF m 25 #[.val (.ref a1)] [(.double FP.dconst0)])) t → Steps p.tables e below (s₁.setTop (entryFrame m #[(.ref a1)] 1)) t := fun t k => c4 t (by
      show Steps p.tables e below (T2.setTop (mkF m 6 #[.val (.ref a1)] [(.int (XT.cmpL cn (1 : Int64)))])) _
      refine XS.ifYes X2.here hx rfl (pc0 := 6) (pc' := 24) rfl (hb hby d3_6) rfl (XT.ll_le_t hq) (by decide) (by decide) ?_
      show Steps p.tables e below (T2.setTop (mkF m 24 #[.val (.ref a1)] [])) _
      refine XS.dconst0 X2.here hx rfl (hb hby d3_24) rfl ?_
      show Steps p.tables e below (T2.setTop (mkF m 25 #[.val (.ref a1)] [(.double FP.dconst0)])) _
      exact k)
    obtain ⟨fs, hr, hrun, hended, hW, hsame⟩ := X2.leave (v := (some (.double FP.dconst0))) (fun h => by rw [Bd.returns] at h; cases h)
    refine ⟨_, _, pre0 _ (c12 _ (retOut X2 hx (t := .double) (i := .dreturn) Bd.returns rfl (Or.inr (Or.inr (Or.inl ⟨rfl, rfl, _, rfl⟩))) (hb hby d3_25) hr)), hrun, hended, _, _, rfl, ?_, ⟨_, rfl⟩, hW, hsame.mono (by decide) (by decide)⟩
    show Q_3 Z a1 cn pq pr h0 n0 _ T2.heap _
    rw [e2]
    exact ⟨by rw [r0 hq], N0, rfl⟩
theorem d4_0 : decode prog_51_method_2_code 0 = .ok (.aload_n 0, 1) := by decide +kernel
theorem d4_1 : decode prog_51_method_2_code 1 = .ok (.dup, 1) := by decide +kernel
theorem d4_2 : decode prog_51_method_2_code 2 = .ok (.getfield 22, 3) := by decide +kernel
theorem d4_5 : decode prog_51_method_2_code 5 = .ok (.lconst 1, 1) := by decide +kernel
theorem d4_6 : decode prog_51_method_2_code 6 = .ok (.ladd, 1) := by decide +kernel
theorem d4_7 : decode prog_51_method_2_code 7 = .ok (.putfield 22, 3) := by decide +kernel
theorem d4_10 : decode prog_51_method_2_code 10 = .ok (.dload_n 1, 1) := by decide +kernel
theorem d4_11 : decode prog_51_method_2_code 11 = .ok (.aload_n 0, 1) := by decide +kernel
theorem d4_12 : decode prog_51_method_2_code 12 = .ok (.getfield 26, 3) := by decide +kernel
theorem d4_15 : decode prog_51_method_2_code 15 = .ok (.dsub, 1) := by decide +kernel
theorem d4_16 : decode prog_51_method_2_code 16 = .ok (.dstore_n 3, 1) := by decide +kernel
theorem d4_17 : decode prog_51_method_2_code 17 = .ok (.aload_n 0, 1) := by decide +kernel
theorem d4_18 : decode prog_51_method_2_code 18 = .ok (.dup, 1) := by decide +kernel
theorem d4_19 : decode prog_51_method_2_code 19 = .ok (.getfield 26, 3) := by decide +kernel
theorem d4_22 : decode prog_51_method_2_code 22 = .ok (.dload_n 3, 1) := by decide +kernel
theorem d4_23 : decode prog_51_method_2_code 23 = .ok (.aload_n 0, 1) := by decide +kernel
theorem d4_24 : decode prog_51_method_2_code 24 = .ok (.getfield 22, 3) := by decide +kernel
theorem d4_27 : decode prog_51_method_2_code 27 = .ok (.l2d, 1) := by decide +kernel
theorem d4_28 : decode prog_51_method_2_code 28 = .ok (.ddiv, 1) := by decide +kernel
theorem d4_29 : decode prog_51_method_2_code 29 = .ok (.dadd, 1) := by decide +kernel
theorem d4_30 : decode prog_51_method_2_code 30 = .ok (.putfield 26, 3) := by decide +kernel
theorem d4_33 : decode prog_51_method_2_code 33 = .ok (.aload_n 0, 1) := by decide +kernel
theorem d4_34 : decode prog_51_method_2_code 34 = .ok (.dup, 1) := by decide +kernel
theorem d4_35 : decode prog_51_method_2_code 35 = .ok (.getfield 29, 3) := by decide +kernel
theorem d4_38 : decode prog_51_method_2_code 38 = .ok (.dload_n 3, 1) := by decide +kernel
theorem d4_39 : decode prog_51_method_2_code 39 = .ok (.dload_n 1, 1) := by decide +kernel
theorem d4_40 : decode prog_51_method_2_code 40 = .ok (.aload_n 0, 1) := by decide +kernel
theorem d4_41 : decode prog_51_method_2_code 41 = .ok (.getfield 26, 3) := by decide +kernel
theorem d4_44 : decode prog_51_method_2_code 44 = .ok (.dsub, 1) := by decide +kernel
theorem d4_45 : decode prog_51_method_2_code 45 = .ok (.dmul, 1) := by decide +kernel
theorem d4_46 : decode prog_51_method_2_code 46 = .ok (.dadd, 1) := by decide +kernel
theorem d4_47 : decode prog_51_method_2_code 47 = .ok (.putfield 29, 3) := by decide +kernel
theorem d4_50 : decode prog_51_method_2_code 50 = .ok (.aload_n 0, 1) := by decide +kernel
theorem d4_51 : decode prog_51_method_2_code 51 = .ok (.aload_n 0, 1) := by decide +kernel
theorem d4_52 : decode prog_51_method_2_code 52 = .ok (.getfield 11, 3) := by decide +kernel
theorem d4_55 : decode prog_51_method_2_code 55 = .ok (.dload_n 1, 1) := by decide +kernel
theorem d4_56 : decode prog_51_method_2_code 56 = .ok (.invokestatic 32, 3) := by decide +kernel
theorem d4_59 : decode prog_51_method_2_code 59 = .ok (.putfield 11, 3) := by decide +kernel
theorem d4_62 : decode prog_51_method_2_code 62 = .ok (.aload_n 0, 1) := by decide +kernel
theorem d4_63 : decode prog_51_method_2_code 63 = .ok (.aload_n 0, 1) := by decide +kernel
theorem d4_64 : decode prog_51_method_2_code 64 = .ok (.getfield 19, 3) := by decide +kernel
theorem d4_67 : decode prog_51_method_2_code 67 = .ok (.dload_n 1, 1) := by decide +kernel
theorem d4_68 : decode prog_51_method_2_code 68 = .ok (.invokestatic 38, 3) := by decide +kernel
theorem d4_71 : decode prog_51_method_2_code 71 = .ok (.putfield 19, 3) := by decide +kernel
theorem d4_74 : decode prog_51_method_2_code 74 = .ok (.return_, 1) := by decide +kernel
theorem ef_4 (m : MethodId) (a1 : Addr) (pv : UInt64) (cn : Int64) (pm : UInt64) (pq : UInt64) (ps : UInt64) (pl : UInt64) (b1 : UInt64) (q1 : UInt64) (nm : UInt64) (t1 : UInt64) (u1 : UInt64) (nq : UInt64) (ns : UInt64) (nl : UInt64) : entryFrame m #[(.ref a1), (.double pv)] 5 = (mkF m 0 #[.val (.ref a1), .val (.double pv), .second, .unset, .unset] []) := by first | (simp [entryFrame, mkF, argsToLocals, Value.category]; done) | rfl
def Q_4 (Z : State) (a1 : Addr) (pv : UInt64) (cn : Int64) (pm : UInt64) (pq : UInt64) (ps : UInt64) (pl : UInt64) (b1 : UInt64) (q1 : UInt64) (nm : UInt64) (t1 : UInt64) (u1 : UInt64) (nq : UInt64) (ns : UInt64) (nl : UInt64) (h0 : Heap) (n0 : Nat) (v : Option Value) (h : Heap) (L : List Loc) : Prop := v = none ∧ Fr n0 L ∧ Keep h0 h [a1] ∧ Exa Z h a1 "com/example/streamgrove/streamgrove/learners/RunningMoments" ∧ Fld Z h a1 "com/example/streamgrove/streamgrove/learners/RunningMoments" "count" "J" (.long (cn + (1 : Int64))) ∧ Fld Z h a1 "com/example/streamgrove/streamgrove/learners/RunningMoments" "mean" "D" (.double nm) ∧ Fld Z h a1 "com/example/streamgrove/streamgrove/learners/RunningMoments" "squaredDeviations" "D" (.double nq) ∧ Fld Z h a1 "com/example/streamgrove/streamgrove/learners/RunningMoments" "smallest" "D" (.double ns) ∧ Fld Z h a1 "com/example/streamgrove/streamgrove/learners/RunningMoments" "largest" "D" (.double nl)
set_option maxRecDepth 65536 in
set_option maxHeartbeats 2000000 in
theorem rm_4 (l : Launch) (Z : State) (a0 : Array Value) (hw : ∀ d ∈ tables_1, d.before a0 Z = true) (ws : List Jvm.Cond) (a1 : Addr) (pv : UInt64) (cn : Int64) (pm : UInt64) (pq : UInt64) (ps : UInt64) (pl : UInt64) (b1 : UInt64) (q1 : UInt64) (nm : UInt64) (t1 : UInt64) (u1 : UInt64) (nq : UInt64) (ns : UInt64) (nl : UInt64) (h0 : Heap) (n0 : Nat) (Z0 : n0 ≤ h0.size) (E_a1 : Exa Z h0 a1 "com/example/streamgrove/streamgrove/learners/RunningMoments") (F_0 : Fld Z h0 a1 "com/example/streamgrove/streamgrove/learners/RunningMoments" "count" "J" (.long cn)) (F_1 : Fld Z h0 a1 "com/example/streamgrove/streamgrove/learners/RunningMoments" "mean" "D" (.double pm)) (F_2 : Fld Z h0 a1 "com/example/streamgrove/streamgrove/learners/RunningMoments" "squaredDeviations" "D" (.double pq)) (F_3 : Fld Z h0 a1 "com/example/streamgrove/streamgrove/learners/RunningMoments" "smallest" "D" (.double ps)) (F_4 : Fld Z h0 a1 "com/example/streamgrove/streamgrove/learners/RunningMoments" "largest" "D" (.double pl)) (g_a1 : n0 ≤ a1) (hb1 : FP.dsub pv pm = b1) (hq1 : FP.ddiv b1 (FP.l2d (cn + (1 : Int64))) = q1) (hnm : FP.dadd pm q1 = nm) (ht1 : FP.dsub pv nm = t1) (hu1 : FP.dmul b1 t1 = u1) (hnq : FP.dadd pq u1 = nq) (hns : Jvm.Native.java_lang_Math.nans.pick64 false ps pv = ns) (hnl : Jvm.Native.java_lang_Math.nans.pick64 true pl pv = nl) (n_b1 : Jvm.Free.Fl.NoNaN64 b1) (n_q1 : Jvm.Free.Fl.NoNaN64 q1) (n_nm : Jvm.Free.Fl.NoNaN64 nm) (n_t1 : Jvm.Free.Fl.NoNaN64 t1) (n_u1 : Jvm.Free.Fl.NoNaN64 u1) (n_nq : Jvm.Free.Fl.NoNaN64 nq) (n_pv : FP.dIsNaN pv = false) (n_ps : FP.dIsNaN ps = false) (n_pl : FP.dIsNaN pl = false) :
    MetFree l (⟨"com/example/streamgrove/streamgrove/learners/RunningMoments", "add", "(D)V"⟩ : MethodName) (head1 (Jvm.Cond.code (⟨"com/example/streamgrove/streamgrove/learners/RunningMoments", "add", "(D)V"⟩ : MethodName) prog_51_method_2_code 5 none :: ws) ({ frames := 1, cells := 0, slots := 0, locals := 20 } : Room)) (fun aa UU => aa = #[(.ref a1), (.double pv)] ∧ Z.Warmed39 UU.vm ∧ UU.heap = h0) (fun _ _ _ _ _ => True) (fun _ UU oo UU' => ∃ v L, oo = .returned v ∧ Q_4 Z a1 pv cn pm pq ps pl b1 q1 nm t1 u1 nq ns nl h0 n0 v UU'.heap L ∧ FrameEnd UU oo UU' L ({ frames := 1, cells := 0, slots := 0, locals := 20 } : Room).cells ({ frames := 1, cells := 0, slots := 0, locals := 20 } : Room).slots) := by
  refine MetFree.of_bodySF (plainFor_of_name pn_com_example_streamgrove_streamgrove_learners_RunningMoments) hisR ?_
  intro p e s m args below meth c s₁ Bd hml0 hP hK
  obtain ⟨rfl, hZ, hh⟩ := hP
  have hx := Bd.exec
  have hby := Bd.bytes
  have hml : c.maxLocals = 5 := hml0
  have hown : s.vm.findClass "com/example/streamgrove/streamgrove/learners/RunningMoments" = some m.cls := findClass_of_methodNamed Bd.named
  have hnaM := (name_of_methodNamed Bd.named Bd.method).1
  have X0 : Stand p l e ({ frames := 1, cells := 0, slots := 0, locals := 20 } : Room) s m #[(.ref a1), (.double pv)] below meth c s₁ [] 0 0 := Stand.of_body Bd
  have e0 : s₁.heap = h0 := by rw [← hh, Bd.state]; rfl
  have N0 := Fr.nil n0
  have pre0 : ∀ t, Steps p.tables e below (s₁.setTop (entryFrame m #[(.ref a1), (.double pv)] 5)) t → Steps p.tables e below (s₁.setTop (entryFrame m #[(.ref a1), (.double pv)] 5)) t := fun t k => k
  have c0 : ∀ t, Steps p.tables e below (s₁.setTop (mkF m 0 #[.val (.ref a1), .val (.double pv), .second, .unset, .unset] [])) t → Steps p.tables e below (s₁.setTop (entryFrame m #[(.ref a1), (.double pv)] 5)) t := fun t k => castTop (ef_4 m a1 pv cn pm pq ps pl b1 q1 nm t1 u1 nq ns nl) k
  have K0 := Keep.refl h0 [a1]
  have c1 : ∀ t, Steps p.tables e below (s₁.setTop (mkF m 2 #[.val (.ref a1), .val (.double pv), .second, .unset, .unset] [(.ref a1), (.ref a1)])) t → Steps p.tables e below (s₁.setTop (entryFrame m #[(.ref a1), (.double pv)] 5)) t := fun t k => c0 t (by
    show Steps p.tables e below (s₁.setTop (mkF m 0 #[.val (.ref a1), .val (.double pv), .second, .unset, .unset] [])) _
    refine XS.aloadN X0.here hx rfl (hb hby d4_0) rfl rfl ?_
    show Steps p.tables e below (s₁.setTop (mkF m 1 #[.val (.ref a1), .val (.double pv), .second, .unset, .unset] [(.ref a1)])) _
    refine XS.dup X0.here hx rfl (hb hby d4_1) rfl rfl ?_
    show Steps p.tables e below (s₁.setTop (mkF m 2 #[.val (.ref a1), .val (.double pv), .second, .unset, .unset] [(.ref a1), (.ref a1)])) _
    exact k)
  obtain ⟨T2, X2, e2, st2⟩ := getF X0 hx hZ hown (host := "") (Or.inl (hw _ (List.mem_of_getElem? (i := 20) rfl))) Via.refl e0 F_0 (g := (mkF m 2 #[.val (.ref a1), .val (.double pv), .second, .unset, .unset] [(.ref a1), (.ref a1)])) rfl rfl (hb hby d4_2)
  have c3 : ∀ t, Steps p.tables e below (T2.setTop (mkF m 5 #[.val (.ref a1), .val (.double pv), .second, .unset, .unset] [(.long cn), (.ref a1)])) t → Steps p.tables e below (s₁.setTop (entryFrame m #[(.ref a1), (.double pv)] 5)) t := fun t k => c1 t (st2 _ k)
  have c4 : ∀ t, Steps p.tables e below (T2.setTop (mkF m 7 #[.val (.ref a1), .val (.double pv), .second, .unset, .unset] [(.long (cn + (1 : Int64))), (.ref a1)])) t → Steps p.tables e below (s₁.setTop (entryFrame m #[(.ref a1), (.double pv)] 5)) t := fun t k => c3 t (by
    show Steps p.tables e below (T2.setTop (mkF m 5 #[.val (.ref a1), .val (.double pv), .second, .unset, .unset] [(.long cn), (.ref a1)])) _
    refine XT.lconst X2.here hx rfl (hb hby d4_5) ?_
    show Steps p.tables e below (T2.setTop (mkF m 6 #[.val (.ref a1), .val (.double pv), .second, .unset, .unset] [(.long (1 : Int64)), (.long cn), (.ref a1)])) _
    refine XT.ladd X2.here hx rfl (hb hby d4_6) rfl ?_
    show Steps p.tables e below (T2.setTop (mkF m 7 #[.val (.ref a1), .val (.double pv), .second, .unset, .unset] [(.long (cn + (1 : Int64))), (.ref a1)])) _
    exact k)
  obtain ⟨T5, h5, X5, e5, W5, st5⟩ := putF X2 hx hZ hown (host := "") (Or.inl (hw _ (List.mem_of_getElem? (i := 20) rfl))) Via.refl e2 F_0 E_a1 (Or.inl (hw _ (List.mem_of_getElem? (i := 21) rfl))) (hw _ (List.mem_of_getElem? (i := 1) rfl)) (ty := .long) (by decide) rfl rfl (g := (mkF m 7 #[.val (.ref a1), .val (.double pv), .second, .unset, .unset] [(.long (cn + (1 : Int64))), (.ref a1)])) rfl rfl (hb hby d4_7)
  have F6 : Fld Z h5 a1 "com/example/streamgrove/streamgrove/learners/RunningMoments" "count" "J" (.long (cn + (1 : Int64))) := F_0.same W5
  have F7 : Exa Z h5 a1 "com/example/streamgrove/streamgrove/learners/RunningMoments" := (E_a1.wr W5)
  have F8 : Fld Z h5 a1 "com/example/streamgrove/streamgrove/learners/RunningMoments" "mean" "D" (.double pm) := (F_1.other W5 (Or.inr (slot_ne (Or.inl (hw _ (List.mem_of_getElem? (i := 28) rfl))) (Or.inl (hw _ (List.mem_of_getElem? (i := 21) rfl))) (by decide) (t := .double) (t' := .long) (by decide) (by decide))))
  have F9 : Fld Z h5 a1 "com/example/streamgrove/streamgrove/learners/RunningMoments" "squaredDeviations" "D" (.double pq) := (F_2.other W5 (Or.inr (slot_ne (Or.inl (hw _ (List.mem_of_getElem? (i := 30) rfl))) (Or.inl (hw _ (List.mem_of_getElem? (i := 21) rfl))) (by decide) (t := .double) (t' := .long) (by decide) (by decide))))
  have F10 : Fld Z h5 a1 "com/example/streamgrove/streamgrove/learners/RunningMoments" "smallest" "D" (.double ps) := (F_3.other W5 (Or.inr (slot_ne (Or.inl (hw _ (List.mem_of_getElem? (i := 11) rfl))) (Or.inl (hw _ (List.mem_of_getElem? (i := 21) rfl))) (by decide) (t := .double) (t' := .long) (by decide) (by decide))))
  have F11 : Fld Z h5 a1 "com/example/streamgrove/streamgrove/learners/RunningMoments" "largest" "D" (.double pl) := (F_4.other W5 (Or.inr (slot_ne (Or.inl (hw _ (List.mem_of_getElem? (i := 14) rfl))) (Or.inl (hw _ (List.mem_of_getElem? (i := 21) rfl))) (by decide) (t := .double) (t' := .long) (by decide) (by decide))))
  have N5 := Fr.snoc X5 N0 g_a1
  have K12 : Keep h0 h5 [a1] := K0.wr W5 (Or.inl (List.mem_of_getElem? (i := 0) rfl))
  have c13 : ∀ t, Steps p.tables e below (T5.setTop (mkF m 10 #[.val (.ref a1), .val (.double pv), .second, .unset, .unset] [])) t → Steps p.tables e below (s₁.setTop (entryFrame m #[(.ref a1), (.double pv)] 5)) t := fun t k => c4 t (st5 _ k)
  have c14 : ∀ t, Steps p.tables e below (T5.setTop (mkF m 12 #[.val (.ref a1), .val (.double pv), .second, .unset, .unset] [(.ref a1), (.double pv)])) t → Steps p.tables e below (s₁.setTop (entryFrame m #[(.ref a1), (.double pv)] 5)) t := fun t k => c13 t (by
    show Steps p.tables e below (T5.setTop (mkF m 10 #[.val (.ref a1), .val (.double pv), .second, .unset, .unset] [])) _
    refine XS.dloadN X5.here hx rfl (hb hby d4_10) rfl ?_
    show Steps p.tables e below (T5.setTop (mkF m 11 #[.val (.ref a1), .val (.double pv), .second, .unset, .unset] [(.double pv)])) _
    refine XS.aloadN X5.here hx rfl (hb hby d4_11) rfl rfl ?_
    show Steps p.tables e below (T5.setTop (mkF m 12 #[.val (.ref a1), .val (.double pv), .second, .unset, .unset] [(.ref a1), (.double pv)])) _
    exact k)
  obtain ⟨T15, X15, e15, st15⟩ := getF X5 hx hZ hown (host := "") (Or.inl (hw _ (List.mem_of_getElem? (i := 27) rfl))) Via.refl e5 F8 (g := (mkF m 12 #[.val (.ref a1), .val (.double pv), .second, .unset, .unset] [(.ref a1), (.double pv)])) rfl rfl (hb hby d4_12)
  have c16 : ∀ t, Steps p.tables e below (T15.setTop (mkF m 15 #[.val (.ref a1), .val (.double pv), .second, .unset, .unset] [(.double pm), (.double pv)])) t → Steps p.tables e below (s₁.setTop (entryFrame m #[(.ref a1), (.double pv)] 5)) t := fun t k => c14 t (st15 _ k)
  have c17 : ∀ t, Steps p.tables e below (T15.setTop (mkF m 19 #[.val (.ref a1), .val (.double pv), .second, .val (.double b1), .second] [(.ref a1), (.ref a1)])) t → Steps p.tables e below (s₁.setTop (entryFrame m #[(.ref a1), (.double pv)] 5)) t := fun t k => c16 t (by
    show Steps p.tables e below (T15.setTop (mkF m 15 #[.val (.ref a1), .val (.double pv), .second, .unset, .unset] [(.double pm), (.double pv)])) _
    refine XS.dsubS X15.here hx rfl (hb hby d4_15) rfl (hb1 ▸ n_b1) hb1 ?_
    show Steps p.tables e below (T15.setTop (mkF m 16 #[.val (.ref a1), .val (.double pv), .second, .unset, .unset] [(.double b1)])) _
    refine XS.dstoreN X15.here hx rfl (hb hby d4_16) rfl (l' := #[.val (.ref a1), .val (.double pv), .second, .val (.double b1), .second]) rfl ?_
    show Steps p.tables e below (T15.setTop (mkF m 17 #[.val (.ref a1), .val (.double pv), .second, .val (.double b1), .second] [])) _
    refine XS.aloadN X15.here hx rfl (hb hby d4_17) rfl rfl ?_
    show Steps p.tables e below (T15.setTop (mkF m 18 #[.val (.ref a1), .val (.double pv), .second, .val (.double b1), .second] [(.ref a1)])) _
    refine XS.dup X15.here hx rfl (hb hby d4_18) rfl rfl ?_
    show Steps p.tables e below (T15.setTop (mkF m 19 #[.val (.ref a1), .val (.double pv), .second, .val (.double b1), .second] [(.ref a1), (.ref a1)])) _
    exact k)
  obtain ⟨T18, X18, e18, st18⟩ := getF X15 hx hZ hown (host := "") (Or.inl (hw _ (List.mem_of_getElem? (i := 27) rfl))) Via.refl e15 F8 (g := (mkF m 19 #[.val (.ref a1), .val (.double pv), .second, .val (.double b1), .second] [(.ref a1), (.ref a1)])) rfl rfl (hb hby d4_19)
  have c19 : ∀ t, Steps p.tables e below (T18.setTop (mkF m 22 #[.val (.ref a1), .val (.double pv), .second, .val (.double b1), .second] [(.double pm), (.ref a1)])) t → Steps p.tables e below (s₁.setTop (entryFrame m #[(.ref a1), (.double pv)] 5)) t := fun t k => c17 t (st18 _ k)
  have c20 : ∀ t, Steps p.tables e below (T18.setTop (mkF m 24 #[.val (.ref a1), .val (.double pv), .second, .val (.double b1), .second] [(.ref a1), (.double b1), (.double pm), (.ref a1)])) t → Steps p.tables e below (s₁.setTop (entryFrame m #[(.ref a1), (.double pv)] 5)) t := fun t k => c19 t (by
    show Steps p.tables e below (T18.setTop (mkF m 22 #[.val (.ref a1), .val (.double pv), .second, .val (.double b1), .second] [(.double pm), (.ref a1)])) _
    refine XS.dloadN X18.here hx rfl (hb hby d4_22) rfl ?_
    show Steps p.tables e below (T18.setTop (mkF m 23 #[.val (.ref a1), .val (.double pv), .second, .val (.double b1), .second] [(.double b1), (.double pm), (.ref a1)])) _
    refine XS.aloadN X18.here hx rfl (hb hby d4_23) rfl rfl ?_
    show Steps p.tables e below (T18.setTop (mkF m 24 #[.val (.ref a1), .val (.double pv), .second, .val (.double b1), .second] [(.ref a1), (.double b1), (.double pm), (.ref a1)])) _
    exact k)
  obtain ⟨T21, X21, e21, st21⟩ := getF X18 hx hZ hown (host := "") (Or.inl (hw _ (List.mem_of_getElem? (i := 20) rfl))) Via.refl e18 F6 (g := (mkF m 24 #[.val (.ref a1), .val (.double pv), .second, .val (.double b1), .second] [(.ref a1), (.double b1), (.double pm), (.ref a1)])) rfl rfl (hb hby d4_24)
  have c22 : ∀ t, Steps p.tables e below (T21.setTop (mkF m 27 #[.val (.ref a1), .val (.double pv), .second, .val (.double b1), .second] [(.long (cn + (1 : Int64))), (.double b1), (.double pm), (.ref a1)])) t → Steps p.tables e below (s₁.setTop (entryFrame m #[(.ref a1), (.double pv)] 5)) t := fun t k => c20 t (st21 _ k)
  have c23 : ∀ t, Steps p.tables e below (T21.setTop (mkF m 30 #[.val (.ref a1), .val (.double pv), .second, .val (.double b1), .second] [(.double nm), (.ref a1)])) t → Steps p.tables e below (s₁.setTop (entryFrame m #[(.ref a1), (.double pv)] 5)) t := fun t k => c22 t (by
    show Steps p.tables e below (T21.setTop (mkF m 27 #[.val (.ref a1), .val (.double pv), .second, .val (.double b1), .second] [(.long (cn + (1 : Int64))), (.double b1), (.double pm), (.ref a1)])) _
    refine XS.l2dS X21.here hx rfl (hb hby d4_27) rfl rfl ?_
    show Steps p.tables e below (T21.setTop (mkF m 28 #[.val (.ref a1), .val (.double pv), .second, .val (.double b1), .second] [(.double (FP.l2d (cn + (1 : Int64)))), (.double b1), (.double pm), (.ref a1)])) _
    refine XS.ddivS X21.here hx rfl (hb hby d4_28) rfl (hq1 ▸ n_q1) hq1 ?_
    show Steps p.tables e below (T21.setTop (mkF m 29 #[.val (.ref a1), .val (.double pv), .second, .val (.double b1), .second] [(.double q1), (.double pm), (.ref a1)])) _
    refine XS.daddS X21.here hx rfl (hb hby d4_29) rfl (hnm ▸ n_nm) hnm ?_
    show Steps p.tables e below (T21.setTop (mkF m 30 #[.val (.ref a1), .val (.double pv), .second, .val (.double b1), .second] [(.double nm), (.ref a1)])) _
    exact k)
  obtain ⟨T24, h24, X24, e24, W24, st24⟩ := putF X21 hx hZ hown (host := "") (Or.inl (hw _ (List.mem_of_getElem? (i := 27) rfl))) Via.refl e21 F8 F7 (Or.inl (hw _ (List.mem_of_getElem? (i := 28) rfl))) (hw _ (List.mem_of_getElem? (i := 1) rfl)) (ty := .double) (by decide) rfl rfl (g := (mkF m 30 #[.val (.ref a1), .val (.double pv), .second, .val (.double b1), .second] [(.double nm), (.ref a1)])) rfl rfl (hb hby d4_30)
  have F25 : Fld Z h24 a1 "com/example/streamgrove/streamgrove/learners/RunningMoments" "mean" "D" (.double nm) := F8.same W24
  have F26 : Exa Z h24 a1 "com/example/streamgrove/streamgrove/learners/RunningMoments" := (F7.wr W24)
  have F27 : Fld Z h24 a1 "com/example/streamgrove/streamgrove/learners/RunningMoments" "count" "J" (.long (cn + (1 : Int64))) := (F6.other W24 (Or.inr (slot_ne (Or.inl (hw _ (List.mem_of_getElem? (i := 21) rfl))) (Or.inl (hw _ (List.mem_of_getElem? (i := 28) rfl))) (by decide) (t := .long) (t' := .double) (by decide) (by decide))))
  have F28 : Fld Z h24 a1 "com/example/streamgrove/streamgrove/learners/RunningMoments" "squaredDeviations" "D" (.double pq) := (F9.other W24 (Or.inr (slot_ne (Or.inl (hw _ (List.mem_of_getElem? (i := 30) rfl))) (Or.inl (hw _ (List.mem_of_getElem? (i := 28) rfl))) (by decide) (t := .double) (t' := .double) (by decide) (by decide))))
  have F29 : Fld Z h24 a1 "com/example/streamgrove/streamgrove/learners/RunningMoments" "smallest" "D" (.double ps) := (F10.other W24 (Or.inr (slot_ne (Or.inl (hw _ (List.mem_of_getElem? (i := 11) rfl))) (Or.inl (hw _ (List.mem_of_getElem? (i := 28) rfl))) (by decide) (t := .double) (t' := .double) (by decide) (by decide))))
  have F30 : Fld Z h24 a1 "com/example/streamgrove/streamgrove/learners/RunningMoments" "largest" "D" (.double pl) := (F11.other W24 (Or.inr (slot_ne (Or.inl (hw _ (List.mem_of_getElem? (i := 14) rfl))) (Or.inl (hw _ (List.mem_of_getElem? (i := 28) rfl))) (by decide) (t := .double) (t' := .double) (by decide) (by decide))))
  have N24 := Fr.snoc X24 N5 g_a1
  have K31 : Keep h0 h24 [a1] := K12.wr W24 (Or.inl (List.mem_of_getElem? (i := 0) rfl))
  have c32 : ∀ t, Steps p.tables e below (T24.setTop (mkF m 33 #[.val (.ref a1), .val (.double pv), .second, .val (.double b1), .second] [])) t → Steps p.tables e below (s₁.setTop (entryFrame m #[(.ref a1), (.double pv)] 5)) t := fun t k => c23 t (st24 _ k)
  have c33 : ∀ t, Steps p.tables e below (T24.setTop (mkF m 35 #[.val (.ref a1), .val (.double pv), .second, .val (.double b1), .second] [(.ref a1), (.ref a1)])) t → Steps p.tables e below (s₁.setTop (entryFrame m #[(.ref a1), (.double pv)] 5)) t := fun t k => c32 t (by
    show Steps p.tables e below (T24.setTop (mkF m 33 #[.val (.ref a1), .val (.double pv), .second, .val (.double b1), .second] [])) _
    refine XS.aloadN X24.here hx rfl (hb hby d4_33) rfl rfl ?_
    show Steps p.tables e below (T24.setTop (mkF m 34 #[.val (.ref a1), .val (.double pv), .second, .val (.double b1), .second] [(.ref a1)])) _
    refine XS.dup X24.here hx rfl (hb hby d4_34) rfl rfl ?_
    show Steps p.tables e below (T24.setTop (mkF m 35 #[.val (.ref a1), .val (.double pv), .second, .val (.double b1), .second] [(.ref a1), (.ref a1)])) _
    exact k)
  obtain ⟨T34, X34, e34, st34⟩ := getF X24 hx hZ hown (host := "") (Or.inl (hw _ (List.mem_of_getElem? (i := 29) rfl))) Via.refl e24 F28 (g := (mkF m 35 #[.val (.ref a1), .val (.double pv), .second, .val (.double b1), .second] [(.ref a1), (.ref a1)])) rfl rfl (hb hby d4_35)
  have c35 : ∀ t, Steps p.tables e below (T34.setTop (mkF m 38 #[.val (.ref a1), .val (.double pv), .second, .val (.double b1), .second] [(.double pq), (.ref a1)])) t → Steps p.tables e below (s₁.setTop (entryFrame m #[(.ref a1), (.double pv)] 5)) t := fun t k => c33 t (st34 _ k)
  have c36 : ∀ t, Steps p.tables e below (T34.setTop (mkF m 41 #[.val (.ref a1), .val (.double pv), .second, .val (.double b1), .second] [(.ref a1), (.double pv), (.double b1), (.double pq), (.ref a1)])) t → Steps p.tables e below (s₁.setTop (entryFrame m #[(.ref a1), (.double pv)] 5)) t := fun t k => c35 t (by
    show Steps p.tables e below (T34.setTop (mkF m 38 #[.val (.ref a1), .val (.double pv), .second, .val (.double b1), .second] [(.double pq), (.ref a1)])) _
    refine XS.dloadN X34.here hx rfl (hb hby d4_38) rfl ?_
    show Steps p.tables e below (T34.setTop (mkF m 39 #[.val (.ref a1), .val (.double pv), .second, .val (.double b1), .second] [(.double b1), (.double pq), (.ref a1)])) _
    refine XS.dloadN X34.here hx rfl (hb hby d4_39) rfl ?_
    show Steps p.tables e below (T34.setTop (mkF m 40 #[.val (.ref a1), .val (.double pv), .second, .val (.double b1), .second] [(.double pv), (.double b1), (.double pq), (.ref a1)])) _
    refine XS.aloadN X34.here hx rfl (hb hby d4_40) rfl rfl ?_
    show Steps p.tables e below (T34.setTop (mkF m 41 #[.val (.ref a1), .val (.double pv), .second, .val (.double b1), .second] [(.ref a1), (.double pv), (.double b1), (.double pq), (.ref a1)])) _
    exact k)
  obtain ⟨T37, X37, e37, st37⟩ := getF X34 hx hZ hown (host := "") (Or.inl (hw _ (List.mem_of_getElem? (i := 27) rfl))) Via.refl e34 F25 (g := (mkF m 41 #[.val (.ref a1), .val (.double pv), .second, .val (.double b1), .second] [(.ref a1), (.double pv), (.double b1), (.double pq), (.ref a1)])) rfl rfl (hb hby d4_41)
  have c38 : ∀ t, Steps p.tables e below (T37.setTop (mkF m 44 #[.val (.ref a1), .val (.double pv), .second, .val (.double b1), .second] [(.double nm), (.double pv), (.double b1), (.double pq), (.ref a1)])) t → Steps p.tables e below (s₁.setTop (entryFrame m #[(.ref a1), (.double pv)] 5)) t := fun t k => c36 t (st37 _ k)
  have c39 : ∀ t, Steps p.tables e below (T37.setTop (mkF m 47 #[.val (.ref a1), .val (.double pv), .second, .val (.double b1), .second] [(.double nq), (.ref a1)])) t → Steps p.tables e below (s₁.setTop (entryFrame m #[(.ref a1), (.double pv)] 5)) t := fun t k => c38 t (by
    show Steps p.tables e below (T37.setTop (mkF m 44 #[.val (.ref a1), .val (.double pv), .second, .val (.double b1), .second] [(.double nm), (.double pv), (.double b1), (.double pq), (.ref a1)])) _
    refine XS.dsubS X37.here hx rfl (hb hby d4_44) rfl (ht1 ▸ n_t1) ht1 ?_
    show Steps p.tables e below (T37.setTop (mkF m 45 #[.val (.ref a1), .val (.double pv), .second, .val (.double b1), .second] [(.double t1), (.double b1), (.double pq), (.ref a1)])) _
    refine XS.dmulS X37.here hx rfl (hb hby d4_45) rfl (hu1 ▸ n_u1) hu1 ?_
    show Steps p.tables e below (T37.setTop (mkF m 46 #[.val (.ref a1), .val (.double pv), .second, .val (.double b1), .second] [(.double u1), (.double pq), (.ref a1)])) _
    refine XS.daddS X37.here hx rfl (hb hby d4_46) rfl (hnq ▸ n_nq) hnq ?_
    show Steps p.tables e below (T37.setTop (mkF m 47 #[.val (.ref a1), .val (.double pv), .second, .val (.double b1), .second] [(.double nq), (.ref a1)])) _
    exact k)
  obtain ⟨T40, h40, X40, e40, W40, st40⟩ := putF X37 hx hZ hown (host := "") (Or.inl (hw _ (List.mem_of_getElem? (i := 29) rfl))) Via.refl e37 F28 F26 (Or.inl (hw _ (List.mem_of_getElem? (i := 30) rfl))) (hw _ (List.mem_of_getElem? (i := 1) rfl)) (ty := .double) (by decide) rfl rfl (g := (mkF m 47 #[.val (.ref a1), .val (.double pv), .second, .val (.double b1), .second] [(.double nq), (.ref a1)])) rfl rfl (hb hby d4_47)
  have F41 : Fld Z h40 a1 "com/example/streamgrove/streamgrove/learners/RunningMoments" "squaredDeviations" "D" (.double nq) := F28.same W40
  have F42 : Exa Z h40 a1 "com/example/streamgrove/streamgrove/learners/RunningMoments" := (F26.wr W40)
  have F43 : Fld Z h40 a1 "com/example/streamgrove/streamgrove/learners/RunningMoments" "count" "J" (.long (cn + (1 : Int64))) := (F27.other W40 (Or.inr (slot_ne (Or.inl (hw _ (List.mem_of_getElem? (i := 21) rfl))) (Or.inl (hw _ (List.mem_of_getElem? (i := 30) rfl))) (by decide) (t := .long) (t' := .double) (by decide) (by decide))))
  have F44 : Fld Z h40 a1 "com/example/streamgrove/streamgrove/learners/RunningMoments" "mean" "D" (.double nm) := (F25.other W40 (Or.inr (slot_ne (Or.inl (hw _ (List.mem_of_getElem? (i := 28) rfl))) (Or.inl (hw _ (List.mem_of_getElem? (i := 30) rfl))) (by decide) (t := .double) (t' := .double) (by decide) (by decide))))
  have F45 : Fld Z h40 a1 "com/example/streamgrove/streamgrove/learners/RunningMoments" "smallest" "D" (.double ps) := (F29.other W40 (Or.inr (slot_ne (Or.inl (hw _ (List.mem_of_getElem? (i := 11) rfl))) (Or.inl (hw _ (List.mem_of_getElem? (i := 30) rfl))) (by decide) (t := .double) (t' := .double) (by decide) (by decide))))
  have F46 : Fld Z h40 a1 "com/example/streamgrove/streamgrove/learners/RunningMoments" "largest" "D" (.double pl) := (F30.other W40 (Or.inr (slot_ne (Or.inl (hw _ (List.mem_of_getElem? (i := 14) rfl))) (Or.inl (hw _ (List.mem_of_getElem? (i := 30) rfl))) (by decide) (t := .double) (t' := .double) (by decide) (by decide))))
  have N40 := Fr.snoc X40 N24 g_a1
  have K47 : Keep h0 h40 [a1] := K31.wr W40 (Or.inl (List.mem_of_getElem? (i := 0) rfl))
  have c48 : ∀ t, Steps p.tables e below (T40.setTop (mkF m 50 #[.val (.ref a1), .val (.double pv), .second, .val (.double b1), .second] [])) t → Steps p.tables e below (s₁.setTop (entryFrame m #[(.ref a1), (.double pv)] 5)) t := fun t k => c39 t (st40 _ k)
  have c49 : ∀ t, Steps p.tables e below (T40.setTop (mkF m 52 #[.val (.ref a1), .val (.double pv), .second, .val (.double b1), .second] [(.ref a1), (.ref a1)])) t → Steps p.tables e below (s₁.setTop (entryFrame m #[(.ref a1), (.double pv)] 5)) t := fun t k => c48 t (by
    show Steps p.tables e below (T40.setTop (mkF m 50 #[.val (.ref a1), .val (.double pv), .second, .val (.double b1), .second] [])) _
    refine XS.aloadN X40.here hx rfl (hb hby d4_50) rfl rfl ?_
    show Steps p.tables e below (T40.setTop (mkF m 51 #[.val (.ref a1), .val (.double pv), .second, .val (.double b1), .second] [(.ref a1)])) _
    refine XS.aloadN X40.here hx rfl (hb hby d4_51) rfl rfl ?_
    show Steps p.tables e below (T40.setTop (mkF m 52 #[.val (.ref a1), .val (.double pv), .second, .val (.double b1), .second] [(.ref a1), (.ref a1)])) _
    exact k)
  obtain ⟨T50, X50, e50, st50⟩ := getF X40 hx hZ hown (host := "") (Or.inl (hw _ (List.mem_of_getElem? (i := 10) rfl))) Via.refl e40 F45 (g := (mkF m 52 #[.val (.ref a1), .val (.double pv), .second, .val (.double b1), .second] [(.ref a1), (.ref a1)])) rfl rfl (hb hby d4_52)
  have c51 : ∀ t, Steps p.tables e below (T50.setTop (mkF m 55 #[.val (.ref a1), .val (.double pv), .second, .val (.double b1), .second] [(.double ps), (.ref a1)])) t → Steps p.tables e below (s₁.setTop (entryFrame m #[(.ref a1), (.double pv)] 5)) t := fun t k => c49 t (st50 _ k)
  have c52 : ∀ t, Steps p.tables e below (T50.setTop (mkF m 56 #[.val (.ref a1), .val (.double pv), .second, .val (.double b1), .second] [(.double pv), (.double ps), (.ref a1)])) t → Steps p.tables e below (s₁.setTop (entryFrame m #[(.ref a1), (.double pv)] 5)) t := fun t k => c51 t (by
    show Steps p.tables e below (T50.setTop (mkF m 55 #[.val (.ref a1), .val (.double pv), .second, .val (.double b1), .second] [(.double ps), (.ref a1)])) _
    refine XS.dloadN X50.here hx rfl (hb hby d4_55) rfl ?_
    show Steps p.tables e below (T50.setTop (mkF m 56 #[.val (.ref a1), .val (.double pv), .second, .val (.double b1), .second] [(.double pv), (.double ps), (.ref a1)])) _
    exact k)
  obtain ⟨T53, X53, e53, st53⟩ := natS X50 hx hZ hown (hw _ (List.mem_of_getElem? (i := 31) rfl)) (hw _ (List.mem_of_getElem? (i := 32) rfl)) (hw _ (List.mem_of_getElem? (i := 33) rfl)) (hw _ (List.mem_of_getElem? (i := 34) rfl)) (by decide) e50 (W := 1) (F := fun a' => a' = #[(.double ps), (.double pv)]) (val := .double ns) (val' := .double ns) (fun hc => (Jvm.Free.NT.Min64.pays hc (mvT hZ (hw _ (List.mem_of_getElem? (i := 32) rfl))) (by decide) (by decide)).mono (fun A a' hp => ⟨(ps, pv), hp.2.2, n_ps, n_pv⟩) (fun A a' v B hp hq => ⟨(hq.2 (ps, pv) ⟨hp.2.2, n_ps, n_pv⟩).trans (congrArg (fun z => some (Value.double z)) hns), hq.1⟩)) (g := (mkF m 56 #[.val (.ref a1), .val (.double pv), .second, .val (.double b1), .second] [(.double pv), (.double ps), (.ref a1)])) rfl (by rw [hml]; rfl) (argsL := [(.double ps), (.double pv)]) (rest := [(.ref a1)]) (lenOf pd__DD_D rfl) rfl (by show 2 * 0 + _ ≤ _; exact Nat.le_of_eq rfl) (hb hby d4_56) (by decide) (by decide) rfl rfl
  have c54 : ∀ t, Steps p.tables e below (T53.setTop (mkF m 59 #[.val (.ref a1), .val (.double pv), .second, .val (.double b1), .second] [(.double ns), (.ref a1)])) t → Steps p.tables e below (s₁.setTop (entryFrame m #[(.ref a1), (.double pv)] 5)) t := fun t k => c52 t (st53 _ k)
  obtain ⟨T55, h55, X55, e55, W55, st55⟩ := putF X53 hx hZ hown (host := "") (Or.inl (hw _ (List.mem_of_getElem? (i := 10) rfl))) Via.refl e53 F45 F42 (Or.inl (hw _ (List.mem_of_getElem? (i := 11) rfl))) (hw _ (List.mem_of_getElem? (i := 1) rfl)) (ty := .double) (by decide) rfl rfl (g := (mkF m 59 #[.val (.ref a1), .val (.double pv), .second, .val (.double b1), .second] [(.double ns), (.ref a1)])) rfl rfl (hb hby d4_59)
  have F56 : Fld Z h55 a1 "com/example/streamgrove/streamgrove/learners/RunningMoments" "smallest" "D" (.double ns) := F45.same W55
  have F57 : Exa Z h55 a1 "com/example/streamgrove/streamgrove/learners/RunningMoments" := (F42.wr W55)
  have F58 : Fld Z h55 a1 "com/example/streamgrove/streamgrove/learners/RunningMoments" "count" "J" (.long (cn + (1 : Int64))) := (F43.other W55 (Or.inr (slot_ne (Or.inl (hw _ (List.mem_of_getElem? (i := 21) rfl))) (Or.inl (hw _ (List.mem_of_getElem? (i := 11) rfl))) (by decide) (t := .long) (t' := .double) (by decide) (by decide))))
  have F59 : Fld Z h55 a1 "com/example/streamgrove/streamgrove/learners/RunningMoments" "mean" "D" (.double nm) := (F44.other W55 (Or.inr (slot_ne (Or.inl (hw _ (List.mem_of_getElem? (i := 28) rfl))) (Or.inl (hw _ (List.mem_of_getElem? (i := 11) rfl))) (by decide) (t := .double) (t' := .double) (by decide) (by decide))))
  have F60 : Fld Z h55 a1 "com/example/streamgrove/streamgrove/learners/RunningMoments" "squaredDeviations" "D" (.double nq) := (F41.other W55 (Or.inr (slot_ne (Or.inl (hw _ (List.mem_of_getElem? (i := 30) rfl))) (Or.inl (hw _ (List.mem_of_getElem? (i := 11) rfl))) (by decide) (t := .double) (t' := .double) (by decide) (by decide))))
  have F61 : Fld Z h55 a1 "com/example/streamgrove/streamgrove/learners/RunningMoments" "largest" "D" (.double pl) := (F46.other W55 (Or.inr (slot_ne (Or.inl (hw _ (List.mem_of_getElem? (i := 14) rfl))) (Or.inl (hw _ (List.mem_of_getElem? (i := 11) rfl))) (by decide) (t := .double) (t' := .double) (by decide) (by decide))))
  have N55 := Fr.snoc X55 N40 g_a1
  have K62 : Keep h0 h55 [a1] := K47.wr W55 (Or.inl (List.mem_of_getElem? (i := 0) rfl))
  have c63 : ∀ t, Steps p.tables e below (T55.setTop (mkF m 62 #[.val (.ref a1), .val (.double pv), .second, .val (.double b1), .second] [])) t → Steps p.tables e below (s₁.setTop (entryFrame m #[(.ref a1), (.double pv)] 5)) t := fun t k => c54 t (st55 _ k)
  have c64 : ∀ t, Steps p.tables e below (T55.setTop (mkF m 64 #[.val (.ref a1), .val (.double pv), .second, .val (.double b1), .second] [(.ref a1), (.ref a1)])) t → Steps p.tables e below (s₁.setTop (entryFrame m #[(.ref a1), (.double pv)] 5)) t := fun t k => c63 t (by
    show Steps p.tables e below (T55.setTop (mkF m 62 #[.val (.ref a1), .val (.double pv), .second, .val (.double b1), .second] [])) _
    refine XS.aloadN X55.here hx rfl (hb hby d4_62) rfl rfl ?_
    show Steps p.tables e below (T55.setTop (mkF m 63 #[.val (.ref a1), .val (.double pv), .second, .val (.double b1), .second] [(.ref a1)])) _
    refine XS.aloadN X55.here hx rfl (hb hby d4_63) rfl rfl ?_
    show Steps p.tables e below (T55.setTop (mkF m 64 #[.val (.ref a1), .val (.double pv), .second, .val (.double b1), .second] [(.ref a1), (.ref a1)])) _
    exact k)
  obtain ⟨T65, X65, e65, st65⟩ := getF X55 hx hZ hown (host := "") (Or.inl (hw _ (List.mem_of_getElem? (i := 13) rfl))) Via.refl e55 F61 (g := (mkF m 64 #[.val (.ref a1), .val (.double pv), .second, .val (.double b1), .second] [(.ref a1), (.ref a1)])) rfl rfl (hb hby d4_64)
  have c66 : ∀ t, Steps p.tables e below (T65.setTop (mkF m 67 #[.val (.ref a1), .val (.double pv), .second, .val (.double b1), .second] [(.double pl), (.ref a1)])) t → Steps p.tables e below (s₁.setTop (entryFrame m #[(.ref a1), (.double pv)] 5)) t := fun t k => c64 t (st65 _ k)
  have c67 : ∀ t, Steps p.tables e below (T65.setTop (mkF m 68 #[.val (.ref a1), .val (.double pv), .second, .val (.double b1), .second] [(.double pv), (.double pl), (.ref a1)])) t → Steps p.tables e below (s₁.setTop (entryFrame m #[(.ref a1), (.double pv)] 5)) t := fun t k => c66 t (by
    show Steps p.tables e below (T65.setTop (mkF m 67 #[.val (.ref a1), .val (.double pv), .second, .val (.double b1), .second] [(.double pl), (.ref a1)])) _
    refine XS.dloadN X65.here hx rfl (hb hby d4_67) rfl ?_
    show Steps p.tables e below (T65.setTop (mkF m 68 #[.val (.ref a1), .val (.double pv), .second, .val (.double b1), .second] [(.double pv), (.double pl), (.ref a1)])) _
    exact k)
  obtain ⟨T68, X68, e68, st68⟩ := natS X65 hx hZ hown (hw _ (List.mem_of_getElem? (i := 35) rfl)) (hw _ (List.mem_of_getElem? (i := 36) rfl)) (hw _ (List.mem_of_getElem? (i := 33) rfl)) (hw _ (List.mem_of_getElem? (i := 37) rfl)) (by decide) e65 (W := 1) (F := fun a' => a' = #[(.double pl), (.double pv)]) (val := .double nl) (val' := .double nl) (fun hc => (Jvm.Free.NT.Max64.pays hc (mvT hZ (hw _ (List.mem_of_getElem? (i := 36) rfl))) (by decide) (by decide)).mono (fun A a' hp => ⟨(pl, pv), hp.2.2, n_pl, n_pv⟩) (fun A a' v B hp hq => ⟨(hq.2 (pl, pv) ⟨hp.2.2, n_pl, n_pv⟩).trans (congrArg (fun z => some (Value.double z)) hnl), hq.1⟩)) (g := (mkF m 68 #[.val (.ref a1), .val (.double pv), .second, .val (.double b1), .second] [(.double pv), (.double pl), (.ref a1)])) rfl (by rw [hml]; rfl) (argsL := [(.double pl), (.double pv)]) (rest := [(.ref a1)]) (lenOf pd__DD_D rfl) rfl (by show 2 * 0 + _ ≤ _; exact Nat.le_of_eq rfl) (hb hby d4_68) (by decide) (by decide) rfl rfl
  have c69 : ∀ t, Steps p.tables e below (T68.setTop (mkF m 71 #[.val (.ref a1), .val (.double pv), .second, .val (.double b1), .second] [(.double nl), (.ref a1)])) t → Steps p.tables e below (s₁.setTop (entryFrame m #[(.ref a1), (.double pv)] 5)) t := fun t k => c67 t (st68 _ k)
  obtain ⟨T70, h70, X70, e70, W70, st70⟩ := putF X68 hx hZ hown (host := "") (Or.inl (hw _ (List.mem_of_getElem? (i := 13) rfl))) Via.refl e68 F61 F57 (Or.inl (hw _ (List.mem_of_getElem? (i := 14) rfl))) (hw _ (List.mem_of_getElem? (i := 1) rfl)) (ty := .double) (by decide) rfl rfl (g := (mkF m 71 #[.val (.ref a1), .val (.double pv), .second, .val (.double b1), .second] [(.double nl), (.ref a1)])) rfl rfl (hb hby d4_71)
  have F71 : Fld Z h70 a1 "com/example/streamgrove/streamgrove/learners/RunningMoments" "largest" "D" (.double nl) := F61.same W70
  have F72 : Exa Z h70 a1 "com/example/streamgrove/streamgrove/learners/RunningMoments" := (F57.wr W70)
  have F73 : Fld Z h70 a1 "com/example/streamgrove/streamgrove/learners/RunningMoments" "count" "J" (.long (cn + (1 : Int64))) := (F58.other W70 (Or.inr (slot_ne (Or.inl (hw _ (List.mem_of_getElem? (i := 21) rfl))) (Or.inl (hw _ (List.mem_of_getElem? (i := 14) rfl))) (by decide) (t := .long) (t' := .double) (by decide) (by decide))))
  have F74 : Fld Z h70 a1 "com/example/streamgrove/streamgrove/learners/RunningMoments" "mean" "D" (.double nm) := (F59.other W70 (Or.inr (slot_ne (Or.inl (hw _ (List.mem_of_getElem? (i := 28) rfl))) (Or.inl (hw _ (List.mem_of_getElem? (i := 14) rfl))) (by decide) (t := .double) (t' := .double) (by decide) (by decide))))
  have F75 : Fld Z h70 a1 "com/example/streamgrove/streamgrove/learners/RunningMoments" "squaredDeviations" "D" (.double nq) := (F60.other W70 (Or.inr (slot_ne (Or.inl (hw _ (List.mem_of_getElem? (i := 30) rfl))) (Or.inl (hw _ (List.mem_of_getElem? (i := 14) rfl))) (by decide) (t := .double) (t' := .double) (by decide) (by decide))))
  have F76 : Fld Z h70 a1 "com/example/streamgrove/streamgrove/learners/RunningMoments" "smallest" "D" (.double ns) := (F56.other W70 (Or.inr (slot_ne (Or.inl (hw _ (List.mem_of_getElem? (i := 11) rfl))) (Or.inl (hw _ (List.mem_of_getElem? (i := 14) rfl))) (by decide) (t := .double) (t' := .double) (by decide) (by decide))))
  have N70 := Fr.snoc X70 N55 g_a1
  have K77 : Keep h0 h70 [a1] := K62.wr W70 (Or.inl (List.mem_of_getElem? (i := 0) rfl))
  have c78 : ∀ t, Steps p.tables e below (T70.setTop (mkF m 74 #[.val (.ref a1), .val (.double pv), .second, .val (.double b1), .second] [])) t → Steps p.tables e below (s₁.setTop (entryFrame m #[(.ref a1), (.double pv)] 5)) t := fun t k => c69 t (st70 _ k)
  obtain ⟨fs, hr, hrun, hended, hW, hsame⟩ := X70.leave (v := none) (fun _ => rfl)
  refine ⟨_, _, pre0 _ (c78 _ (X70.returnOut hx Bd.returns (hb hby d4_74) hr)), hrun, hended, _, _, rfl, ?_, ⟨_, rfl⟩, hW, hsame.mono (by decide) (by decide)⟩
  show Q_4 Z a1 pv cn pm pq ps pl b1 q1 nm t1 u1 nq ns nl h0 n0 _ T70.heap _
  rw [e70]
  exact ⟨rfl, N70, K77, F72, F73, F74, F75, F76, F71⟩
theorem toNaN {a : UInt64} (h : Core.DFin a) : FP.dIsNaN a = false := (Core.notNaN_iff a).mpr (notNan h)
theorem pick_nan {g : Bool} {a b : UInt64} (ha : FP.dIsNaN a = false) (hb : FP.dIsNaN b = false) : FP.dIsNaN (Jvm.Native.java_lang_Math.nans.pick64 g a b) = false := by
  unfold Jvm.Native.java_lang_Math.nans.pick64
  split <;> split <;> assumption
theorem two64 (n : Int) (k : Nat) (a : UInt64) (h : DS n k a) : DS (2 * n) (k + 1) a := by
  have := h.up 1; rwa [Int.pow_one, Int.mul_comm] at this
/-- what one number more does to a mean and a sum, all in halves: N numbers with the mean M / 2, the sum Q / 2, and the number v -/
theorem add_k {v M Q N B : Int} {pv pm pq cN : UInt64} (hv : DS v 0 pv) (hm : DS M 1 pm) (hq : DS Q 1 pq) (hN : DS N 0 cN) (pN : 0 < N) (hB : 2 * v - M = N * B)
    (bv : v.natAbs ≤ 2 ^ 21) (bM : M.natAbs ≤ 2 ^ 22) (bQ : Q.natAbs ≤ 2 ^ 50) (bB : B.natAbs ≤ 2 ^ 24) (U_ : Int) (hU : (2 * v - M) * (2 * v - (M + B)) = 2 * U_) :
    ∃ b1 q1 nm t1 u1 nq, FP.dsub pv pm = b1 ∧ FP.ddiv b1 cN = q1 ∧ FP.dadd pm q1 = nm ∧ FP.dsub pv nm = t1 ∧ FP.dmul b1 t1 = u1 ∧ FP.dadd pq u1 = nq ∧ Jvm.Free.Fl.NoNaN64 b1 ∧ Jvm.Free.Fl.NoNaN64 q1 ∧ Jvm.Free.Fl.NoNaN64 nm ∧ Jvm.Free.Fl.NoNaN64 t1 ∧ Jvm.Free.Fl.NoNaN64 u1 ∧ Jvm.Free.Fl.NoNaN64 nq ∧ DS (M + B) 1 nm ∧ DS (Q + U_) 1 nq := by
  have hv2 := two64 _ _ _ hv
  have d1 : DS (2 * v - M) 1 (FP.dsub pv pm) := hv2.sub hm (by omega) (by decide)
  have d2 : DS B 1 (FP.ddiv (FP.dsub pv pm) cN) := d1.div hN pN (by rw [hB, Int.pow_zero, Int.mul_one, Int.mul_comm N B]) (by omega) (by decide)
  have d3 : DS (M + B) 1 (FP.dadd pm (FP.ddiv (FP.dsub pv pm) cN)) := hm.add d2 (by omega) (by decide)
  have d4 : DS (2 * v - (M + B)) 1 (FP.dsub pv (FP.dadd pm (FP.ddiv (FP.dsub pv pm) cN))) := hv2.sub d3 (by omega) (by decide)
  have bU : ((2 * v - M) * (2 * v - (M + B))).natAbs ≤ 2 ^ 23 * 2 ^ 26 := by
    rw [Int.natAbs_mul]; exact Nat.mul_le_mul (by omega) (by omega)
  have d5 := d1.mul d4 (by omega) (by decide)
  have d5' : DS U_ 1 (FP.dmul (FP.dsub pv pm) (FP.dsub pv (FP.dadd pm (FP.ddiv (FP.dsub pv pm) cN)))) := ⟨d5.1, by
    have e := d5.2
    rw [hU] at e
    have : zv (FP.dmul (FP.dsub pv pm) (FP.dsub pv (FP.dadd pm (FP.ddiv (FP.dsub pv pm) cN)))) * 2 ^ 1 * 2 = U_ * U * 2 := by
      rw [Int.mul_assoc, show (2 : Int) ^ 1 * 2 = 2 ^ (1 + 1) by decide, e, Int.mul_comm 2 U_, Int.mul_assoc, Int.mul_comm 2 U, ← Int.mul_assoc]
    omega⟩
  have bU2 : U_.natAbs ≤ 2 ^ 49 := by rw [hU] at bU; omega
  have d6 : DS (Q + U_) 1 (FP.dadd pq (FP.dmul (FP.dsub pv pm) (FP.dsub pv (FP.dadd pm (FP.ddiv (FP.dsub pv pm) cN))))) := hq.add d5' (by omega) (by decide)
  exact ⟨_, _, _, _, _, _, rfl, rfl, rfl, rfl, rfl, rfl, d1.noNaN, d2.noNaN, d3.noNaN, d4.noNaN, d5.noNaN, d6.noNaN, d3, d6⟩
theorem shr_k (x : Int32) {k : Nat} (s : Int32) (hs : ((s &&& 31).toBitVec.smod 32).toNat = k) {K : Nat} (hK : k + K = 31) : (x >>> (s &&& 31)).toInt64.toInt = x.toInt / 2 ^ k ∧ -2 ^ K ≤ x.toInt / 2 ^ k ∧ x.toInt / 2 ^ k < 2 ^ K := by
  have h1 := Int32.le_toInt x; have h2 := Int32.toInt_lt x
  refine ⟨by rw [Kit.i64_of_i32, Kit.i32_shr x _ hs], ?_, ?_⟩
  · refine Int.le_ediv_of_mul_le (pow_pos k) ?_
    rw [Int.neg_mul, ← Int.pow_add, show K + k = 31 by omega]; omega
  · refine Int.ediv_lt_of_lt_mul (pow_pos k) ?_
    rw [← Int.pow_add, show K + k = 31 by omega]; omega
theorem zero_h : DS 0 1 (0 : UInt64) := DS.zero.up 1
theorem zero_h' (k : Nat) {n : Int} {a : UInt64} (h : DS n k a) (hn : n = 0) : zv a = 0 := by
  subst hn; have e := h.2; rw [Int.zero_mul] at e
  rcases Int.mul_eq_zero.mp e with q | q
  · exact q
  · have := pow_pos k; omega
theorem sq_b {x : Int} {k : Nat} (h0 : -2 ^ k ≤ x) (h1 : x ≤ 2 ^ k) : 0 ≤ x * x ∧ x * x ≤ 2 ^ (k + k) := by
  have : (x * x).natAbs ≤ 2 ^ k * 2 ^ k := by
    have p : ((2 ^ k : Nat) : Int) = 2 ^ k := by rw [Int.natCast_pow]; rfl
    rw [Int.natAbs_mul]; exact Nat.mul_le_mul (by omega) (by omega)
  have nn : 0 ≤ x * x := by rcases Int.le_total 0 x with q | q
                            · exact Int.mul_nonneg q q
                            · exact Int.mul_nonneg_of_nonpos_of_nonpos q q
  refine ⟨nn, ?_⟩
  have p : ((2 ^ k * 2 ^ k : Nat) : Int) = 2 ^ (k + k) := by rw [← Nat.pow_add, Int.natCast_pow]; rfl
  omega
theorem two_c : DS 2 0 (4611686018427387904 : UInt64) := ⟨by rw [Core.fin_bits]; decide, by decide +kernel⟩
theorem ef_0 (m : MethodId) (p1 : Int32) (p2 : Int32) (p3 : Int32) : entryFrame m #[(.int p1), (.int p2), (.int p3)] maxLocals = (mkF m 0 #[.val (.int p1), .val (.int p2), .val (.int p3), .unset, .unset, .unset, .unset, .unset, .unset, .unset, .unset] []) := by first | (simp [entryFrame, mkF, argsToLocals, Value.category, maxLocals]; done) | rfl
def Q_0 (Z : State) (p1 : Int32) (p2 : Int32) (p3 : Int32) (h0 : Heap) (n0 : Nat) (v : Option Value) (h : Heap) (L : List Loc) : Prop := v = some (.int 1) ∧ Fr n0 L
set_option maxRecDepth 65536 in
set_option maxHeartbeats 2000000 in
theorem rm_0 (l : Launch) (Z : State) (a0 : Array Value) (hw : ∀ d ∈ tables_1, d.before a0 Z = true) (ws : List Jvm.Cond) (p1 : Int32) (p2 : Int32) (p3 : Int32) (h0 : Heap) (n0 : Nat) (Z0 : n0 ≤ h0.size)  :
    MetFree l x (head1 (Jvm.Cond.code x code maxLocals ret :: ws) room_1) (fun aa UU => aa = #[(.int p1), (.int p2), (.int p3)] ∧ Z.Warmed39 UU.vm ∧ UU.heap = h0) (fun _ _ _ _ _ => True) (fun _ UU oo UU' => ∃ v L, oo = .returned v ∧ Q_0 Z p1 p2 p3 h0 n0 v UU'.heap L ∧ FrameEnd UU oo UU' L 16 128) := by
  refine MetFree.of_bodySF (plainFor_of_name pn_com_example_streamgrove_streamgrove_learners_RunningMomentsVariancePinLaw) hisR ?_
  intro p e s m args below meth c s₁ Bd hml0 hP hK
  obtain ⟨rfl, hZ, hh⟩ := hP
  have hx := Bd.exec
  have hby := Bd.bytes
  have hml : c.maxLocals = 11 := hml0
  have hown : s.vm.findClass "com/example/streamgrove/streamgrove/learners/RunningMomentsVariancePinLaw" = some m.cls := findClass_of_methodNamed Bd.named
  have hnaM := (name_of_methodNamed Bd.named Bd.method).1
  have X0 : Stand p l e room_1 s m #[(.int p1), (.int p2), (.int p3)] below meth c s₁ [] 0 0 := Stand.of_body Bd
  have e0 : s₁.heap = h0 := by rw [← hh, Bd.state]; rfl
  have N0 := Fr.nil n0
  have pre0 : ∀ t, Steps p.tables e below (s₁.setTop (entryFrame m #[(.int p1), (.int p2), (.int p3)] maxLocals)) t → Steps p.tables e below (s₁.setTop (entryFrame m #[(.int p1), (.int p2), (.int p3)] maxLocals)) t := fun t k => k
  have c0 : ∀ t, Steps p.tables e below (s₁.setTop (mkF m 0 #[.val (.int p1), .val (.int p2), .val (.int p3), .unset, .unset, .unset, .unset, .unset, .unset, .unset, .unset] [])) t → Steps p.tables e below (s₁.setTop (entryFrame m #[(.int p1), (.int p2), (.int p3)] maxLocals)) t := fun t k => castTop (ef_0 m p1 p2 p3) k
  obtain ⟨md, hmd⟩ : ∃ v : Int32, v = (p1 &&& (3 : Int32)) := ⟨_, rfl⟩
  have c1 : ∀ t, Steps p.tables e below (s₁.setTop (mkF m 4 #[.val (.int p1), .val (.int p2), .val (.int p3), .val (.int md), .unset, .unset, .unset, .unset, .unset, .unset, .unset] [])) t → Steps p.tables e below (s₁.setTop (entryFrame m #[(.int p1), (.int p2), (.int p3)] maxLocals)) t := fun t k => c0 t (by
    rw [hmd] at k
    show Steps p.tables e below (s₁.setTop (mkF m 0 #[.val (.int p1), .val (.int p2), .val (.int p3), .unset, .unset, .unset, .unset, .unset, .unset, .unset, .unset] [])) _
    refine XS.iloadN X0.here hx rfl (hb hby at_0) rfl ?_
    show Steps p.tables e below (s₁.setTop (mkF m 1 #[.val (.int p1), .val (.int p2), .val (.int p3), .unset, .unset, .unset, .unset, .unset, .unset, .unset, .unset] [(.int p1)])) _
    refine XS.iconst X0.here hx rfl (hb hby at_1) ?_
    show Steps p.tables e below (s₁.setTop (mkF m 2 #[.val (.int p1), .val (.int p2), .val (.int p3), .unset, .unset, .unset, .unset, .unset, .unset, .unset, .unset] [(.int (3 : Int32)), (.int p1)])) _
    refine XS.iand X0.here hx rfl (hb hby at_2) rfl ?_
    show Steps p.tables e below (s₁.setTop (mkF m 3 #[.val (.int p1), .val (.int p2), .val (.int p3), .unset, .unset, .unset, .unset, .unset, .unset, .unset, .unset] [(.int (p1 &&& (3 : Int32)))])) _
    refine XS.istoreN X0.here hx rfl (hb hby at_3) rfl (l' := #[.val (.int p1), .val (.int p2), .val (.int p3), .val (.int (p1 &&& (3 : Int32))), .unset, .unset, .unset, .unset, .unset, .unset, .unset]) rfl ?_
    show Steps p.tables e below (s₁.setTop (mkF m 4 #[.val (.int p1), .val (.int p2), .val (.int p3), .val (.int (p1 &&& (3 : Int32))), .unset, .unset, .unset, .unset, .unset, .unset, .unset] [])) _
    exact k)
  obtain ⟨aa, haa⟩ : ∃ v : Int64, v = ((p2 >>> ((12 : Int32) &&& 31)).toInt64) := ⟨_, rfl⟩
  have c2 : ∀ t, Steps p.tables e below (s₁.setTop (mkF m 11 #[.val (.int p1), .val (.int p2), .val (.int p3), .val (.int md), .val (.long aa), .second, .unset, .unset, .unset, .unset, .unset] [])) t → Steps p.tables e below (s₁.setTop (entryFrame m #[(.int p1), (.int p2), (.int p3)] maxLocals)) t := fun t k => c1 t (by
    rw [haa] at k
    show Steps p.tables e below (s₁.setTop (mkF m 4 #[.val (.int p1), .val (.int p2), .val (.int p3), .val (.int md), .unset, .unset, .unset, .unset, .unset, .unset, .unset] [])) _
    refine XS.iloadN X0.here hx rfl (hb hby at_4) rfl ?_
    show Steps p.tables e below (s₁.setTop (mkF m 5 #[.val (.int p1), .val (.int p2), .val (.int p3), .val (.int md), .unset, .unset, .unset, .unset, .unset, .unset, .unset] [(.int p2)])) _
    refine XS.bipush X0.here hx rfl (hb hby at_5) ?_
    show Steps p.tables e below (s₁.setTop (mkF m 7 #[.val (.int p1), .val (.int p2), .val (.int p3), .val (.int md), .unset, .unset, .unset, .unset, .unset, .unset, .unset] [(.int (12 : Int32)), (.int p2)])) _
    refine XT.ishr X0.here hx rfl (hb hby at_7) rfl ?_
    show Steps p.tables e below (s₁.setTop (mkF m 8 #[.val (.int p1), .val (.int p2), .val (.int p3), .val (.int md), .unset, .unset, .unset, .unset, .unset, .unset, .unset] [(.int (p2 >>> ((12 : Int32) &&& 31)))])) _
    refine XT.i2l X0.here hx rfl (hb hby at_8) rfl ?_
    show Steps p.tables e below (s₁.setTop (mkF m 9 #[.val (.int p1), .val (.int p2), .val (.int p3), .val (.int md), .unset, .unset, .unset, .unset, .unset, .unset, .unset] [(.long ((p2 >>> ((12 : Int32) &&& 31)).toInt64))])) _
    refine XT.lstore X0.here hx rfl (hb hby at_9) rfl (l' := #[.val (.int p1), .val (.int p2), .val (.int p3), .val (.int md), .val (.long ((p2 >>> ((12 : Int32) &&& 31)).toInt64)), .second, .unset, .unset, .unset, .unset, .unset]) rfl ?_
    show Steps p.tables e below (s₁.setTop (mkF m 11 #[.val (.int p1), .val (.int p2), .val (.int p3), .val (.int md), .val (.long ((p2 >>> ((12 : Int32) &&& 31)).toInt64)), .second, .unset, .unset, .unset, .unset, .unset] [])) _
    exact k)
  obtain ⟨va, va1, va2⟩ := shr_k p2 12 (k := 12) (by decide) (K := 19) (by decide)
  rw [← haa] at va
  have vA : -2 ^ 19 ≤ aa.toInt ∧ aa.toInt < 2 ^ 19 := by omega
  obtain ⟨T3, h3, X3, e3, E3, A3, D3, -, st3⟩ := newO X0 hx hZ hown (hw _ (List.mem_of_getElem? (i := 0) rfl)) (hw _ (List.mem_of_getElem? (i := 1) rfl)) (hw _ (List.mem_of_getElem? (i := 2) rfl)) e0 (g := (mkF m 11 #[.val (.int p1), .val (.int p2), .val (.int p3), .val (.int md), .val (.long aa), .second, .unset, .unset, .unset, .unset, .unset] [])) rfl (hb hby at_11) (by decide) (by decide)
  obtain ⟨ob, g3⟩ : ∃ z, z = h0.size := ⟨_, rfl⟩
  rw [← g3] at A3 D3 st3
  have F4 : Fld Z h3 ob "com/example/streamgrove/streamgrove/learners/RunningMoments" "smallest" "D" (.double (0 : UInt64)) := (D3 (Or.inl (hw _ (List.mem_of_getElem? (i := 11) rfl))) (ty := .double) (by decide))
  have F5 : Fld Z h3 ob "com/example/streamgrove/streamgrove/learners/RunningMoments" "largest" "D" (.double (0 : UInt64)) := (D3 (Or.inl (hw _ (List.mem_of_getElem? (i := 14) rfl))) (ty := .double) (by decide))
  have F6 : Fld Z h3 ob "com/example/streamgrove/streamgrove/learners/RunningMoments" "count" "J" (.long (0 : Int64)) := (D3 (Or.inl (hw _ (List.mem_of_getElem? (i := 21) rfl))) (ty := .long) (by decide))
  have F7 : Fld Z h3 ob "com/example/streamgrove/streamgrove/learners/RunningMoments" "mean" "D" (.double (0 : UInt64)) := (D3 (Or.inl (hw _ (List.mem_of_getElem? (i := 28) rfl))) (ty := .double) (by decide))
  have F8 : Fld Z h3 ob "com/example/streamgrove/streamgrove/learners/RunningMoments" "squaredDeviations" "D" (.double (0 : UInt64)) := (D3 (Or.inl (hw _ (List.mem_of_getElem? (i := 30) rfl))) (ty := .double) (by decide))
  have c9 : ∀ t, Steps p.tables e below (T3.setTop (mkF m 14 #[.val (.int p1), .val (.int p2), .val (.int p3), .val (.int md), .val (.long aa), .second, .unset, .unset, .unset, .unset, .unset] [(.ref ob)])) t → Steps p.tables e below (s₁.setTop (entryFrame m #[(.int p1), (.int p2), (.int p3)] maxLocals)) t := fun t k => c2 t (st3 _ k)
  have c10 : ∀ t, Steps p.tables e below (T3.setTop (mkF m 15 #[.val (.int p1), .val (.int p2), .val (.int p3), .val (.int md), .val (.long aa), .second, .unset, .unset, .unset, .unset, .unset] [(.ref ob), (.ref ob)])) t → Steps p.tables e below (s₁.setTop (entryFrame m #[(.int p1), (.int p2), (.int p3)] maxLocals)) t := fun t k => c9 t (by
    show Steps p.tables e below (T3.setTop (mkF m 14 #[.val (.int p1), .val (.int p2), .val (.int p3), .val (.int md), .val (.long aa), .second, .unset, .unset, .unset, .unset, .unset] [(.ref ob)])) _
    refine XS.dup X3.here hx rfl (hb hby at_14) rfl rfl ?_
    show Steps p.tables e below (T3.setTop (mkF m 15 #[.val (.int p1), .val (.int p2), .val (.int p3), .val (.int md), .val (.long aa), .second, .unset, .unset, .unset, .unset, .unset] [(.ref ob), (.ref ob)])) _
    exact k)
  obtain ⟨_, _, ⟨T11, L11, k11', n11⟩, -, X11, ⟨Lc11, hQ11, l11, y11, z11⟩, st11⟩ := X3.specialBack hx (y := (⟨"com/example/streamgrove/streamgrove/learners/RunningMoments", "<init>", "()V"⟩ : MethodName)) rfl hown (mvT hZ (hw _ (List.mem_of_getElem? (i := 3) rfl))) (mvT hZ (hw _ (List.mem_of_getElem? (i := 4) rfl))) (mvT hZ (hw _ (List.mem_of_getElem? (i := 5) rfl))) (by decide) (backOf (W := 1) (rm_1 l Z a0 hw [] ob h3 n0 (Nat.le_trans Z0 E3.1) A3 F6 F7 F8 F4 F5 (Nat.le_trans Z0 (Nat.le_of_eq g3.symm))) hZ (hw _ (List.mem_of_getElem? (i := 5) rfl)) (hw _ (List.mem_of_getElem? (i := 2) rfl)) (by decide) (by decide)) (g := (mkF m 15 #[.val (.int p1), .val (.int p2), .val (.int p3), .val (.int md), .val (.long aa), .second, .unset, .unset, .unset, .unset, .unset] [(.ref ob), (.ref ob)])) rfl (by rw [hml]; rfl) (Steps.refl _) (a := ob) (argsL := []) (rest := [(.ref ob)]) (lenOf pd___V rfl) rfl (by show 2 * 0 + _ ≤ _; exact Nat.le_of_eq rfl) (hb hby at_15) (fun _ _ => ⟨rfl, e3, (by decide : 1 + 0 ≤ _), (by decide : 5 + 0 ≤ _)⟩)
  dsimp only [Pt.U, Pt.locs, Pt.cells, Pt.slots] at X11 l11 y11 z11 st11 hQ11
  subst l11 y11 z11
  obtain ⟨rfl, N11, K11, G11_0, G11_1, G11_2, G11_3, G11_4, G11_5⟩ := hQ11
  have M11 := Fr.app N0 N11
  have F12 : Exa Z T11.heap ob "com/example/streamgrove/streamgrove/learners/RunningMoments" := (A3.keep K11)
  have c13 : ∀ t, Steps p.tables e below (T11.setTop (mkF m 18 #[.val (.int p1), .val (.int p2), .val (.int p3), .val (.int md), .val (.long aa), .second, .unset, .unset, .unset, .unset, .unset] [(.ref ob)])) t → Steps p.tables e below (s₁.setTop (entryFrame m #[(.int p1), (.int p2), (.int p3)] maxLocals)) t := fun t k => c10 t (st11.trans k)
  have c14 : ∀ t, Steps p.tables e below (T11.setTop (mkF m 21 #[.val (.int p1), .val (.int p2), .val (.int p3), .val (.int md), .val (.long aa), .second, .val (.ref ob), .unset, .unset, .unset, .unset] [(.int md)])) t → Steps p.tables e below (s₁.setTop (entryFrame m #[(.int p1), (.int p2), (.int p3)] maxLocals)) t := fun t k => c13 t (by
    show Steps p.tables e below (T11.setTop (mkF m 18 #[.val (.int p1), .val (.int p2), .val (.int p3), .val (.int md), .val (.long aa), .second, .unset, .unset, .unset, .unset, .unset] [(.ref ob)])) _
    refine XS.astore X11.here hx rfl (hb hby at_18) rfl rfl (l' := #[.val (.int p1), .val (.int p2), .val (.int p3), .val (.int md), .val (.long aa), .second, .val (.ref ob), .unset, .unset, .unset, .unset]) rfl ?_
    show Steps p.tables e below (T11.setTop (mkF m 20 #[.val (.int p1), .val (.int p2), .val (.int p3), .val (.int md), .val (.long aa), .second, .val (.ref ob), .unset, .unset, .unset, .unset] [])) _
    refine XS.iloadN X11.here hx rfl (hb hby at_20) rfl ?_
    show Steps p.tables e below (T11.setTop (mkF m 21 #[.val (.int p1), .val (.int p2), .val (.int p3), .val (.int md), .val (.long aa), .second, .val (.ref ob), .unset, .unset, .unset, .unset] [(.int md)])) _
    exact k)
  by_cases q21 : md = 0
  · skip
    have c15 : ∀ t, Steps p.tables e below (T11.setTop (mkF m 26 #[.val (.int p1), .val (.int p2), .val (.int p3), .val (.int md), .val (.long aa), .second, .val (.ref ob), .unset, .unset, .unset, .unset] [(.ref ob)])) t → Steps p.tables e below (s₁.setTop (entryFrame m #[(.int p1), (.int p2), (.int p3)] maxLocals)) t := fun t k => c14 t (by
      show Steps p.tables e below (T11.setTop (mkF m 21 #[.val (.int p1), .val (.int p2), .val (.int p3), .val (.int md), .val (.long aa), .second, .val (.ref ob), .unset, .unset, .unset, .unset] [(.int md)])) _
      refine XS.ifNo X11.here hx rfl (hb hby at_21) rfl (XT.i0_ne_f q21) ?_
      show Steps p.tables e below (T11.setTop (mkF m 24 #[.val (.int p1), .val (.int p2), .val (.int p3), .val (.int md), .val (.long aa), .second, .val (.ref ob), .unset, .unset, .unset, .unset] [])) _
      refine XS.aload X11.here hx rfl (hb hby at_24) rfl rfl ?_
      show Steps p.tables e below (T11.setTop (mkF m 26 #[.val (.int p1), .val (.int p2), .val (.int p3), .val (.int md), .val (.long aa), .second, .val (.ref ob), .unset, .unset, .unset, .unset] [(.ref ob)])) _
      exact k)
    obtain ⟨cq16, kq16, q16a, q16b, q16c⟩ := isOf hZ rfl G11_0
    obtain ⟨_, _, ⟨T16, L16, k16', n16⟩, -, X16, ⟨Lc16, hQ16, l16, y16, z16⟩, st16⟩ := X11.virtualBack hx (y := (⟨"com/example/streamgrove/streamgrove/learners/RunningMoments", "variance", "()D"⟩ : MethodName)) (z := (⟨"com/example/streamgrove/streamgrove/learners/RunningMoments", "variance", "()D"⟩ : MethodName)) hown (mvT hZ (hw _ (List.mem_of_getElem? (i := 15) rfl))) (mvT hZ (hw _ (List.mem_of_getElem? (i := 16) rfl))) (notFace_of_selects (args := #[]) (mvT hZ (hw _ (List.mem_of_getElem? (i := 18) rfl)))) (mvT hZ (hw _ (List.mem_of_getElem? (i := 18) rfl))) (mvT hZ (hw _ (List.mem_of_getElem? (i := 17) rfl))) (by decide) (backOf (W := 0) (rm_3 l Z a0 hw [] ob (0 : Int64) (0 : UInt64) FP.dconst0 T11.heap n0 (Nat.le_trans (Nat.le_trans Z0 E3.1) K11.1) G11_1 G11_3 (fun _ => rfl) (fun q => absurd q (by decide))) hZ (hw _ (List.mem_of_getElem? (i := 19) rfl)) (hw _ (List.mem_of_getElem? (i := 2) rfl)) (by decide) (by decide)) q16a q16c (g := (mkF m 26 #[.val (.int p1), .val (.int p2), .val (.int p3), .val (.int md), .val (.long aa), .second, .val (.ref ob), .unset, .unset, .unset, .unset] [(.ref ob)])) rfl (by rw [hml]; rfl) (Steps.refl _) (argsL := []) (rest := []) (lenOf pd___D rfl) rfl (by show 2 * 0 + _ ≤ _; exact Nat.le_of_eq rfl) (hb hby at_26) (fun _ _ => ⟨rfl, rfl, (by decide : 1 + 0 ≤ _), (by decide : 5 + 0 ≤ _)⟩)
    dsimp only [Pt.U, Pt.locs, Pt.cells, Pt.slots] at X16 l16 y16 z16 st16 hQ16
    subst l16 y16 z16
    obtain ⟨rfl, N16, e16⟩ := hQ16
    have M16 := Fr.app M11 N16
    have c17 : ∀ t, Steps p.tables e below (T16.setTop (mkF m 29 #[.val (.int p1), .val (.int p2), .val (.int p3), .val (.int md), .val (.long aa), .second, .val (.ref ob), .unset, .unset, .unset, .unset] [(.double FP.dconst0)])) t → Steps p.tables e below (s₁.setTop (entryFrame m #[(.int p1), (.int p2), (.int p3)] maxLocals)) t := fun t k => c15 t (st16.trans k)
    obtain ⟨k30, hk30⟩ : ∃ v : Int32, cmpValue (FP.dcmp FP.dconst0 FP.dconst0) .l = v := ⟨_, rfl⟩
    have e30 : k30 = 0 := hk30 ▸ cmp_eq (notNan DS.zero.1) (notNan DS.zero.1) rfl .l
    have c18 : ∀ t, Steps p.tables e below (T16.setTop (mkF m 39 #[.val (.int p1), .val (.int p2), .val (.int p3), .val (.int md), .val (.long aa), .second, .val (.ref ob), .unset, .unset, .unset, .unset] [(.int (1 : Int32))])) t → Steps p.tables e below (s₁.setTop (entryFrame m #[(.int p1), (.int p2), (.int p3)] maxLocals)) t := fun t k => c17 t (by
      show Steps p.tables e below (T16.setTop (mkF m 29 #[.val (.int p1), .val (.int p2), .val (.int p3), .val (.int md), .val (.long aa), .second, .val (.ref ob), .unset, .unset, .unset, .unset] [(.double FP.dconst0)])) _
      refine XS.dconst0 X16.here hx rfl (hb hby at_29) rfl ?_
      show Steps p.tables e below (T16.setTop (mkF m 30 #[.val (.int p1), .val (.int p2), .val (.int p3), .val (.int md), .val (.long aa), .second, .val (.ref ob), .unset, .unset, .unset, .unset] [(.double FP.dconst0), (.double FP.dconst0)])) _
      refine XS.dcmpS X16.here hx rfl (hb hby at_30) rfl hk30 ?_
      show Steps p.tables e below (T16.setTop (mkF m 31 #[.val (.int p1), .val (.int p2), .val (.int p3), .val (.int md), .val (.long aa), .second, .val (.ref ob), .unset, .unset, .unset, .unset] [(.int k30)])) _
      refine XS.ifNo X16.here hx rfl (hb hby at_31) rfl (XT.i0_ne_f e30) ?_
      show Steps p.tables e below (T16.setTop (mkF m 34 #[.val (.int p1), .val (.int p2), .val (.int p3), .val (.int md), .val (.long aa), .second, .val (.ref ob), .unset, .unset, .unset, .unset] [])) _
      refine XS.iconst X16.here hx rfl (hb hby at_34) ?_
      show Steps p.tables e below (T16.setTop (mkF m 35 #[.val (.int p1), .val (.int p2), .val (.int p3), .val (.int md), .val (.long aa), .second, .val (.ref ob), .unset, .unset, .unset, .unset] [(.int (1 : Int32))])) _
      refine XS.goto X16.here hx rfl (pc0 := 35) (pc' := 39) rfl (hb hby at_35) (by decide) (by decide) ?_
      show Steps p.tables e below (T16.setTop (mkF m 39 #[.val (.int p1), .val (.int p2), .val (.int p3), .val (.int md), .val (.long aa), .second, .val (.ref ob), .unset, .unset, .unset, .unset] [(.int (1 : Int32))])) _
      exact k)
    obtain ⟨fs, hr, hrun, hended, hW, hsame⟩ := X16.leave (v := (some (.int (1 : Int32)))) (fun h => by rw [Bd.returns] at h; cases h)
    refine ⟨_, _, pre0 _ (c18 _ (retN X16 hx (t := .boolean) Bd.returns (by simp) (hb hby at_39) hr)), hrun, hended, _, _, rfl, ?_, ⟨_, rfl⟩, hW, hsame.mono (by decide) (by decide)⟩
    show Q_0 Z p1 p2 p3 h0 n0 _ T16.heap _
    rw [e16]
    exact ⟨rfl, M16⟩
  · skip
    obtain ⟨da, hda⟩ : ∃ v : UInt64, FP.l2d aa = v := ⟨_, rfl⟩
    have Da : DS aa.toInt 0 da := hda ▸ DS.l2d (by omega)
    obtain ⟨b1_1, q1_1, nm_1, t1_1, u1_1, nq_1, hb1_1, hq1_1, hnm_1, ht1_1, hu1_1, hnq_1, nb1_1, nq1_1, nnm_1, nt1_1, nu1_1, nnq_1, Dm_1, Dq_1⟩ := add_k (v := aa.toInt) (M := 0) (Q := 0) (N := 1) (B := 2 * aa.toInt) Da zero_h zero_h (show DS 1 0 (FP.l2d ((0 : Int64) + (1 : Int64))) from DS.l2d (x := (0 : Int64) + (1 : Int64)) (by decide)) (by decide) (by omega) (by omega) (by decide) (by decide) (by omega) 0 (by rw [show 2 * aa.toInt - (0 + 2 * aa.toInt) = 0 by omega, Int.mul_zero]; rfl)
    obtain ⟨ns_1, hns_1⟩ : ∃ z : UInt64, Jvm.Native.java_lang_Math.nans.pick64 false (9218868437227405312 : UInt64) da = z := ⟨_, rfl⟩
    obtain ⟨nl_1, hnl_1⟩ : ∃ z : UInt64, Jvm.Native.java_lang_Math.nans.pick64 true (18442240474082181120 : UInt64) da = z := ⟨_, rfl⟩
    have c19 : ∀ t, Steps p.tables e below (T11.setTop (mkF m 45 #[.val (.int p1), .val (.int p2), .val (.int p3), .val (.int md), .val (.long aa), .second, .val (.ref ob), .unset, .unset, .unset, .unset] [(.double da), (.ref ob)])) t → Steps p.tables e below (s₁.setTop (entryFrame m #[(.int p1), (.int p2), (.int p3)] maxLocals)) t := fun t k => c14 t (by
      show Steps p.tables e below (T11.setTop (mkF m 21 #[.val (.int p1), .val (.int p2), .val (.int p3), .val (.int md), .val (.long aa), .second, .val (.ref ob), .unset, .unset, .unset, .unset] [(.int md)])) _
      refine XS.ifYes X11.here hx rfl (pc0 := 21) (pc' := 40) rfl (hb hby at_21) rfl (XT.i0_ne_t q21) (by decide) (by decide) ?_
      show Steps p.tables e below (T11.setTop (mkF m 40 #[.val (.int p1), .val (.int p2), .val (.int p3), .val (.int md), .val (.long aa), .second, .val (.ref ob), .unset, .unset, .unset, .unset] [])) _
      refine XS.aload X11.here hx rfl (hb hby at_40) rfl rfl ?_
      show Steps p.tables e below (T11.setTop (mkF m 42 #[.val (.int p1), .val (.int p2), .val (.int p3), .val (.int md), .val (.long aa), .second, .val (.ref ob), .unset, .unset, .unset, .unset] [(.ref ob)])) _
      refine XT.lload X11.here hx rfl (hb hby at_42) rfl ?_
      show Steps p.tables e below (T11.setTop (mkF m 44 #[.val (.int p1), .val (.int p2), .val (.int p3), .val (.int md), .val (.long aa), .second, .val (.ref ob), .unset, .unset, .unset, .unset] [(.long aa), (.ref ob)])) _
      refine XS.l2dS X11.here hx rfl (hb hby at_44) rfl hda ?_
      show Steps p.tables e below (T11.setTop (mkF m 45 #[.val (.int p1), .val (.int p2), .val (.int p3), .val (.int md), .val (.long aa), .second, .val (.ref ob), .unset, .unset, .unset, .unset] [(.double da), (.ref ob)])) _
      exact k)
    obtain ⟨cq20, kq20, q20a, q20b, q20c⟩ := isOf hZ rfl G11_0
    obtain ⟨_, _, ⟨T20, L20, k20', n20⟩, -, X20, ⟨Lc20, hQ20, l20, y20, z20⟩, st20⟩ := X11.virtualBack hx (y := (⟨"com/example/streamgrove/streamgrove/learners/RunningMoments", "add", "(D)V"⟩ : MethodName)) (z := (⟨"com/example/streamgrove/streamgrove/learners/RunningMoments", "add", "(D)V"⟩ : MethodName)) hown (mvT hZ (hw _ (List.mem_of_getElem? (i := 22) rfl))) (mvT hZ (hw _ (List.mem_of_getElem? (i := 23) rfl))) (notFace_of_selects (args := #[]) (mvT hZ (hw _ (List.mem_of_getElem? (i := 25) rfl)))) (mvT hZ (hw _ (List.mem_of_getElem? (i := 25) rfl))) (mvT hZ (hw _ (List.mem_of_getElem? (i := 24) rfl))) (by decide) (backOf (W := 0) (rm_4 l Z a0 hw [] ob da (0 : Int64) (0 : UInt64) (0 : UInt64) (9218868437227405312 : UInt64) (18442240474082181120 : UInt64) b1_1 q1_1 nm_1 t1_1 u1_1 nq_1 ns_1 nl_1 T11.heap n0 (Nat.le_trans (Nat.le_trans Z0 E3.1) K11.1) G11_0 G11_1 G11_2 G11_3 G11_4 G11_5 (Nat.le_trans Z0 (Nat.le_of_eq g3.symm)) hb1_1 hq1_1 hnm_1 ht1_1 hu1_1 hnq_1 hns_1 hnl_1 nb1_1 nq1_1 nnm_1 nt1_1 nu1_1 nnq_1 (toNaN Da.1) (by decide +kernel) (by decide +kernel)) hZ (hw _ (List.mem_of_getElem? (i := 26) rfl)) (hw _ (List.mem_of_getElem? (i := 2) rfl)) (by decide) (by decide)) q20a q20c (g := (mkF m 45 #[.val (.int p1), .val (.int p2), .val (.int p3), .val (.int md), .val (.long aa), .second, .val (.ref ob), .unset, .unset, .unset, .unset] [(.double da), (.ref ob)])) rfl (by rw [hml]; rfl) (Steps.refl _) (argsL := [(.double da)]) (rest := []) (lenOf pd__D_V rfl) rfl (by show 2 * 0 + _ ≤ _; exact Nat.le_of_eq rfl) (hb hby at_45) (fun _ _ => ⟨rfl, rfl, (by decide : 1 + 0 ≤ _), (by decide : 5 + 0 ≤ _)⟩)
    dsimp only [Pt.U, Pt.locs, Pt.cells, Pt.slots] at X20 l20 y20 z20 st20 hQ20
    subst l20 y20 z20
    obtain ⟨rfl, N20, K20, G20_0, G20_1, G20_2, G20_3, G20_4, G20_5⟩ := hQ20
    have M20 := Fr.app M11 N20
    have F21 : Exa Z T20.heap ob "com/example/streamgrove/streamgrove/learners/RunningMoments" := (G11_0.keep K20)
    have c22 : ∀ t, Steps p.tables e below (T20.setTop (mkF m 48 #[.val (.int p1), .val (.int p2), .val (.int p3), .val (.int md), .val (.long aa), .second, .val (.ref ob), .unset, .unset, .unset, .unset] [])) t → Steps p.tables e below (s₁.setTop (entryFrame m #[(.int p1), (.int p2), (.int p3)] maxLocals)) t := fun t k => c19 t (st20.trans k)
    have nns_1 : FP.dIsNaN ns_1 = false := hns_1 ▸ pick_nan (by decide +kernel) (toNaN Da.1)
    have nnl_1 : FP.dIsNaN nl_1 = false := hnl_1 ▸ pick_nan (by decide +kernel) (toNaN Da.1)
    have c23 : ∀ t, Steps p.tables e below (T20.setTop (mkF m 50 #[.val (.int p1), .val (.int p2), .val (.int p3), .val (.int md), .val (.long aa), .second, .val (.ref ob), .unset, .unset, .unset, .unset] [(.int (1 : Int32)), (.int md)])) t → Steps p.tables e below (s₁.setTop (entryFrame m #[(.int p1), (.int p2), (.int p3)] maxLocals)) t := fun t k => c22 t (by
      show Steps p.tables e below (T20.setTop (mkF m 48 #[.val (.int p1), .val (.int p2), .val (.int p3), .val (.int md), .val (.long aa), .second, .val (.ref ob), .unset, .unset, .unset, .unset] [])) _
      refine XS.iloadN X20.here hx rfl (hb hby at_48) rfl ?_
      show Steps p.tables e below (T20.setTop (mkF m 49 #[.val (.int p1), .val (.int p2), .val (.int p3), .val (.int md), .val (.long aa), .second, .val (.ref ob), .unset, .unset, .unset, .unset] [(.int md)])) _
      refine XS.iconst X20.here hx rfl (hb hby at_49) ?_
      show Steps p.tables e below (T20.setTop (mkF m 50 #[.val (.int p1), .val (.int p2), .val (.int p3), .val (.int md), .val (.long aa), .second, .val (.ref ob), .unset, .unset, .unset, .unset] [(.int (1 : Int32)), (.int md)])) _
      exact k)
    by_cases q50 : md = (1 : Int32)
    · skip
      have c24 : ∀ t, Steps p.tables e below (T20.setTop (mkF m 55 #[.val (.int p1), .val (.int p2), .val (.int p3), .val (.int md), .val (.long aa), .second, .val (.ref ob), .unset, .unset, .unset, .unset] [(.ref ob)])) t → Steps p.tables e below (s₁.setTop (entryFrame m #[(.int p1), (.int p2), (.int p3)] maxLocals)) t := fun t k => c23 t (by
        show Steps p.tables e below (T20.setTop (mkF m 50 #[.val (.int p1), .val (.int p2), .val (.int p3), .val (.int md), .val (.long aa), .second, .val (.ref ob), .unset, .unset, .unset, .unset] [(.int (1 : Int32)), (.int md)])) _
        refine XS.icmpNo X20.here hx rfl (hb hby at_50) rfl (XT.ii_ne_f q50) ?_
        show Steps p.tables e below (T20.setTop (mkF m 53 #[.val (.int p1), .val (.int p2), .val (.int p3), .val (.int md), .val (.long aa), .second, .val (.ref ob), .unset, .unset, .unset, .unset] [])) _
        refine XS.aload X20.here hx rfl (hb hby at_53) rfl rfl ?_
        show Steps p.tables e below (T20.setTop (mkF m 55 #[.val (.int p1), .val (.int p2), .val (.int p3), .val (.int md), .val (.long aa), .second, .val (.ref ob), .unset, .unset, .unset, .unset] [(.ref ob)])) _
        exact k)
      obtain ⟨cq25, kq25, q25a, q25b, q25c⟩ := isOf hZ rfl G20_0
      obtain ⟨_, _, ⟨T25, L25, k25', n25⟩, -, X25, ⟨Lc25, hQ25, l25, y25, z25⟩, st25⟩ := X20.virtualBack hx (y := (⟨"com/example/streamgrove/streamgrove/learners/RunningMoments", "variance", "()D"⟩ : MethodName)) (z := (⟨"com/example/streamgrove/streamgrove/learners/RunningMoments", "variance", "()D"⟩ : MethodName)) hown (mvT hZ (hw _ (List.mem_of_getElem? (i := 15) rfl))) (mvT hZ (hw _ (List.mem_of_getElem? (i := 16) rfl))) (notFace_of_selects (args := #[]) (mvT hZ (hw _ (List.mem_of_getElem? (i := 18) rfl)))) (mvT hZ (hw _ (List.mem_of_getElem? (i := 18) rfl))) (mvT hZ (hw _ (List.mem_of_getElem? (i := 17) rfl))) (by decide) (backOf (W := 0) (rm_3 l Z a0 hw [] ob ((0 : Int64) + (1 : Int64)) nq_1 FP.dconst0 T20.heap n0 (Nat.le_trans (Nat.le_trans (Nat.le_trans Z0 E3.1) K11.1) K20.1) G20_1 G20_3 (fun _ => rfl) (fun q => absurd q (by decide))) hZ (hw _ (List.mem_of_getElem? (i := 19) rfl)) (hw _ (List.mem_of_getElem? (i := 2) rfl)) (by decide) (by decide)) q25a q25c (g := (mkF m 55 #[.val (.int p1), .val (.int p2), .val (.int p3), .val (.int md), .val (.long aa), .second, .val (.ref ob), .unset, .unset, .unset, .unset] [(.ref ob)])) rfl (by rw [hml]; rfl) (Steps.refl _) (argsL := []) (rest := []) (lenOf pd___D rfl) rfl (by show 2 * 0 + _ ≤ _; exact Nat.le_of_eq rfl) (hb hby at_55) (fun _ _ => ⟨rfl, rfl, (by decide : 1 + 0 ≤ _), (by decide : 5 + 0 ≤ _)⟩)
      dsimp only [Pt.U, Pt.locs, Pt.cells, Pt.slots] at X25 l25 y25 z25 st25 hQ25
      subst l25 y25 z25
      obtain ⟨rfl, N25, e25⟩ := hQ25
      have M25 := Fr.app M20 N25
      have c26 : ∀ t, Steps p.tables e below (T25.setTop (mkF m 58 #[.val (.int p1), .val (.int p2), .val (.int p3), .val (.int md), .val (.long aa), .second, .val (.ref ob), .unset, .unset, .unset, .unset] [(.double FP.dconst0)])) t → Steps p.tables e below (s₁.setTop (entryFrame m #[(.int p1), (.int p2), (.int p3)] maxLocals)) t := fun t k => c24 t (st25.trans k)
      obtain ⟨k59, hk59⟩ : ∃ v : Int32, cmpValue (FP.dcmp FP.dconst0 FP.dconst0) .l = v := ⟨_, rfl⟩
      have e59 : k59 = 0 := hk59 ▸ cmp_eq (notNan DS.zero.1) (notNan DS.zero.1) rfl .l
      have c27 : ∀ t, Steps p.tables e below (T25.setTop (mkF m 68 #[.val (.int p1), .val (.int p2), .val (.int p3), .val (.int md), .val (.long aa), .second, .val (.ref ob), .unset, .unset, .unset, .unset] [(.int (1 : Int32))])) t → Steps p.tables e below (s₁.setTop (entryFrame m #[(.int p1), (.int p2), (.int p3)] maxLocals)) t := fun t k => c26 t (by
        show Steps p.tables e below (T25.setTop (mkF m 58 #[.val (.int p1), .val (.int p2), .val (.int p3), .val (.int md), .val (.long aa), .second, .val (.ref ob), .unset, .unset, .unset, .unset] [(.double FP.dconst0)])) _
        refine XS.dconst0 X25.here hx rfl (hb hby at_58) rfl ?_
        show Steps p.tables e below (T25.setTop (mkF m 59 #[.val (.int p1), .val (.int p2), .val (.int p3), .val (.int md), .val (.long aa), .second, .val (.ref ob), .unset, .unset, .unset, .unset] [(.double FP.dconst0), (.double FP.dconst0)])) _
        refine XS.dcmpS X25.here hx rfl (hb hby at_59) rfl hk59 ?_
        show Steps p.tables e below (T25.setTop (mkF m 60 #[.val (.int p1), .val (.int p2), .val (.int p3), .val (.int md), .val (.long aa), .second, .val (.ref ob), .unset, .unset, .unset, .unset] [(.int k59)])) _
        refine XS.ifNo X25.here hx rfl (hb hby at_60) rfl (XT.i0_ne_f e59) ?_
        show Steps p.tables e below (T25.setTop (mkF m 63 #[.val (.int p1), .val (.int p2), .val (.int p3), .val (.int md), .val (.long aa), .second, .val (.ref ob), .unset, .unset, .unset, .unset] [])) _
        refine XS.iconst X25.here hx rfl (hb hby at_63) ?_
        show Steps p.tables e below (T25.setTop (mkF m 64 #[.val (.int p1), .val (.int p2), .val (.int p3), .val (.int md), .val (.long aa), .second, .val (.ref ob), .unset, .unset, .unset, .unset] [(.int (1 : Int32))])) _
        refine XS.goto X25.here hx rfl (pc0 := 64) (pc' := 68) rfl (hb hby at_64) (by decide) (by decide) ?_
        show Steps p.tables e below (T25.setTop (mkF m 68 #[.val (.int p1), .val (.int p2), .val (.int p3), .val (.int md), .val (.long aa), .second, .val (.ref ob), .unset, .unset, .unset, .unset] [(.int (1 : Int32))])) _
        exact k)
      obtain ⟨fs, hr, hrun, hended, hW, hsame⟩ := X25.leave (v := (some (.int (1 : Int32)))) (fun h => by rw [Bd.returns] at h; cases h)
      refine ⟨_, _, pre0 _ (c27 _ (retN X25 hx (t := .boolean) Bd.returns (by simp) (hb hby at_68) hr)), hrun, hended, _, _, rfl, ?_, ⟨_, rfl⟩, hW, hsame.mono (by decide) (by decide)⟩
      show Q_0 Z p1 p2 p3 h0 n0 _ T25.heap _
      rw [e25]
      exact ⟨rfl, M25⟩
    · skip
      have c28 : ∀ t, Steps p.tables e below (T20.setTop (mkF m 71 #[.val (.int p1), .val (.int p2), .val (.int p3), .val (.int md), .val (.long aa), .second, .val (.ref ob), .unset, .unset, .unset, .unset] [(.int (2 : Int32)), (.int md)])) t → Steps p.tables e below (s₁.setTop (entryFrame m #[(.int p1), (.int p2), (.int p3)] maxLocals)) t := fun t k => c23 t (by
        show Steps p.tables e below (T20.setTop (mkF m 50 #[.val (.int p1), .val (.int p2), .val (.int p3), .val (.int md), .val (.long aa), .second, .val (.ref ob), .unset, .unset, .unset, .unset] [(.int (1 : Int32)), (.int md)])) _
        refine XS.icmpYes X20.here hx rfl (pc0 := 50) (pc' := 69) rfl (hb hby at_50) rfl (XT.ii_ne_t q50) (by decide) (by decide) ?_
        show Steps p.tables e below (T20.setTop (mkF m 69 #[.val (.int p1), .val (.int p2), .val (.int p3), .val (.int md), .val (.long aa), .second, .val (.ref ob), .unset, .unset, .unset, .unset] [])) _
        refine XS.iloadN X20.here hx rfl (hb hby at_69) rfl ?_
        show Steps p.tables e below (T20.setTop (mkF m 70 #[.val (.int p1), .val (.int p2), .val (.int p3), .val (.int md), .val (.long aa), .second, .val (.ref ob), .unset, .unset, .unset, .unset] [(.int md)])) _
        refine XS.iconst X20.here hx rfl (hb hby at_70) ?_
        show Steps p.tables e below (T20.setTop (mkF m 71 #[.val (.int p1), .val (.int p2), .val (.int p3), .val (.int md), .val (.long aa), .second, .val (.ref ob), .unset, .unset, .unset, .unset] [(.int (2 : Int32)), (.int md)])) _
        exact k)
      by_cases q71 : md = (2 : Int32)
      · skip
        obtain ⟨bb, hbb⟩ : ∃ v : Int64, v = ((p3 >>> ((12 : Int32) &&& 31)).toInt64) := ⟨_, rfl⟩
        have c29 : ∀ t, Steps p.tables e below (T20.setTop (mkF m 81 #[.val (.int p1), .val (.int p2), .val (.int p3), .val (.int md), .val (.long aa), .second, .val (.ref ob), .val (.long bb), .second, .unset, .unset] [])) t → Steps p.tables e below (s₁.setTop (entryFrame m #[(.int p1), (.int p2), (.int p3)] maxLocals)) t := fun t k => c28 t (by
          rw [hbb] at k
          show Steps p.tables e below (T20.setTop (mkF m 71 #[.val (.int p1), .val (.int p2), .val (.int p3), .val (.int md), .val (.long aa), .second, .val (.ref ob), .unset, .unset, .unset, .unset] [(.int (2 : Int32)), (.int md)])) _
          refine XS.icmpNo X20.here hx rfl (hb hby at_71) rfl (XT.ii_ne_f q71) ?_
          show Steps p.tables e below (T20.setTop (mkF m 74 #[.val (.int p1), .val (.int p2), .val (.int p3), .val (.int md), .val (.long aa), .second, .val (.ref ob), .unset, .unset, .unset, .unset] [])) _
          refine XS.iloadN X20.here hx rfl (hb hby at_74) rfl ?_
          show Steps p.tables e below (T20.setTop (mkF m 75 #[.val (.int p1), .val (.int p2), .val (.int p3), .val (.int md), .val (.long aa), .second, .val (.ref ob), .unset, .unset, .unset, .unset] [(.int p3)])) _
          refine XS.bipush X20.here hx rfl (hb hby at_75) ?_
          show Steps p.tables e below (T20.setTop (mkF m 77 #[.val (.int p1), .val (.int p2), .val (.int p3), .val (.int md), .val (.long aa), .second, .val (.ref ob), .unset, .unset, .unset, .unset] [(.int (12 : Int32)), (.int p3)])) _
          refine XT.ishr X20.here hx rfl (hb hby at_77) rfl ?_
          show Steps p.tables e below (T20.setTop (mkF m 78 #[.val (.int p1), .val (.int p2), .val (.int p3), .val (.int md), .val (.long aa), .second, .val (.ref ob), .unset, .unset, .unset, .unset] [(.int (p3 >>> ((12 : Int32) &&& 31)))])) _
          refine XT.i2l X20.here hx rfl (hb hby at_78) rfl ?_
          show Steps p.tables e below (T20.setTop (mkF m 79 #[.val (.int p1), .val (.int p2), .val (.int p3), .val (.int md), .val (.long aa), .second, .val (.ref ob), .unset, .unset, .unset, .unset] [(.long ((p3 >>> ((12 : Int32) &&& 31)).toInt64))])) _
          refine XT.lstore X20.here hx rfl (hb hby at_79) rfl (l' := #[.val (.int p1), .val (.int p2), .val (.int p3), .val (.int md), .val (.long aa), .second, .val (.ref ob), .val (.long ((p3 >>> ((12 : Int32) &&& 31)).toInt64)), .second, .unset, .unset]) rfl ?_
          show Steps p.tables e below (T20.setTop (mkF m 81 #[.val (.int p1), .val (.int p2), .val (.int p3), .val (.int md), .val (.long aa), .second, .val (.ref ob), .val (.long ((p3 >>> ((12 : Int32) &&& 31)).toInt64)), .second, .unset, .unset] [])) _
          exact k)
        obtain ⟨vb, vb1, vb2⟩ := shr_k p3 12 (k := 12) (by decide) (K := 19) (by decide)
        rw [← hbb] at vb
        have vB : -2 ^ 19 ≤ bb.toInt ∧ bb.toInt < 2 ^ 19 := by omega
        obtain ⟨db, hdb⟩ : ∃ v : UInt64, FP.l2d bb = v := ⟨_, rfl⟩
        have Db : DS bb.toInt 0 db := hdb ▸ DS.l2d (by omega)
        obtain ⟨b1_2, q1_2, nm_2, t1_2, u1_2, nq_2, hb1_2, hq1_2, hnm_2, ht1_2, hu1_2, hnq_2, nb1_2, nq1_2, nnm_2, nt1_2, nu1_2, nnq_2, Dm_2, Dq_2⟩ := add_k (v := bb.toInt) (N := 2) (B := bb.toInt - aa.toInt) Db Dm_1 Dq_1 (show DS 2 0 (FP.l2d (((0 : Int64) + (1 : Int64)) + (1 : Int64))) from DS.l2d (x := ((0 : Int64) + (1 : Int64)) + (1 : Int64)) (by decide)) (by decide) (by omega) (by omega) (by omega) (by decide) (by omega) ((bb.toInt - aa.toInt) * (bb.toInt - aa.toInt)) (by grind)
        obtain ⟨ns_2, hns_2⟩ : ∃ z : UInt64, Jvm.Native.java_lang_Math.nans.pick64 false ns_1 db = z := ⟨_, rfl⟩
        obtain ⟨nl_2, hnl_2⟩ : ∃ z : UInt64, Jvm.Native.java_lang_Math.nans.pick64 true nl_1 db = z := ⟨_, rfl⟩
        have c30 : ∀ t, Steps p.tables e below (T20.setTop (mkF m 86 #[.val (.int p1), .val (.int p2), .val (.int p3), .val (.int md), .val (.long aa), .second, .val (.ref ob), .val (.long bb), .second, .unset, .unset] [(.double db), (.ref ob)])) t → Steps p.tables e below (s₁.setTop (entryFrame m #[(.int p1), (.int p2), (.int p3)] maxLocals)) t := fun t k => c29 t (by
          show Steps p.tables e below (T20.setTop (mkF m 81 #[.val (.int p1), .val (.int p2), .val (.int p3), .val (.int md), .val (.long aa), .second, .val (.ref ob), .val (.long bb), .second, .unset, .unset] [])) _
          refine XS.aload X20.here hx rfl (hb hby at_81) rfl rfl ?_
          show Steps p.tables e below (T20.setTop (mkF m 83 #[.val (.int p1), .val (.int p2), .val (.int p3), .val (.int md), .val (.long aa), .second, .val (.ref ob), .val (.long bb), .second, .unset, .unset] [(.ref ob)])) _
          refine XT.lload X20.here hx rfl (hb hby at_83) rfl ?_
          show Steps p.tables e below (T20.setTop (mkF m 85 #[.val (.int p1), .val (.int p2), .val (.int p3), .val (.int md), .val (.long aa), .second, .val (.ref ob), .val (.long bb), .second, .unset, .unset] [(.long bb), (.ref ob)])) _
          refine XS.l2dS X20.here hx rfl (hb hby at_85) rfl hdb ?_
          show Steps p.tables e below (T20.setTop (mkF m 86 #[.val (.int p1), .val (.int p2), .val (.int p3), .val (.int md), .val (.long aa), .second, .val (.ref ob), .val (.long bb), .second, .unset, .unset] [(.double db), (.ref ob)])) _
          exact k)
        obtain ⟨cq31, kq31, q31a, q31b, q31c⟩ := isOf hZ rfl G20_0
        obtain ⟨_, _, ⟨T31, L31, k31', n31⟩, -, X31, ⟨Lc31, hQ31, l31, y31, z31⟩, st31⟩ := X20.virtualBack hx (y := (⟨"com/example/streamgrove/streamgrove/learners/RunningMoments", "add", "(D)V"⟩ : MethodName)) (z := (⟨"com/example/streamgrove/streamgrove/learners/RunningMoments", "add", "(D)V"⟩ : MethodName)) hown (mvT hZ (hw _ (List.mem_of_getElem? (i := 22) rfl))) (mvT hZ (hw _ (List.mem_of_getElem? (i := 23) rfl))) (notFace_of_selects (args := #[]) (mvT hZ (hw _ (List.mem_of_getElem? (i := 25) rfl)))) (mvT hZ (hw _ (List.mem_of_getElem? (i := 25) rfl))) (mvT hZ (hw _ (List.mem_of_getElem? (i := 24) rfl))) (by decide) (backOf (W := 0) (rm_4 l Z a0 hw [] ob db ((0 : Int64) + (1 : Int64)) nm_1 nq_1 ns_1 nl_1 b1_2 q1_2 nm_2 t1_2 u1_2 nq_2 ns_2 nl_2 T20.heap n0 (Nat.le_trans (Nat.le_trans (Nat.le_trans Z0 E3.1) K11.1) K20.1) G20_0 G20_1 G20_2 G20_3 G20_4 G20_5 (Nat.le_trans Z0 (Nat.le_of_eq g3.symm)) hb1_2 hq1_2 hnm_2 ht1_2 hu1_2 hnq_2 hns_2 hnl_2 nb1_2 nq1_2 nnm_2 nt1_2 nu1_2 nnq_2 (toNaN Db.1) nns_1 nnl_1) hZ (hw _ (List.mem_of_getElem? (i := 26) rfl)) (hw _ (List.mem_of_getElem? (i := 2) rfl)) (by decide) (by decide)) q31a q31c (g := (mkF m 86 #[.val (.int p1), .val (.int p2), .val (.int p3), .val (.int md), .val (.long aa), .second, .val (.ref ob), .val (.long bb), .second, .unset, .unset] [(.double db), (.ref ob)])) rfl (by rw [hml]; rfl) (Steps.refl _) (argsL := [(.double db)]) (rest := []) (lenOf pd__D_V rfl) rfl (by show 2 * 0 + _ ≤ _; exact Nat.le_of_eq rfl) (hb hby at_86) (fun _ _ => ⟨rfl, rfl, (by decide : 1 + 0 ≤ _), (by decide : 5 + 0 ≤ _)⟩)
        dsimp only [Pt.U, Pt.locs, Pt.cells, Pt.slots] at X31 l31 y31 z31 st31 hQ31
        subst l31 y31 z31
        obtain ⟨rfl, N31, K31, G31_0, G31_1, G31_2, G31_3, G31_4, G31_5⟩ := hQ31
        have M31 := Fr.app M20 N31
        have F32 : Exa Z T31.heap ob "com/example/streamgrove/streamgrove/learners/RunningMoments" := (G20_0.keep K31)
        have c33 : ∀ t, Steps p.tables e below (T31.setTop (mkF m 89 #[.val (.int p1), .val (.int p2), .val (.int p3), .val (.int md), .val (.long aa), .second, .val (.ref ob), .val (.long bb), .second, .unset, .unset] [])) t → Steps p.tables e below (s₁.setTop (entryFrame m #[(.int p1), (.int p2), (.int p3)] maxLocals)) t := fun t k => c30 t (st31.trans k)
        have nns_2 : FP.dIsNaN ns_2 = false := hns_2 ▸ pick_nan nns_1 (toNaN Db.1)
        have nnl_2 : FP.dIsNaN nl_2 = false := hnl_2 ▸ pick_nan nnl_1 (toNaN Db.1)
        obtain ⟨dd, hdd⟩ : ∃ v : Int64, v = (bb - aa) := ⟨_, rfl⟩
        have c34 : ∀ t, Steps p.tables e below (T31.setTop (mkF m 96 #[.val (.int p1), .val (.int p2), .val (.int p3), .val (.int md), .val (.long aa), .second, .val (.ref ob), .val (.long bb), .second, .val (.long dd), .second] [])) t → Steps p.tables e below (s₁.setTop (entryFrame m #[(.int p1), (.int p2), (.int p3)] maxLocals)) t := fun t k => c33 t (by
          rw [hdd] at k
          show Steps p.tables e below (T31.setTop (mkF m 89 #[.val (.int p1), .val (.int p2), .val (.int p3), .val (.int md), .val (.long aa), .second, .val (.ref ob), .val (.long bb), .second, .unset, .unset] [])) _
          refine XT.lload X31.here hx rfl (hb hby at_89) rfl ?_
          show Steps p.tables e below (T31.setTop (mkF m 91 #[.val (.int p1), .val (.int p2), .val (.int p3), .val (.int md), .val (.long aa), .second, .val (.ref ob), .val (.long bb), .second, .unset, .unset] [(.long bb)])) _
          refine XT.lload X31.here hx rfl (hb hby at_91) rfl ?_
          show Steps p.tables e below (T31.setTop (mkF m 93 #[.val (.int p1), .val (.int p2), .val (.int p3), .val (.int md), .val (.long aa), .second, .val (.ref ob), .val (.long bb), .second, .unset, .unset] [(.long aa), (.long bb)])) _
          refine XT.lsub X31.here hx rfl (hb hby at_93) rfl ?_
          show Steps p.tables e below (T31.setTop (mkF m 94 #[.val (.int p1), .val (.int p2), .val (.int p3), .val (.int md), .val (.long aa), .second, .val (.ref ob), .val (.long bb), .second, .unset, .unset] [(.long (bb - aa))])) _
          refine XT.lstore X31.here hx rfl (hb hby at_94) rfl (l' := #[.val (.int p1), .val (.int p2), .val (.int p3), .val (.int md), .val (.long aa), .second, .val (.ref ob), .val (.long bb), .second, .val (.long (bb - aa)), .second]) rfl ?_
          show Steps p.tables e below (T31.setTop (mkF m 96 #[.val (.int p1), .val (.int p2), .val (.int p3), .val (.int md), .val (.long aa), .second, .val (.ref ob), .val (.long bb), .second, .val (.long (bb - aa)), .second] [])) _
          exact k)
        have vD : dd.toInt = bb.toInt - aa.toInt := by rw [hdd]; exact Kit.i64_sub (by omega) (by omega)
        have sqD := sq_b (x := dd.toInt) (k := 20) (by omega) (by omega)
        obtain ⟨res, hres⟩ : ∃ z : UInt64, FP.ddiv nq_2 (FP.l2d ((((0 : Int64) + (1 : Int64)) + (1 : Int64)) - (1 : Int64))) = z := ⟨_, rfl⟩
        have Dr : DS (dd.toInt * dd.toInt) 1 res := by
          rw [← hres]
          have q := Dq_2.div (show DS 1 0 (FP.l2d ((((0 : Int64) + (1 : Int64)) + (1 : Int64)) - (1 : Int64))) from DS.l2d (x := (((0 : Int64) + (1 : Int64)) + (1 : Int64)) - (1 : Int64)) (by decide)) (by decide) (q := dd.toInt * dd.toInt) (l := 1) (by rw [vD]; simp) (by omega) (by decide)
          exact q
        have c35 : ∀ t, Steps p.tables e below (T31.setTop (mkF m 98 #[.val (.int p1), .val (.int p2), .val (.int p3), .val (.int md), .val (.long aa), .second, .val (.ref ob), .val (.long bb), .second, .val (.long dd), .second] [(.ref ob)])) t → Steps p.tables e below (s₁.setTop (entryFrame m #[(.int p1), (.int p2), (.int p3)] maxLocals)) t := fun t k => c34 t (by
          show Steps p.tables e below (T31.setTop (mkF m 96 #[.val (.int p1), .val (.int p2), .val (.int p3), .val (.int md), .val (.long aa), .second, .val (.ref ob), .val (.long bb), .second, .val (.long dd), .second] [])) _
          refine XS.aload X31.here hx rfl (hb hby at_96) rfl rfl ?_
          show Steps p.tables e below (T31.setTop (mkF m 98 #[.val (.int p1), .val (.int p2), .val (.int p3), .val (.int md), .val (.long aa), .second, .val (.ref ob), .val (.long bb), .second, .val (.long dd), .second] [(.ref ob)])) _
          exact k)
        obtain ⟨cq36, kq36, q36a, q36b, q36c⟩ := isOf hZ rfl G31_0
        obtain ⟨_, _, ⟨T36, L36, k36', n36⟩, -, X36, ⟨Lc36, hQ36, l36, y36, z36⟩, st36⟩ := X31.virtualBack hx (y := (⟨"com/example/streamgrove/streamgrove/learners/RunningMoments", "variance", "()D"⟩ : MethodName)) (z := (⟨"com/example/streamgrove/streamgrove/learners/RunningMoments", "variance", "()D"⟩ : MethodName)) hown (mvT hZ (hw _ (List.mem_of_getElem? (i := 15) rfl))) (mvT hZ (hw _ (List.mem_of_getElem? (i := 16) rfl))) (notFace_of_selects (args := #[]) (mvT hZ (hw _ (List.mem_of_getElem? (i := 18) rfl)))) (mvT hZ (hw _ (List.mem_of_getElem? (i := 18) rfl))) (mvT hZ (hw _ (List.mem_of_getElem? (i := 17) rfl))) (by decide) (backOf (W := 0) (rm_3 l Z a0 hw [] ob (((0 : Int64) + (1 : Int64)) + (1 : Int64)) nq_2 res T31.heap n0 (Nat.le_trans (Nat.le_trans (Nat.le_trans (Nat.le_trans Z0 E3.1) K11.1) K20.1) K31.1) G31_1 G31_3 (fun q => absurd (by decide) q) (fun _ => ⟨hres, Dr.noNaN⟩)) hZ (hw _ (List.mem_of_getElem? (i := 19) rfl)) (hw _ (List.mem_of_getElem? (i := 2) rfl)) (by decide) (by decide)) q36a q36c (g := (mkF m 98 #[.val (.int p1), .val (.int p2), .val (.int p3), .val (.int md), .val (.long aa), .second, .val (.ref ob), .val (.long bb), .second, .val (.long dd), .second] [(.ref ob)])) rfl (by rw [hml]; rfl) (Steps.refl _) (argsL := []) (rest := []) (lenOf pd___D rfl) rfl (by show 2 * 0 + _ ≤ _; exact Nat.le_of_eq rfl) (hb hby at_98) (fun _ _ => ⟨rfl, rfl, (by decide : 1 + 0 ≤ _), (by decide : 5 + 0 ≤ _)⟩)
        dsimp only [Pt.U, Pt.locs, Pt.cells, Pt.slots] at X36 l36 y36 z36 st36 hQ36
        subst l36 y36 z36
        obtain ⟨rfl, N36, e36⟩ := hQ36
        have M36 := Fr.app M31 N36
        have c37 : ∀ t, Steps p.tables e below (T36.setTop (mkF m 101 #[.val (.int p1), .val (.int p2), .val (.int p3), .val (.int md), .val (.long aa), .second, .val (.ref ob), .val (.long bb), .second, .val (.long dd), .second] [(.double res)])) t → Steps p.tables e below (s₁.setTop (entryFrame m #[(.int p1), (.int p2), (.int p3)] maxLocals)) t := fun t k => c35 t (st36.trans k)
        obtain ⟨d106, hd106⟩ : ∃ v : UInt64, FP.l2d (dd * dd) = v := ⟨_, rfl⟩
        have D106 : DS (dd.toInt * dd.toInt) 0 d106 := by
          have e := Kit.i64_mul (x := dd) (y := dd) (by omega) (by omega)
          rw [← hd106, ← e]; exact DS.l2d (by omega)
        obtain ⟨d110, hd110⟩ : ∃ v : UInt64, FP.ddiv d106 (4611686018427387904 : UInt64) = v := ⟨_, rfl⟩
        have D110 : DS (dd.toInt * dd.toInt) 1 d110 := hd110 ▸ D106.div two_c (by decide) (by simp [Int.mul_comm]) (by omega) (by decide)
        obtain ⟨k111, hk111⟩ : ∃ v : Int32, cmpValue (FP.dcmp res d110) .l = v := ⟨_, rfl⟩
        have e111 : k111 = 0 := by rw [← hk111, Dr.cmp D110 .l, if_neg (by omega), if_pos rfl]
        have c38 : ∀ t, Steps p.tables e below (T36.setTop (mkF m 120 #[.val (.int p1), .val (.int p2), .val (.int p3), .val (.int md), .val (.long aa), .second, .val (.ref ob), .val (.long bb), .second, .val (.long dd), .second] [(.int (1 : Int32))])) t → Steps p.tables e below (s₁.setTop (entryFrame m #[(.int p1), (.int p2), (.int p3)] maxLocals)) t := fun t k => c37 t (by
          show Steps p.tables e below (T36.setTop (mkF m 101 #[.val (.int p1), .val (.int p2), .val (.int p3), .val (.int md), .val (.long aa), .second, .val (.ref ob), .val (.long bb), .second, .val (.long dd), .second] [(.double res)])) _
          refine XT.lload X36.here hx rfl (hb hby at_101) rfl ?_
          show Steps p.tables e below (T36.setTop (mkF m 103 #[.val (.int p1), .val (.int p2), .val (.int p3), .val (.int md), .val (.long aa), .second, .val (.ref ob), .val (.long bb), .second, .val (.long dd), .second] [(.long dd), (.double res)])) _
          refine XT.lload X36.here hx rfl (hb hby at_103) rfl ?_
          show Steps p.tables e below (T36.setTop (mkF m 105 #[.val (.int p1), .val (.int p2), .val (.int p3), .val (.int md), .val (.long aa), .second, .val (.ref ob), .val (.long bb), .second, .val (.long dd), .second] [(.long dd), (.long dd), (.double res)])) _
          refine XT.lmul X36.here hx rfl (hb hby at_105) rfl ?_
          show Steps p.tables e below (T36.setTop (mkF m 106 #[.val (.int p1), .val (.int p2), .val (.int p3), .val (.int md), .val (.long aa), .second, .val (.ref ob), .val (.long bb), .second, .val (.long dd), .second] [(.long (dd * dd)), (.double res)])) _
          refine XS.l2dS X36.here hx rfl (hb hby at_106) rfl hd106 ?_
          show Steps p.tables e below (T36.setTop (mkF m 107 #[.val (.int p1), .val (.int p2), .val (.int p3), .val (.int md), .val (.long aa), .second, .val (.ref ob), .val (.long bb), .second, .val (.long dd), .second] [(.double d106), (.double res)])) _
          refine Jvm.Stand.ldc2DoubleC X36 hx hown (mvT hZ (hw _ (List.mem_of_getElem? (i := 39) rfl))) (g := (mkF m 107 #[.val (.int p1), .val (.int p2), .val (.int p3), .val (.int md), .val (.long aa), .second, .val (.ref ob), .val (.long bb), .second, .val (.long dd), .second] [(.double d106), (.double res)])) rfl (hb hby at_107) _ ?_
          show Steps p.tables e below (T36.setTop (mkF m 110 #[.val (.int p1), .val (.int p2), .val (.int p3), .val (.int md), .val (.long aa), .second, .val (.ref ob), .val (.long bb), .second, .val (.long dd), .second] [(.double (4611686018427387904 : UInt64)), (.double d106), (.double res)])) _
          refine XS.ddivS X36.here hx rfl (hb hby at_110) rfl (hd110 ▸ D110.noNaN) hd110 ?_
          show Steps p.tables e below (T36.setTop (mkF m 111 #[.val (.int p1), .val (.int p2), .val (.int p3), .val (.int md), .val (.long aa), .second, .val (.ref ob), .val (.long bb), .second, .val (.long dd), .second] [(.double d110), (.double res)])) _
          refine XS.dcmpS X36.here hx rfl (hb hby at_111) rfl hk111 ?_
          show Steps p.tables e below (T36.setTop (mkF m 112 #[.val (.int p1), .val (.int p2), .val (.int p3), .val (.int md), .val (.long aa), .second, .val (.ref ob), .val (.long bb), .second, .val (.long dd), .second] [(.int k111)])) _
          refine XS.ifNo X36.here hx rfl (hb hby at_112) rfl (XT.i0_ne_f e111) ?_
          show Steps p.tables e below (T36.setTop (mkF m 115 #[.val (.int p1), .val (.int p2), .val (.int p3), .val (.int md), .val (.long aa), .second, .val (.ref ob), .val (.long bb), .second, .val (.long dd), .second] [])) _
          refine XS.iconst X36.here hx rfl (hb hby at_115) ?_
          show Steps p.tables e below (T36.setTop (mkF m 116 #[.val (.int p1), .val (.int p2), .val (.int p3), .val (.int md), .val (.long aa), .second, .val (.ref ob), .val (.long bb), .second, .val (.long dd), .second] [(.int (1 : Int32))])) _
          refine XS.goto X36.here hx rfl (pc0 := 116) (pc' := 120) rfl (hb hby at_116) (by decide) (by decide) ?_
          show Steps p.tables e below (T36.setTop (mkF m 120 #[.val (.int p1), .val (.int p2), .val (.int p3), .val (.int md), .val (.long aa), .second, .val (.ref ob), .val (.long bb), .second, .val (.long dd), .second] [(.int (1 : Int32))])) _
          exact k)
        obtain ⟨fs, hr, hrun, hended, hW, hsame⟩ := X36.leave (v := (some (.int (1 : Int32)))) (fun h => by rw [Bd.returns] at h; cases h)
        refine ⟨_, _, pre0 _ (c38 _ (retN X36 hx (t := .boolean) Bd.returns (by simp) (hb hby at_120) hr)), hrun, hended, _, _, rfl, ?_, ⟨_, rfl⟩, hW, hsame.mono (by decide) (by decide)⟩
        show Q_0 Z p1 p2 p3 h0 n0 _ T36.heap _
        rw [e36]
        exact ⟨rfl, M36⟩
      · skip
        obtain ⟨kk, hkk⟩ : ∃ v : Int64, v = ((p3 >>> ((13 : Int32) &&& 31)).toInt64) := ⟨_, rfl⟩
        have c39 : ∀ t, Steps p.tables e below (T20.setTop (mkF m 128 #[.val (.int p1), .val (.int p2), .val (.int p3), .val (.int md), .val (.long aa), .second, .val (.ref ob), .val (.long kk), .second, .unset, .unset] [])) t → Steps p.tables e below (s₁.setTop (entryFrame m #[(.int p1), (.int p2), (.int p3)] maxLocals)) t := fun t k => c28 t (by
          rw [hkk] at k
          show Steps p.tables e below (T20.setTop (mkF m 71 #[.val (.int p1), .val (.int p2), .val (.int p3), .val (.int md), .val (.long aa), .second, .val (.ref ob), .unset, .unset, .unset, .unset] [(.int (2 : Int32)), (.int md)])) _
          refine XS.icmpYes X20.here hx rfl (pc0 := 71) (pc' := 121) rfl (hb hby at_71) rfl (XT.ii_ne_t q71) (by decide) (by decide) ?_
          show Steps p.tables e below (T20.setTop (mkF m 121 #[.val (.int p1), .val (.int p2), .val (.int p3), .val (.int md), .val (.long aa), .second, .val (.ref ob), .unset, .unset, .unset, .unset] [])) _
          refine XS.iloadN X20.here hx rfl (hb hby at_121) rfl ?_
          show Steps p.tables e below (T20.setTop (mkF m 122 #[.val (.int p1), .val (.int p2), .val (.int p3), .val (.int md), .val (.long aa), .second, .val (.ref ob), .unset, .unset, .unset, .unset] [(.int p3)])) _
          refine XS.bipush X20.here hx rfl (hb hby at_122) ?_
          show Steps p.tables e below (T20.setTop (mkF m 124 #[.val (.int p1), .val (.int p2), .val (.int p3), .val (.int md), .val (.long aa), .second, .val (.ref ob), .unset, .unset, .unset, .unset] [(.int (13 : Int32)), (.int p3)])) _
          refine XT.ishr X20.here hx rfl (hb hby at_124) rfl ?_
          show Steps p.tables e below (T20.setTop (mkF m 125 #[.val (.int p1), .val (.int p2), .val (.int p3), .val (.int md), .val (.long aa), .second, .val (.ref ob), .unset, .unset, .unset, .unset] [(.int (p3 >>> ((13 : Int32) &&& 31)))])) _
          refine XT.i2l X20.here hx rfl (hb hby at_125) rfl ?_
          show Steps p.tables e below (T20.setTop (mkF m 126 #[.val (.int p1), .val (.int p2), .val (.int p3), .val (.int md), .val (.long aa), .second, .val (.ref ob), .unset, .unset, .unset, .unset] [(.long ((p3 >>> ((13 : Int32) &&& 31)).toInt64))])) _
          refine XT.lstore X20.here hx rfl (hb hby at_126) rfl (l' := #[.val (.int p1), .val (.int p2), .val (.int p3), .val (.int md), .val (.long aa), .second, .val (.ref ob), .val (.long ((p3 >>> ((13 : Int32) &&& 31)).toInt64)), .second, .unset, .unset]) rfl ?_
          show Steps p.tables e below (T20.setTop (mkF m 128 #[.val (.int p1), .val (.int p2), .val (.int p3), .val (.int md), .val (.long aa), .second, .val (.ref ob), .val (.long ((p3 >>> ((13 : Int32) &&& 31)).toInt64)), .second, .unset, .unset] [])) _
          exact k)
        obtain ⟨vk, vk1, vk2⟩ := shr_k p3 13 (k := 13) (by decide) (K := 18) (by decide)
        rw [← hkk] at vk
        have vK : -2 ^ 18 ≤ kk.toInt ∧ kk.toInt < 2 ^ 18 := by omega
        have sqK := sq_b (x := kk.toInt) (k := 18) (by omega) (by omega)
        obtain ⟨dc, hdc⟩ : ∃ v : UInt64, FP.l2d (aa + ((2 : Int64) * kk)) = v := ⟨_, rfl⟩
        have Dc : DS (aa.toInt + 2 * kk.toInt) 0 dc := by
          have e1 : ((2 : Int64) * kk).toInt = 2 * kk.toInt := Kit.i64_mul (x := 2) (y := kk) (by rw [show (2 : Int64).toInt = 2 by decide]; omega) (by rw [show (2 : Int64).toInt = 2 by decide]; omega)
          have e2 : (aa + (2 : Int64) * kk).toInt = aa.toInt + 2 * kk.toInt := by rw [Kit.i64_add (by omega) (by omega), e1]
          rw [← hdc, ← e2]; exact DS.l2d (by omega)
        obtain ⟨b1_3, q1_3, nm_3, t1_3, u1_3, nq_3, hb1_3, hq1_3, hnm_3, ht1_3, hu1_3, hnq_3, nb1_3, nq1_3, nnm_3, nt1_3, nu1_3, nnq_3, Dm_3, Dq_3⟩ := add_k (v := aa.toInt + 2 * kk.toInt) (N := 2) (B := 2 * kk.toInt) Dc Dm_1 Dq_1 (show DS 2 0 (FP.l2d (((0 : Int64) + (1 : Int64)) + (1 : Int64))) from DS.l2d (x := ((0 : Int64) + (1 : Int64)) + (1 : Int64)) (by decide)) (by decide) (by omega) (by omega) (by omega) (by decide) (by omega) (4 * (kk.toInt * kk.toInt)) (by grind)
        obtain ⟨ns_3, hns_3⟩ : ∃ z : UInt64, Jvm.Native.java_lang_Math.nans.pick64 false ns_1 dc = z := ⟨_, rfl⟩
        obtain ⟨nl_3, hnl_3⟩ : ∃ z : UInt64, Jvm.Native.java_lang_Math.nans.pick64 true nl_1 dc = z := ⟨_, rfl⟩
        have c40 : ∀ t, Steps p.tables e below (T20.setTop (mkF m 140 #[.val (.int p1), .val (.int p2), .val (.int p3), .val (.int md), .val (.long aa), .second, .val (.ref ob), .val (.long kk), .second, .unset, .unset] [(.double dc), (.ref ob)])) t → Steps p.tables e below (s₁.setTop (entryFrame m #[(.int p1), (.int p2), (.int p3)] maxLocals)) t := fun t k => c39 t (by
          show Steps p.tables e below (T20.setTop (mkF m 128 #[.val (.int p1), .val (.int p2), .val (.int p3), .val (.int md), .val (.long aa), .second, .val (.ref ob), .val (.long kk), .second, .unset, .unset] [])) _
          refine XS.aload X20.here hx rfl (hb hby at_128) rfl rfl ?_
          show Steps p.tables e below (T20.setTop (mkF m 130 #[.val (.int p1), .val (.int p2), .val (.int p3), .val (.int md), .val (.long aa), .second, .val (.ref ob), .val (.long kk), .second, .unset, .unset] [(.ref ob)])) _
          refine XT.lload X20.here hx rfl (hb hby at_130) rfl ?_
          show Steps p.tables e below (T20.setTop (mkF m 132 #[.val (.int p1), .val (.int p2), .val (.int p3), .val (.int md), .val (.long aa), .second, .val (.ref ob), .val (.long kk), .second, .unset, .unset] [(.long aa), (.ref ob)])) _
          refine Jvm.Stand.ldc2J X20 hx hown (mvT hZ (hw _ (List.mem_of_getElem? (i := 38) rfl))) rfl (hb hby at_132) ?_
          show Steps p.tables e below (T20.setTop (mkF m 135 #[.val (.int p1), .val (.int p2), .val (.int p3), .val (.int md), .val (.long aa), .second, .val (.ref ob), .val (.long kk), .second, .unset, .unset] [(.long (2 : Int64)), (.long aa), (.ref ob)])) _
          refine XT.lload X20.here hx rfl (hb hby at_135) rfl ?_
          show Steps p.tables e below (T20.setTop (mkF m 137 #[.val (.int p1), .val (.int p2), .val (.int p3), .val (.int md), .val (.long aa), .second, .val (.ref ob), .val (.long kk), .second, .unset, .unset] [(.long kk), (.long (2 : Int64)), (.long aa), (.ref ob)])) _
          refine XT.lmul X20.here hx rfl (hb hby at_137) rfl ?_
          show Steps p.tables e below (T20.setTop (mkF m 138 #[.val (.int p1), .val (.int p2), .val (.int p3), .val (.int md), .val (.long aa), .second, .val (.ref ob), .val (.long kk), .second, .unset, .unset] [(.long ((2 : Int64) * kk)), (.long aa), (.ref ob)])) _
          refine XT.ladd X20.here hx rfl (hb hby at_138) rfl ?_
          show Steps p.tables e below (T20.setTop (mkF m 139 #[.val (.int p1), .val (.int p2), .val (.int p3), .val (.int md), .val (.long aa), .second, .val (.ref ob), .val (.long kk), .second, .unset, .unset] [(.long (aa + ((2 : Int64) * kk))), (.ref ob)])) _
          refine XS.l2dS X20.here hx rfl (hb hby at_139) rfl hdc ?_
          show Steps p.tables e below (T20.setTop (mkF m 140 #[.val (.int p1), .val (.int p2), .val (.int p3), .val (.int md), .val (.long aa), .second, .val (.ref ob), .val (.long kk), .second, .unset, .unset] [(.double dc), (.ref ob)])) _
          exact k)
        obtain ⟨cq41, kq41, q41a, q41b, q41c⟩ := isOf hZ rfl G20_0
        obtain ⟨_, _, ⟨T41, L41, k41', n41⟩, -, X41, ⟨Lc41, hQ41, l41, y41, z41⟩, st41⟩ := X20.virtualBack hx (y := (⟨"com/example/streamgrove/streamgrove/learners/RunningMoments", "add", "(D)V"⟩ : MethodName)) (z := (⟨"com/example/streamgrove/streamgrove/learners/RunningMoments", "add", "(D)V"⟩ : MethodName)) hown (mvT hZ (hw _ (List.mem_of_getElem? (i := 22) rfl))) (mvT hZ (hw _ (List.mem_of_getElem? (i := 23) rfl))) (notFace_of_selects (args := #[]) (mvT hZ (hw _ (List.mem_of_getElem? (i := 25) rfl)))) (mvT hZ (hw _ (List.mem_of_getElem? (i := 25) rfl))) (mvT hZ (hw _ (List.mem_of_getElem? (i := 24) rfl))) (by decide) (backOf (W := 0) (rm_4 l Z a0 hw [] ob dc ((0 : Int64) + (1 : Int64)) nm_1 nq_1 ns_1 nl_1 b1_3 q1_3 nm_3 t1_3 u1_3 nq_3 ns_3 nl_3 T20.heap n0 (Nat.le_trans (Nat.le_trans (Nat.le_trans Z0 E3.1) K11.1) K20.1) G20_0 G20_1 G20_2 G20_3 G20_4 G20_5 (Nat.le_trans Z0 (Nat.le_of_eq g3.symm)) hb1_3 hq1_3 hnm_3 ht1_3 hu1_3 hnq_3 hns_3 hnl_3 nb1_3 nq1_3 nnm_3 nt1_3 nu1_3 nnq_3 (toNaN Dc.1) nns_1 nnl_1) hZ (hw _ (List.mem_of_getElem? (i := 26) rfl)) (hw _ (List.mem_of_getElem? (i := 2) rfl)) (by decide) (by decide)) q41a q41c (g := (mkF m 140 #[.val (.int p1), .val (.int p2), .val (.int p3), .val (.int md), .val (.long aa), .second, .val (.ref ob), .val (.long kk), .second, .unset, .unset] [(.double dc), (.ref ob)])) rfl (by rw [hml]; rfl) (Steps.refl _) (argsL := [(.double dc)]) (rest := []) (lenOf pd__D_V rfl) rfl (by show 2 * 0 + _ ≤ _; exact Nat.le_of_eq rfl) (hb hby at_140) (fun _ _ => ⟨rfl, rfl, (by decide : 1 + 0 ≤ _), (by decide : 5 + 0 ≤ _)⟩)
        dsimp only [Pt.U, Pt.locs, Pt.cells, Pt.slots] at X41 l41 y41 z41 st41 hQ41
        subst l41 y41 z41
        obtain ⟨rfl, N41, K41, G41_0, G41_1, G41_2, G41_3, G41_4, G41_5⟩ := hQ41
        have M41 := Fr.app M20 N41
        have F42 : Exa Z T41.heap ob "com/example/streamgrove/streamgrove/learners/RunningMoments" := (G20_0.keep K41)
        have c43 : ∀ t, Steps p.tables e below (T41.setTop (mkF m 143 #[.val (.int p1), .val (.int p2), .val (.int p3), .val (.int md), .val (.long aa), .second, .val (.ref ob), .val (.long kk), .second, .unset, .unset] [])) t → Steps p.tables e below (s₁.setTop (entryFrame m #[(.int p1), (.int p2), (.int p3)] maxLocals)) t := fun t k => c40 t (st41.trans k)
        have nns_3 : FP.dIsNaN ns_3 = false := hns_3 ▸ pick_nan nns_1 (toNaN Dc.1)
        have nnl_3 : FP.dIsNaN nl_3 = false := hnl_3 ▸ pick_nan nnl_1 (toNaN Dc.1)
        obtain ⟨de, hde⟩ : ∃ v : UInt64, FP.l2d (aa + kk) = v := ⟨_, rfl⟩
        have De : DS (aa.toInt + kk.toInt) 0 de := by
          have e2 : (aa + kk).toInt = aa.toInt + kk.toInt := Kit.i64_add (by omega) (by omega)
          rw [← hde, ← e2]; exact DS.l2d (by omega)
        obtain ⟨b1_4, q1_4, nm_4, t1_4, u1_4, nq_4, hb1_4, hq1_4, hnm_4, ht1_4, hu1_4, hnq_4, nb1_4, nq1_4, nnm_4, nt1_4, nu1_4, nnq_4, Dm_4, Dq_4⟩ := add_k (v := aa.toInt + kk.toInt) (N := 3) (B := 0) De Dm_3 Dq_3 (show DS 3 0 (FP.l2d ((((0 : Int64) + (1 : Int64)) + (1 : Int64)) + (1 : Int64))) from DS.l2d (x := (((0 : Int64) + (1 : Int64)) + (1 : Int64)) + (1 : Int64)) (by decide)) (by decide) (by omega) (by omega) (by omega) (by omega) (by decide) 0 (by grind)
        obtain ⟨ns_4, hns_4⟩ : ∃ z : UInt64, Jvm.Native.java_lang_Math.nans.pick64 false ns_3 de = z := ⟨_, rfl⟩
        obtain ⟨nl_4, hnl_4⟩ : ∃ z : UInt64, Jvm.Native.java_lang_Math.nans.pick64 true nl_3 de = z := ⟨_, rfl⟩
        have c44 : ∀ t, Steps p.tables e below (T41.setTop (mkF m 151 #[.val (.int p1), .val (.int p2), .val (.int p3), .val (.int md), .val (.long aa), .second, .val (.ref ob), .val (.long kk), .second, .unset, .unset] [(.double de), (.ref ob)])) t → Steps p.tables e below (s₁.setTop (entryFrame m #[(.int p1), (.int p2), (.int p3)] maxLocals)) t := fun t k => c43 t (by
          show Steps p.tables e below (T41.setTop (mkF m 143 #[.val (.int p1), .val (.int p2), .val (.int p3), .val (.int md), .val (.long aa), .second, .val (.ref ob), .val (.long kk), .second, .unset, .unset] [])) _
          refine XS.aload X41.here hx rfl (hb hby at_143) rfl rfl ?_
          show Steps p.tables e below (T41.setTop (mkF m 145 #[.val (.int p1), .val (.int p2), .val (.int p3), .val (.int md), .val (.long aa), .second, .val (.ref ob), .val (.long kk), .second, .unset, .unset] [(.ref ob)])) _
          refine XT.lload X41.here hx rfl (hb hby at_145) rfl ?_
          show Steps p.tables e below (T41.setTop (mkF m 147 #[.val (.int p1), .val (.int p2), .val (.int p3), .val (.int md), .val (.long aa), .second, .val (.ref ob), .val (.long kk), .second, .unset, .unset] [(.long aa), (.ref ob)])) _
          refine XT.lload X41.here hx rfl (hb hby at_147) rfl ?_
          show Steps p.tables e below (T41.setTop (mkF m 149 #[.val (.int p1), .val (.int p2), .val (.int p3), .val (.int md), .val (.long aa), .second, .val (.ref ob), .val (.long kk), .second, .unset, .unset] [(.long kk), (.long aa), (.ref ob)])) _
          refine XT.ladd X41.here hx rfl (hb hby at_149) rfl ?_
          show Steps p.tables e below (T41.setTop (mkF m 150 #[.val (.int p1), .val (.int p2), .val (.int p3), .val (.int md), .val (.long aa), .second, .val (.ref ob), .val (.long kk), .second, .unset, .unset] [(.long (aa + kk)), (.ref ob)])) _
          refine XS.l2dS X41.here hx rfl (hb hby at_150) rfl hde ?_
          show Steps p.tables e below (T41.setTop (mkF m 151 #[.val (.int p1), .val (.int p2), .val (.int p3), .val (.int md), .val (.long aa), .second, .val (.ref ob), .val (.long kk), .second, .unset, .unset] [(.double de), (.ref ob)])) _
          exact k)
        obtain ⟨cq45, kq45, q45a, q45b, q45c⟩ := isOf hZ rfl G41_0
        obtain ⟨_, _, ⟨T45, L45, k45', n45⟩, -, X45, ⟨Lc45, hQ45, l45, y45, z45⟩, st45⟩ := X41.virtualBack hx (y := (⟨"com/example/streamgrove/streamgrove/learners/RunningMoments", "add", "(D)V"⟩ : MethodName)) (z := (⟨"com/example/streamgrove/streamgrove/learners/RunningMoments", "add", "(D)V"⟩ : MethodName)) hown (mvT hZ (hw _ (List.mem_of_getElem? (i := 22) rfl))) (mvT hZ (hw _ (List.mem_of_getElem? (i := 23) rfl))) (notFace_of_selects (args := #[]) (mvT hZ (hw _ (List.mem_of_getElem? (i := 25) rfl)))) (mvT hZ (hw _ (List.mem_of_getElem? (i := 25) rfl))) (mvT hZ (hw _ (List.mem_of_getElem? (i := 24) rfl))) (by decide) (backOf (W := 0) (rm_4 l Z a0 hw [] ob de (((0 : Int64) + (1 : Int64)) + (1 : Int64)) nm_3 nq_3 ns_3 nl_3 b1_4 q1_4 nm_4 t1_4 u1_4 nq_4 ns_4 nl_4 T41.heap n0 (Nat.le_trans (Nat.le_trans (Nat.le_trans (Nat.le_trans Z0 E3.1) K11.1) K20.1) K41.1) G41_0 G41_1 G41_2 G41_3 G41_4 G41_5 (Nat.le_trans Z0 (Nat.le_of_eq g3.symm)) hb1_4 hq1_4 hnm_4 ht1_4 hu1_4 hnq_4 hns_4 hnl_4 nb1_4 nq1_4 nnm_4 nt1_4 nu1_4 nnq_4 (toNaN De.1) nns_3 nnl_3) hZ (hw _ (List.mem_of_getElem? (i := 26) rfl)) (hw _ (List.mem_of_getElem? (i := 2) rfl)) (by decide) (by decide)) q45a q45c (g := (mkF m 151 #[.val (.int p1), .val (.int p2), .val (.int p3), .val (.int md), .val (.long aa), .second, .val (.ref ob), .val (.long kk), .second, .unset, .unset] [(.double de), (.ref ob)])) rfl (by rw [hml]; rfl) (Steps.refl _) (argsL := [(.double de)]) (rest := []) (lenOf pd__D_V rfl) rfl (by show 2 * 0 + _ ≤ _; exact Nat.le_of_eq rfl) (hb hby at_151) (fun _ _ => ⟨rfl, rfl, (by decide : 1 + 0 ≤ _), (by decide : 5 + 0 ≤ _)⟩)
        dsimp only [Pt.U, Pt.locs, Pt.cells, Pt.slots] at X45 l45 y45 z45 st45 hQ45
        subst l45 y45 z45
        obtain ⟨rfl, N45, K45, G45_0, G45_1, G45_2, G45_3, G45_4, G45_5⟩ := hQ45
        have M45 := Fr.app M41 N45
        have F46 : Exa Z T45.heap ob "com/example/streamgrove/streamgrove/learners/RunningMoments" := (G41_0.keep K45)
        have c47 : ∀ t, Steps p.tables e below (T45.setTop (mkF m 154 #[.val (.int p1), .val (.int p2), .val (.int p3), .val (.int md), .val (.long aa), .second, .val (.ref ob), .val (.long kk), .second, .unset, .unset] [])) t → Steps p.tables e below (s₁.setTop (entryFrame m #[(.int p1), (.int p2), (.int p3)] maxLocals)) t := fun t k => c44 t (st45.trans k)
        have nns_4 : FP.dIsNaN ns_4 = false := hns_4 ▸ pick_nan nns_3 (toNaN De.1)
        have nnl_4 : FP.dIsNaN nl_4 = false := hnl_4 ▸ pick_nan nnl_3 (toNaN De.1)
        obtain ⟨res, hres⟩ : ∃ z : UInt64, FP.ddiv nq_4 (FP.l2d (((((0 : Int64) + (1 : Int64)) + (1 : Int64)) + (1 : Int64)) - (1 : Int64))) = z := ⟨_, rfl⟩
        have Dr : DS (kk.toInt * kk.toInt) 0 res := by
          rw [← hres]
          exact Dq_4.div (show DS 2 0 (FP.l2d (((((0 : Int64) + (1 : Int64)) + (1 : Int64)) + (1 : Int64)) - (1 : Int64))) from DS.l2d (x := ((((0 : Int64) + (1 : Int64)) + (1 : Int64)) + (1 : Int64)) - (1 : Int64)) (by decide)) (by decide) (q := kk.toInt * kk.toInt) (l := 0) (by simp; omega) (by omega) (by decide)
        have c48 : ∀ t, Steps p.tables e below (T45.setTop (mkF m 156 #[.val (.int p1), .val (.int p2), .val (.int p3), .val (.int md), .val (.long aa), .second, .val (.ref ob), .val (.long kk), .second, .unset, .unset] [(.ref ob)])) t → Steps p.tables e below (s₁.setTop (entryFrame m #[(.int p1), (.int p2), (.int p3)] maxLocals)) t := fun t k => c47 t (by
          show Steps p.tables e below (T45.setTop (mkF m 154 #[.val (.int p1), .val (.int p2), .val (.int p3), .val (.int md), .val (.long aa), .second, .val (.ref ob), .val (.long kk), .second, .unset, .unset] [])) _
          refine XS.aload X45.here hx rfl (hb hby at_154) rfl rfl ?_
          show Steps p.tables e below (T45.setTop (mkF m 156 #[.val (.int p1), .val (.int p2), .val (.int p3), .val (.int md), .val (.long aa), .second, .val (.ref ob), .val (.long kk), .second, .unset, .unset] [(.ref ob)])) _
          exact k)
        obtain ⟨cq49, kq49, q49a, q49b, q49c⟩ := isOf hZ rfl G45_0
        obtain ⟨_, _, ⟨T49, L49, k49', n49⟩, -, X49, ⟨Lc49, hQ49, l49, y49, z49⟩, st49⟩ := X45.virtualBack hx (y := (⟨"com/example/streamgrove/streamgrove/learners/RunningMoments", "variance", "()D"⟩ : MethodName)) (z := (⟨"com/example/streamgrove/streamgrove/learners/RunningMoments", "variance", "()D"⟩ : MethodName)) hown (mvT hZ (hw _ (List.mem_of_getElem? (i := 15) rfl))) (mvT hZ (hw _ (List.mem_of_getElem? (i := 16) rfl))) (notFace_of_selects (args := #[]) (mvT hZ (hw _ (List.mem_of_getElem? (i := 18) rfl)))) (mvT hZ (hw _ (List.mem_of_getElem? (i := 18) rfl))) (mvT hZ (hw _ (List.mem_of_getElem? (i := 17) rfl))) (by decide) (backOf (W := 0) (rm_3 l Z a0 hw [] ob ((((0 : Int64) + (1 : Int64)) + (1 : Int64)) + (1 : Int64)) nq_4 res T45.heap n0 (Nat.le_trans (Nat.le_trans (Nat.le_trans (Nat.le_trans (Nat.le_trans Z0 E3.1) K11.1) K20.1) K41.1) K45.1) G45_1 G45_3 (fun q => absurd (by decide) q) (fun _ => ⟨hres, Dr.noNaN⟩)) hZ (hw _ (List.mem_of_getElem? (i := 19) rfl)) (hw _ (List.mem_of_getElem? (i := 2) rfl)) (by decide) (by decide)) q49a q49c (g := (mkF m 156 #[.val (.int p1), .val (.int p2), .val (.int p3), .val (.int md), .val (.long aa), .second, .val (.ref ob), .val (.long kk), .second, .unset, .unset] [(.ref ob)])) rfl (by rw [hml]; rfl) (Steps.refl _) (argsL := []) (rest := []) (lenOf pd___D rfl) rfl (by show 2 * 0 + _ ≤ _; exact Nat.le_of_eq rfl) (hb hby at_156) (fun _ _ => ⟨rfl, rfl, (by decide : 1 + 0 ≤ _), (by decide : 5 + 0 ≤ _)⟩)
        dsimp only [Pt.U, Pt.locs, Pt.cells, Pt.slots] at X49 l49 y49 z49 st49 hQ49
        subst l49 y49 z49
        obtain ⟨rfl, N49, e49⟩ := hQ49
        have M49 := Fr.app M45 N49
        have c50 : ∀ t, Steps p.tables e below (T49.setTop (mkF m 159 #[.val (.int p1), .val (.int p2), .val (.int p3), .val (.int md), .val (.long aa), .second, .val (.ref ob), .val (.long kk), .second, .unset, .unset] [(.double res)])) t → Steps p.tables e below (s₁.setTop (entryFrame m #[(.int p1), (.int p2), (.int p3)] maxLocals)) t := fun t k => c48 t (st49.trans k)
        obtain ⟨d164, hd164⟩ : ∃ v : UInt64, FP.l2d (kk * kk) = v := ⟨_, rfl⟩
        have D164 : DS (kk.toInt * kk.toInt) 0 d164 := by
          have e := Kit.i64_mul (x := kk) (y := kk) (by omega) (by omega)
          rw [← hd164, ← e]; exact DS.l2d (by omega)
        obtain ⟨k165, hk165⟩ : ∃ v : Int32, cmpValue (FP.dcmp res d164) .l = v := ⟨_, rfl⟩
        have e165 : k165 = 0 := by rw [← hk165, Dr.cmp D164 .l, if_neg (by omega), if_pos rfl]
        have c51 : ∀ t, Steps p.tables e below (T49.setTop (mkF m 174 #[.val (.int p1), .val (.int p2), .val (.int p3), .val (.int md), .val (.long aa), .second, .val (.ref ob), .val (.long kk), .second, .unset, .unset] [(.int (1 : Int32))])) t → Steps p.tables e below (s₁.setTop (entryFrame m #[(.int p1), (.int p2), (.int p3)] maxLocals)) t := fun t k => c50 t (by
          show Steps p.tables e below (T49.setTop (mkF m 159 #[.val (.int p1), .val (.int p2), .val (.int p3), .val (.int md), .val (.long aa), .second, .val (.ref ob), .val (.long kk), .second, .unset, .unset] [(.double res)])) _
          refine XT.lload X49.here hx rfl (hb hby at_159) rfl ?_
          show Steps p.tables e below (T49.setTop (mkF m 161 #[.val (.int p1), .val (.int p2), .val (.int p3), .val (.int md), .val (.long aa), .second, .val (.ref ob), .val (.long kk), .second, .unset, .unset] [(.long kk), (.double res)])) _
          refine XT.lload X49.here hx rfl (hb hby at_161) rfl ?_
          show Steps p.tables e below (T49.setTop (mkF m 163 #[.val (.int p1), .val (.int p2), .val (.int p3), .val (.int md), .val (.long aa), .second, .val (.ref ob), .val (.long kk), .second, .unset, .unset] [(.long kk), (.long kk), (.double res)])) _
          refine XT.lmul X49.here hx rfl (hb hby at_163) rfl ?_
          show Steps p.tables e below (T49.setTop (mkF m 164 #[.val (.int p1), .val (.int p2), .val (.int p3), .val (.int md), .val (.long aa), .second, .val (.ref ob), .val (.long kk), .second, .unset, .unset] [(.long (kk * kk)), (.double res)])) _
          refine XS.l2dS X49.here hx rfl (hb hby at_164) rfl hd164 ?_
          show Steps p.tables e below (T49.setTop (mkF m 165 #[.val (.int p1), .val (.int p2), .val (.int p3), .val (.int md), .val (.long aa), .second, .val (.ref ob), .val (.long kk), .second, .unset, .unset] [(.double d164), (.double res)])) _
          refine XS.dcmpS X49.here hx rfl (hb hby at_165) rfl hk165 ?_
          show Steps p.tables e below (T49.setTop (mkF m 166 #[.val (.int p1), .val (.int p2), .val (.int p3), .val (.int md), .val (.long aa), .second, .val (.ref ob), .val (.long kk), .second, .unset, .unset] [(.int k165)])) _
          refine XS.ifNo X49.here hx rfl (hb hby at_166) rfl (XT.i0_ne_f e165) ?_
          show Steps p.tables e below (T49.setTop (mkF m 169 #[.val (.int p1), .val (.int p2), .val (.int p3), .val (.int md), .val (.long aa), .second, .val (.ref ob), .val (.long kk), .second, .unset, .unset] [])) _
          refine XS.iconst X49.here hx rfl (hb hby at_169) ?_
          show Steps p.tables e below (T49.setTop (mkF m 170 #[.val (.int p1), .val (.int p2), .val (.int p3), .val (.int md), .val (.long aa), .second, .val (.ref ob), .val (.long kk), .second, .unset, .unset] [(.int (1 : Int32))])) _
          refine XS.goto X49.here hx rfl (pc0 := 170) (pc' := 174) rfl (hb hby at_170) (by decide) (by decide) ?_
          show Steps p.tables e below (T49.setTop (mkF m 174 #[.val (.int p1), .val (.int p2), .val (.int p3), .val (.int md), .val (.long aa), .second, .val (.ref ob), .val (.long kk), .second, .unset, .unset] [(.int (1 : Int32))])) _
          exact k)
        obtain ⟨fs, hr, hrun, hended, hW, hsame⟩ := X49.leave (v := (some (.int (1 : Int32)))) (fun h => by rw [Bd.returns] at h; cases h)
        refine ⟨_, _, pre0 _ (c51 _ (retN X49 hx (t := .boolean) Bd.returns (by simp) (hb hby at_174) hr)), hrun, hended, _, _, rfl, ?_, ⟨_, rfl⟩, hW, hsame.mono (by decide) (by decide)⟩
        show Q_0 Z p1 p2 p3 h0 n0 _ T49.heap _
        rw [e49]
        exact ⟨rfl, M49⟩
set_option maxRecDepth 65536 in
set_option maxHeartbeats 40000000 in
theorem comes_1 {Post : Tables → Env → Array Value → State → Outcome → State → Prop} (hpost : ∀ tb e args s v u, (limb_1_1.after args s (.returned v) u = true ∧ limb_1_2.after args s (.returned v) u = true ∧ True) → FrameEnd s (.returned v) u (Jvm.fieldLocs frame_1_writes args s ++ Jvm.arrayLocs frame_1_arrays args s ++ Jvm.staticLocs frame_1_statics s) 16 128 → Post tb e args s (.returned v) u) :
    ArmFor flags0 classFile x code maxLocals ret World_1 tables_1 room_1 Calls_1 rest_1 Pre_1 Post := by
  intro l hfl _ _ p e ha hc hk s m args below hf hA hF happ hP
  obtain ⟨hcalls, hrest, hpre⟩ := hP
  obtain ⟨-, -, -, hnamed, -, -, -, hat⟩ := (Spec.applies_iff hf).mp happ
  obtain ⟨hg, hn⟩ := and_e (Cond.before_iff.mp (show (Jvm.Cond.and given_1 narrow_1).before args s = true from hpre))
  obtain ⟨g0, r0⟩ := and_e hg
  obtain ⟨g1, r1⟩ := and_e r0
  obtain ⟨g2, r2⟩ := and_e r1
  obtain ⟨w0, w1, w2, rfl⟩ : ∃ w0 w1 w2 : Value, args = #[w0, w1, w2] := by
    have hs : args.size = 3 := by simpa [Cond.value, given_1] using g0
    obtain ⟨L⟩ := args
    match L, hs with
    | [w0, w1, w2], _ => exact ⟨w0, w1, w2, rfl⟩
  have hw := fun d (hd : d ∈ tables_1) => atoms_spec (ws := Jvm.Cond.code x code maxLocals ret :: tables_1) hat d (List.mem_cons_of_mem _ hd)
  obtain ⟨i0, e0⟩ := is_v g1
  obtain rfl : w0 = (.int i0) := Option.some.inj e0
  obtain ⟨i1, e1⟩ := is_v g2
  obtain rfl : w1 = (.int i1) := Option.some.inj e1
  obtain ⟨i2, e2⟩ := is_v r2
  obtain rfl : w2 = (.int i2) := Option.some.inj e2
  obtain ⟨n, o, h1, h2, h3, _, L, rfl, ⟨rfl, N⟩, hq⟩ := rm_0 l s _ hw tables_1 i0 i1 i2 s.heap s.heap.size (Nat.le_refl _)  p e ha hc hk s m _ below hf ((Spec.applies_iff_loose hf).mp happ).1 ⟨rfl, State.Warmed39.refl s, rfl⟩ trivial
  refine ⟨n, _, h1, h2, h3, hpost _ _ _ _ _ _ ⟨Cond.after_iff.mpr rfl, Cond.after_iff.mpr (eq_i res_at (Term.int_eval (1)) rfl), trivial⟩ ⟨hq.1, hq.2.1, (hq.2.2.sift fun y hy => Or.inr (N y hy)).mono (by decide) (by decide)⟩⟩
theorem main_1_1 : Claimed_1_1 := comes_1 fun _ _ _ _ _ _ h hF => ⟨h.1, hF⟩
theorem main_1_2 : Claimed_1_2 := comes_1 fun _ _ _ _ _ _ h hF => ⟨h.2.1, hF⟩
end Jvm.Pilot.@@N@@
namespace Jvm.Pilot.@@N@@
open Jvm Jvm.ClassFile Sem Op Lib Jvm.Free Jvm.Stand Jvm.Pilot.@@N@@.Jvm.D
/-! MADE BY PROGRAM (witnessworld.py) out of the Statement's table words and the real class files: 10 classes; the members and pool entries that the words name. The judged class is class 1, her method 1. -/
namespace start1
open Jvm.ClassFile
def u (s : String) : CpInfo := .utf8 (stringToUtf16 s)
/-- a pool by its gaps: so many unusable entries, then the entry; so many at the end -/
def gap : Nat → List CpInfo → List CpInfo
  | 0, r => r
  | n + 1, r => .unusable :: gap n r
def poolList (es : List (Nat × CpInfo)) (last : Nat) : List CpInfo := es.foldr (fun e r => gap e.1 (e.2 :: r)) (gap last [])
def pool (es : List (Nat × CpInfo)) (last : Nat) : Array CpInfo := ⟨poolList es last⟩
def fileOf (pool : Array CpInfo) (this : Nat) (attrs : Array Attribute := #[]) (ms : Array MethodInfo := #[]) (fl : Nat := 33) (sup : Nat := 0) (ifs : Array Nat := #[]) (fds : Array FieldInfo := #[]) : ClassFile where
  minorVersion := 0
  majorVersion := 65
  constantPool := pool
  accessFlags := fl
  thisClass := this
  superClass := sup
  interfaces := ifs
  fields := fds
  methods := ms
  attributes := attrs
def plain (name : String) (sup : Option ClassId) : Class where
  name := name
  kind := .ordinary
  loader := none
  accessFlags := 33
  super := sup
  interfaces := #[]
  cf := none
  fields := #[]
  methods := #[]
  instanceTypes := #[]
  staticTypes := #[]
  resolved := #[]
  callSites := []
  init := .initialized
  statics := none
  mirror := none

def pool0 : Array CpInfo := pool [(5, u "<init>"), (0, u "()V"), (1, .class_ 10), (1, u "java/lang/Object")] 113

def k0c0 : Code := { maxStack := 0, maxLocals := 1, code := object_method_1_code, exceptionTable := #[], attributes := #[] }
def k0m0 : Method := { name := "<init>", desc := "()V", sig := { parameters := [], returnType := none }, accessFlags := 1, code := some k0c0 }
/-- java/lang/Object -/
def k0 : Class := { plain "java/lang/Object" none with
  accessFlags := 33
  interfaces := #[]
  cf := some (fileOf pool0 8 #[] #[{ accessFlags := 1, nameIndex := 5, descriptorIndex := 6, attributes := #[] }] 33 0 #[] #[])
  fields := #[]
  methods := #[k0m0]
  instanceTypes := #[]
  staticTypes := #[]
  resolved := Array.replicate 124 none
  statics := none }

def pool1 : Array CpInfo := pool [(2, .class_ 4), (0, .nameAndType 5 6), (0, u "java/lang/Object"), (0, u "<init>"), (0, u "()V"), (0, .class_ 8), (0, u "com/example/streamgrove/streamgrove/learners/RunningMoments"), (0, .methodref 7 3), (0, .methodref 7 11), (0, .nameAndType 12 13), (0, u "variance"), (0, u "()D"), (0, .methodref 7 15), (0, .nameAndType 16 17), (0, u "add"), (0, u "(D)V"), (0, .double 4611686018427387904), (1, .long 2), (1, .class_ 23), (0, u "com/example/streamgrove/streamgrove/learners/RunningMomentsVariancePinLaw"), (2, u "law"), (0, u "(III)Z")] 3

def k1m0 : Method := { name := "<init>", desc := "()V", sig := { parameters := [], returnType := none }, accessFlags := 1, code := none }
def k1c1 : Code := { maxStack := 7, maxLocals := 11, code := code, exceptionTable := #[], attributes := #[] }
def k1m1 : Method := { name := "law", desc := "(III)Z", sig := { parameters := [.int, .int, .int], returnType := some .boolean }, accessFlags := 9, code := some k1c1 }
/-- com/example/streamgrove/streamgrove/learners/RunningMomentsVariancePinLaw -/
def k1 : Class := { plain "com/example/streamgrove/streamgrove/learners/RunningMomentsVariancePinLaw" (some 0) with
  accessFlags := 49
  interfaces := #[]
  cf := some (fileOf pool1 22 #[] #[{ accessFlags := 1, nameIndex := 5, descriptorIndex := 6, attributes := #[] }, { accessFlags := 9, nameIndex := 26, descriptorIndex := 27, attributes := #[] }] 49 2 #[] #[])
  fields := #[]
  methods := #[k1m0, k1m1]
  instanceTypes := #[]
  staticTypes := #[]
  resolved := Array.replicate 31 none
  statics := none }

def pool2 : Array CpInfo := pool [(1, .methodref 2 3), (0, .class_ 4), (0, .nameAndType 5 6), (0, u "java/lang/Object"), (0, u "<init>"), (0, u "()V"), (2, .double 9218868437227405312), (1, .fieldref 12 13), (0, .class_ 14), (0, .nameAndType 15 16), (0, u "com/example/streamgrove/streamgrove/learners/RunningMoments"), (0, u "smallest"), (0, u "D"), (0, .double 18442240474082181120), (1, .fieldref 12 20), (0, .nameAndType 21 16), (0, u "largest"), (0, .fieldref 12 23), (0, .nameAndType 24 25), (0, u "count"), (0, u "J"), (0, .fieldref 12 27), (0, .nameAndType 28 16), (0, u "mean"), (0, .fieldref 12 30), (0, .nameAndType 31 16), (0, u "squaredDeviations"), (0, .methodref 33 34), (0, .class_ 35), (0, .nameAndType 36 37), (0, u "java/lang/Math"), (0, u "min"), (0, u "(DD)D"), (0, .methodref 33 39), (0, .nameAndType 40 37), (0, u "max"), (10, u "BYTES"), (2, u "add"), (0, u "(D)V"), (1, u "()D"), (3, u "variance")] 3

def k2c0 : Code := { maxStack := 3, maxLocals := 1, code := prog_51_method_1_code, exceptionTable := #[], attributes := #[] }
def k2m0 : Method := { name := "<init>", desc := "()V", sig := { parameters := [], returnType := none }, accessFlags := 0, code := some k2c0 }
def k2c1 : Code := { maxStack := 9, maxLocals := 5, code := prog_51_method_2_code, exceptionTable := #[], attributes := #[] }
def k2m1 : Method := { name := "add", desc := "(D)V", sig := { parameters := [.double], returnType := none }, accessFlags := 0, code := some k2c1 }
def k2c2 : Code := { maxStack := 6, maxLocals := 1, code := prog_51_method_6_code, exceptionTable := #[], attributes := #[] }
def k2m2 : Method := { name := "variance", desc := "()D", sig := { parameters := [], returnType := some .double }, accessFlags := 0, code := some k2c2 }
/-- com/example/streamgrove/streamgrove/learners/RunningMoments -/
def k2 : Class := { plain "com/example/streamgrove/streamgrove/learners/RunningMoments" (some 0) with
  accessFlags := 48
  interfaces := #[]
  cf := some (fileOf pool2 12 #[] #[{ accessFlags := 0, nameIndex := 5, descriptorIndex := 6, attributes := #[] }, { accessFlags := 0, nameIndex := 54, descriptorIndex := 55, attributes := #[] }, { accessFlags := 0, nameIndex := 61, descriptorIndex := 57, attributes := #[] }] 48 2 #[] #[{ accessFlags := 24, nameIndex := 51, descriptorIndex := 25, attributes := #[] }, { accessFlags := 2, nameIndex := 24, descriptorIndex := 25, attributes := #[] }, { accessFlags := 2, nameIndex := 28, descriptorIndex := 16, attributes := #[] }, { accessFlags := 2, nameIndex := 31, descriptorIndex := 16, attributes := #[] }, { accessFlags := 2, nameIndex := 15, descriptorIndex := 16, attributes := #[] }, { accessFlags := 2, nameIndex := 21, descriptorIndex := 16, attributes := #[] }])
  fields := #[{ name := "BYTES", type := .long, accessFlags := 24, slot := 0, constantValue := 0 }, { name := "count", type := .long, accessFlags := 2, slot := 0, constantValue := 0 }, { name := "mean", type := .double, accessFlags := 2, slot := 1, constantValue := 0 }, { name := "squaredDeviations", type := .double, accessFlags := 2, slot := 2, constantValue := 0 }, { name := "smallest", type := .double, accessFlags := 2, slot := 3, constantValue := 0 }, { name := "largest", type := .double, accessFlags := 2, slot := 4, constantValue := 0 }]
  methods := #[k2m0, k2m1, k2m2]
  instanceTypes := #[.long, .double, .double, .double, .double]
  staticTypes := #[.long]
  resolved := Array.replicate 65 none
  statics := none }

def pool3 : Array CpInfo := pool [(1, .class_ 2), (0, u "java/lang/Math"), (1, .class_ 6), (1, u "java/lang/Object"), (0, u "<init>"), (0, u "()V"), (43, u "(DD)D"), (45, .class_ 100), (1, u "java/lang/Math$RandomNumberGeneratorHolder"), (71, u "negativeZeroFloatBits"), (0, u "J"), (2, u "negativeZeroDoubleBits"), (21, u "max"), (2, u "min"), (43, u "$assertionsDisabled"), (0, u "Z"), (91, u "twoToTheDoubleScaleDown"), (0, u "D"), (4, u "twoToTheDoubleScaleUp"), (9, u "E"), (3, u "PI"), (2, u "TAU"), (2, u "DEGREES_TO_RADIANS"), (0, u "RADIANS_TO_DEGREES")] 94

def k3m0 : Method := { name := "<init>", desc := "()V", sig := { parameters := [], returnType := none }, accessFlags := 2, code := none }
def k3c1 : Code := { maxStack := 4, maxLocals := 4, code := jdk_29_method_68_code, exceptionTable := #[], attributes := #[] }
def k3m1 : Method := { name := "max", desc := "(DD)D", sig := { parameters := [.double, .double], returnType := some .double }, accessFlags := 9, code := some k3c1 }
def k3c2 : Code := { maxStack := 4, maxLocals := 4, code := jdk_29_method_72_code, exceptionTable := #[], attributes := #[] }
def k3m2 : Method := { name := "min", desc := "(DD)D", sig := { parameters := [.double, .double], returnType := some .double }, accessFlags := 9, code := some k3c2 }
/-- java/lang/Math -/
def k3 : Class := { plain "java/lang/Math" (some 0) with
  accessFlags := 49
  interfaces := #[]
  cf := some (fileOf pool3 1 #[.nestMembers #[98]] #[{ accessFlags := 2, nameIndex := 7, descriptorIndex := 8, attributes := #[] }, { accessFlags := 9, nameIndex := 198, descriptorIndex := 52, attributes := #[] }, { accessFlags := 9, nameIndex := 201, descriptorIndex := 52, attributes := #[] }] 49 4 #[] #[{ accessFlags := 25, nameIndex := 354, descriptorIndex := 339, attributes := #[] }, { accessFlags := 25, nameIndex := 358, descriptorIndex := 339, attributes := #[] }, { accessFlags := 25, nameIndex := 361, descriptorIndex := 339, attributes := #[] }, { accessFlags := 26, nameIndex := 364, descriptorIndex := 339, attributes := #[] }, { accessFlags := 26, nameIndex := 365, descriptorIndex := 339, attributes := #[] }, { accessFlags := 26, nameIndex := 172, descriptorIndex := 173, attributes := #[] }, { accessFlags := 26, nameIndex := 176, descriptorIndex := 173, attributes := #[] }, { accessFlags := 8, nameIndex := 344, descriptorIndex := 339, attributes := #[] }, { accessFlags := 8, nameIndex := 338, descriptorIndex := 339, attributes := #[] }, { accessFlags := 4120, nameIndex := 245, descriptorIndex := 246, attributes := #[] }])
  fields := #[{ name := "E", type := .double, accessFlags := 25, slot := 0, constantValue := 0 }, { name := "PI", type := .double, accessFlags := 25, slot := 1, constantValue := 0 }, { name := "TAU", type := .double, accessFlags := 25, slot := 2, constantValue := 0 }, { name := "DEGREES_TO_RADIANS", type := .double, accessFlags := 26, slot := 3, constantValue := 0 }, { name := "RADIANS_TO_DEGREES", type := .double, accessFlags := 26, slot := 4, constantValue := 0 }, { name := "negativeZeroFloatBits", type := .long, accessFlags := 26, slot := 5, constantValue := 0 }, { name := "negativeZeroDoubleBits", type := .long, accessFlags := 26, slot := 6, constantValue := 0 }, { name := "twoToTheDoubleScaleUp", type := .double, accessFlags := 8, slot := 7, constantValue := 0 }, { name := "twoToTheDoubleScaleDown", type := .double, accessFlags := 8, slot := 8, constantValue := 0 }, { name := "$assertionsDisabled", type := .boolean, accessFlags := 4120, slot := 9, constantValue := 0 }]
  methods := #[k3m0, k3m1, k3m2]
  instanceTypes := #[]
  staticTypes := #[.double, .double, .double, .double, .double, .long, .long, .double, .double, .boolean]
  resolved := Array.replicate 460 none
  statics := none }

def pool4 : Array CpInfo := pool [(1, u "java/lang/Cloneable"), (0, .class_ 1), (0, u "java/lang/Object"), (0, .class_ 3)] 3

/-- java/lang/Cloneable -/
def k4 : Class := { plain "java/lang/Cloneable" (some 0) with
  accessFlags := 1537
  interfaces := #[]
  cf := some (fileOf pool4 2 #[] #[] 1537 4 #[] #[])
  fields := #[]
  methods := #[]
  instanceTypes := #[]
  staticTypes := #[]
  resolved := Array.replicate 8 none
  statics := none }

def pool5 : Array CpInfo := pool [(1, u "java/io/Serializable"), (0, .class_ 1), (0, u "java/lang/Object"), (0, .class_ 3)] 3

/-- java/io/Serializable -/
def k5 : Class := { plain "java/io/Serializable" (some 0) with
  accessFlags := 1537
  interfaces := #[]
  cf := some (fileOf pool5 2 #[] #[] 1537 4 #[] #[])
  fields := #[]
  methods := #[]
  instanceTypes := #[]
  staticTypes := #[]
  resolved := Array.replicate 8 none
  statics := none }

/-- the primitive byte -/
def k6 : Class := { plain "byte" none with kind := .primitive 'B', accessFlags := 0x411 }
/-- [B -/
def k7 : Class := { plain "[B" (some 0) with kind := .array 6 .byte, interfaces := #[4, 5], accessFlags := 1041 }

/-- the primitive int -/
def k8 : Class := { plain "int" none with kind := .primitive 'I', accessFlags := 0x411 }
/-- [I -/
def k9 : Class := { plain "[I" (some 0) with kind := .array 8 .int, interfaces := #[4, 5], accessFlags := 1041 }

def heap : Heap := #[]
def classes : Array Class := #[k0, k1, k2, k3, k4, k5, k6, k7, k8, k9]
def interned : List (Array UInt16 × Addr) := []
def slotsUsed : Nat := 0
def theMethod : MethodId := ⟨1, 1⟩
def args0 : Array Value := #[.int 3, .int 20000, .int 30000]
def aboutOver (below : List Frame) : State where
  vm := { classes := classes, interned := interned.toArray }
  heap := heap
  slotsUsed := slotsUsed
  threads := #[{ frames := .invoking theMethod args0 :: below }]
def below0 : List Frame := [.native { method := ⟨0, 0⟩, args := #[] }]
def about1 : State := aboutOver below0
def p0 : Program := .bare "" "" ""
def e0 : Env := launch0.env 0 0 0
theorem w_frames : about1.frames = Frame.invoking theMethod args0 :: below0 := rfl
set_option maxRecDepth 65536 in
theorem w_args : argsFit about1.vm theMethod args0 = true := by decide +kernel
set_option maxRecDepth 65536 in
theorem w_heap : heapFits about1 = true := by decide +kernel
set_option maxRecDepth 65536 in
theorem w_runnable : about1.curStatus? = some .runnable := by decide +kernel
set_option maxRecDepth 65536 in
theorem w_alone : about1.alone = true := by decide +kernel
set_option maxRecDepth 65536 in
theorem w_named : about1.methodNamed? x = some theMethod := by decide +kernel
set_option maxRecDepth 65536 in
theorem w_hears : about1.hears theMethod below0 = true := by decide +kernel
set_option maxRecDepth 65536 in
theorem w_ripe : about1.ripe theMethod args0 below0 = true := by decide +kernel
theorem w_running : about1.status = .running := rfl
set_option maxRecDepth 65536 in
theorem w_room : about1.hasRoom e0.platform room_1 = true :=
  launch0.hasRoom_least _ room_1 (by decide +kernel) (by decide +kernel) (by decide +kernel) (by decide +kernel) (by decide +kernel) (by decide +kernel)
theorem allAtoms_all (ts : List Jvm.Cond) (a : Array Jvm.Value) (st : Jvm.State) : (allAtoms ts).before a st = ts.all (fun c => c.before a st) := by
  induction ts with
  | nil => rfl
  | cons c t ih =>
    show (Jvm.Cond.and c (allAtoms t)).before a st = _
    rw [Jvm.Cond.before_and, ih, List.all_cons]
def words1 : List Jvm.Cond := Jvm.Cond.code x code maxLocals ret :: tables_1
/-- a 'code' word, met by the world's own term for the bytes: nothing is compared byte by byte -/
theorem code_word {y : MethodName} {bytes : ByteArray} {mx : Nat} {rt : Option FieldType} {a : Array Value} {s : State} {m : MethodId} {meth : Method} {c : Code} (h1 : s.methodNamed? y = some m) (h2 : s.vm.method? m = some meth) (h3 : meth.code = some c) (h4 : c.code = bytes)
    (h5 : (c.maxLocals == mx && c.exceptionTable.isEmpty && decide (c.maxStack ≤ mostOperands) && decide (meth.sig.returnType = rt) && !meth.locks && decide (parseMethodDescriptor y.desc = some meth.sig)) = true) : (Jvm.Cond.code y bytes mx rt).before a s = true := by
  simp only [Bool.and_eq_true, beq_iff_eq, Bool.not_eq_true', decide_eq_true_eq] at h5
  obtain ⟨⟨⟨⟨⟨g1, g2⟩, g3⟩, g4⟩, g5⟩, g6⟩ := h5
  simp [Cond.before, Cond.holds, Cond.value, h1, h2, h3, h4, g1, g2, g3, g4, g5, g6]
def isCode : Jvm.Cond → Bool
  | .code _ _ _ _ => true
  | _ => false
theorem all_split {L : List Jvm.Cond} {P : Jvm.Cond → Bool} (h1 : L.all (fun c => isCode c || P c) = true) (h2 : ∀ c ∈ L.filter isCode, P c = true) : L.all P = true := by
  refine List.all_eq_true.mpr fun c hc => ?_
  have h := List.all_eq_true.mp h1 c hc
  rcases Bool.eq_false_or_eq_true (isCode c) with hi | hi
  · exact h2 c (List.mem_filter.mpr ⟨hc, hi⟩)
  · simpa [hi] using h
set_option maxRecDepth 65536 in
theorem w_c0 : (Jvm.Cond.code x code maxLocals ret).before args0 about1 = true := code_word (m := ⟨1, 1⟩) (meth := k1m1) (c := k1c1) (by decide +kernel) rfl rfl rfl (by decide +kernel)
set_option maxRecDepth 65536 in
theorem w_c1 : (Jvm.Cond.code ({ cls := "com/example/streamgrove/streamgrove/learners/RunningMoments", name := "<init>", desc := "()V" } : Jvm.MethodName) prog_51_method_1_code (1 : Nat) (Option.none : Option Jvm.ClassFile.FieldType)).before args0 about1 = true := code_word (m := ⟨2, 0⟩) (meth := k2m0) (c := k2c0) (by decide +kernel) rfl rfl rfl (by decide +kernel)
set_option maxRecDepth 65536 in
theorem w_c2 : (Jvm.Cond.code ({ cls := "java/lang/Object", name := "<init>", desc := "()V" } : Jvm.MethodName) object_method_1_code (1 : Nat) (Option.none : Option Jvm.ClassFile.FieldType)).before args0 about1 = true := code_word (m := ⟨0, 0⟩) (meth := k0m0) (c := k0c0) (by decide +kernel) rfl rfl rfl (by decide +kernel)
set_option maxRecDepth 65536 in
theorem w_c3 : (Jvm.Cond.code ({ cls := "com/example/streamgrove/streamgrove/learners/RunningMoments", name := "variance", desc := "()D" } : Jvm.MethodName) prog_51_method_6_code (1 : Nat) (Option.some Jvm.ClassFile.FieldType.double)).before args0 about1 = true := code_word (m := ⟨2, 2⟩) (meth := k2m2) (c := k2c2) (by decide +kernel) rfl rfl rfl (by decide +kernel)
set_option maxRecDepth 65536 in
theorem w_c4 : (Jvm.Cond.code ({ cls := "com/example/streamgrove/streamgrove/learners/RunningMoments", name := "add", desc := "(D)V" } : Jvm.MethodName) prog_51_method_2_code (5 : Nat) (Option.none : Option Jvm.ClassFile.FieldType)).before args0 about1 = true := code_word (m := ⟨2, 1⟩) (meth := k2m1) (c := k2c1) (by decide +kernel) rfl rfl rfl (by decide +kernel)
set_option maxRecDepth 65536 in
theorem w_c5 : (Jvm.Cond.code ({ cls := "java/lang/Math", name := "min", desc := "(DD)D" } : Jvm.MethodName) jdk_29_method_72_code (4 : Nat) (Option.some Jvm.ClassFile.FieldType.double)).before args0 about1 = true := code_word (m := ⟨3, 2⟩) (meth := k3m2) (c := k3c2) (by decide +kernel) rfl rfl rfl (by decide +kernel)
set_option maxRecDepth 65536 in
theorem w_c6 : (Jvm.Cond.code ({ cls := "java/lang/Math", name := "max", desc := "(DD)D" } : Jvm.MethodName) jdk_29_method_68_code (4 : Nat) (Option.some Jvm.ClassFile.FieldType.double)).before args0 about1 = true := code_word (m := ⟨3, 1⟩) (meth := k3m1) (c := k3c1) (by decide +kernel) rfl rfl rfl (by decide +kernel)
def codes1 : List Jvm.Cond := [Jvm.Cond.code x code maxLocals ret, Jvm.Cond.code ({ cls := "com/example/streamgrove/streamgrove/learners/RunningMoments", name := "<init>", desc := "()V" } : Jvm.MethodName) prog_51_method_1_code (1 : Nat) (Option.none : Option Jvm.ClassFile.FieldType), Jvm.Cond.code ({ cls := "java/lang/Object", name := "<init>", desc := "()V" } : Jvm.MethodName) object_method_1_code (1 : Nat) (Option.none : Option Jvm.ClassFile.FieldType), Jvm.Cond.code ({ cls := "com/example/streamgrove/streamgrove/learners/RunningMoments", name := "variance", desc := "()D" } : Jvm.MethodName) prog_51_method_6_code (1 : Nat) (Option.some Jvm.ClassFile.FieldType.double), Jvm.Cond.code ({ cls := "com/example/streamgrove/streamgrove/learners/RunningMoments", name := "add", desc := "(D)V" } : Jvm.MethodName) prog_51_method_2_code (5 : Nat) (Option.none : Option Jvm.ClassFile.FieldType), Jvm.Cond.code ({ cls := "java/lang/Math", name := "min", desc := "(DD)D" } : Jvm.MethodName) jdk_29_method_72_code (4 : Nat) (Option.some Jvm.ClassFile.FieldType.double), Jvm.Cond.code ({ cls := "java/lang/Math", name := "max", desc := "(DD)D" } : Jvm.MethodName) jdk_29_method_68_code (4 : Nat) (Option.some Jvm.ClassFile.FieldType.double)]
set_option maxRecDepth 65536 in
theorem codes_eq : words1.filter isCode = codes1 := rfl
theorem w_codes : ∀ c ∈ words1.filter isCode, c.before args0 about1 = true := by
  rw [codes_eq]
  intro c hc
  simp only [codes1, List.mem_cons, List.not_mem_nil, or_false] at hc
  rcases hc with rfl | rfl | rfl | rfl | rfl | rfl | rfl
  · exact w_c0
  · exact w_c1
  · exact w_c2
  · exact w_c3
  · exact w_c4
  · exact w_c5
  · exact w_c6
set_option maxRecDepth 65536 in
theorem w_t1 : (words1.take 24).all (fun c => isCode c || c.before args0 about1) = true := by decide +kernel
set_option maxRecDepth 65536 in
theorem w_t2 : (words1.drop 24).all (fun c => isCode c || c.before args0 about1) = true := by decide +kernel
theorem w_tables : (allAtoms (Jvm.Cond.code x code maxLocals ret :: tables_1)).before args0 about1 = true := by
  rw [allAtoms_all]
  show words1.all (fun c => c.before args0 about1) = true
  refine all_split ?_ w_codes
  rw [← List.take_append_drop 24 words1, List.all_append, w_t1, w_t2]
  rfl
set_option maxRecDepth 65536 in
theorem w_case : (Jvm.Cond.and given_1 narrow_1).before args0 about1 = true := by decide +kernel
theorem w_applies : (headSpec (Jvm.Cond.code x code maxLocals ret :: tables_1) room_1).applies x e0.platform about1 = true :=
  (Spec.applies_iff w_frames).mpr ⟨w_running, w_runnable, w_alone, w_named, w_hears, w_ripe, w_room, w_tables⟩
theorem atStart : AtStart classFile x code maxLocals ret World_1 tables_1 room_1 Calls_1 rest_1 Pre_1 launch0 p0 e0 about1 theMethod args0 below0 :=
  ⟨lists_1, trivial, launch0.admits_env _ _ _, launch0.least_env, fairChoices_fair.cas, fairChoices_fair.clock, w_frames, w_args, w_heap, w_applies, trivial, trivial, w_case⟩
end start1
theorem witness_1 : WitnessClaimed_1 := ⟨start1.p0, start1.e0, start1.about1, start1.theMethod, start1.args0, start1.below0, start1.atStart⟩
end Jvm.Pilot.@@N@@
