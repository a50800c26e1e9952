import JvmDerived
import JvmDerived.Pilot.@@N@@Statement
import JvmDerived.Pilot.@@N@@Code
set_option linter.unusedVariables false
set_option linter.unusedSimpArgs false
@@BLOCK:NumsL.lean.txt@@
namespace Jvm.RoadKit
open Sem ClassFile Op Lib Jvm.Stand Jvm.Free Jvm.LawKit
section New
variable {p : Program} {l : Launch} {e : Env} {R : Room} {s : State} {m : MethodId} {args : Array Value} {below : List Frame} {meth : Method} {c : Code} {T : State} {locs : List Loc} {cells slots : Nat}
theorem retI (X : Stand p l e R s m args below meth c T locs cells slots) (hx : p.tables.exec = Jvm.exec) {pc : Nat} {Ls : Array Slot} {z : Int32} {rest : List Value} (hret : meth.sig.returnType = some .int) (hd : decode c.code pc = .ok (.ireturn, 1)) {fs : List Frame}
    (hl : ∀ (f : JFrame) (acts : List Action), f.method = m → f.locked = none → f.entered = [] → (doReturn e (T.setTop f) acts (some (.int z))).1 = T.setFrames fs) : Steps p.tables e below (T.setTop (mkF m pc Ls (.int z :: rest))) (T.setFrames fs) := by
  have hm' : T.vm.method? m = some meth := X.method'
  have hn : narrow .int (.int z) = .int z := rfl
  show Steps p.tables e below (T.setTop { method := m, pc := pc, locals := Ls, stack := _ :: rest, locked := none }) _
  jvm_step X.here [X.here.top, hx, hd, hm', hret, hn]
  first | (intro acts; rw [hl _ acts rfl rfl rfl]) | rw [hl _ _ rfl rfl rfl]
  exact Steps.refl _
end New
end Jvm.RoadKit
namespace Jvm.OwnFP
open Jvm.FP
/-- a double's value in units of 2^-1074 -/
def zv (a : UInt64) : Int := Core.zval Core.b64 (Core.val64 a)
/-- how many units make one -/
def U : Int := (Core.one64 : Int)
theorem U_pos : 0 < U := by have := Core.one64_pos; unfold U; omega
theorem U_pow (k : Nat) (h : k ≤ 1074) : U = 2 ^ (1074 - k) * 2 ^ k := by
  have e : (2 : Int) ^ (1074 - k) * 2 ^ k = 2 ^ 1074 := by rw [← Int.pow_add]; congr 1; omega
  rw [e]; unfold U Core.one64; rw [Int.natCast_pow]; rfl
theorem pow_pos (k : Nat) : (0 : Int) < 2 ^ k := Int.pow_pos (by decide)
theorem notNan {a : UInt64} (h : Core.DFin a) : Core.val64 a ≠ .nan := by obtain ⟨s, c, q, h⟩ := h; rw [h]; exact Core.Datum.noConfusion
theorem fin_parts {a : UInt64} (h : Core.DFin a) : ∃ (s : Bool) (c i : Nat), Core.val64 a = .fin s c ((i : Int) - 1074) ∧ Core.fits Core.b64 (.fin s c ((i : Int) - 1074)) ∧ zv a = Core.signed s (c * 2 ^ i) := by
  obtain ⟨s, c, q, h⟩ := h
  have hf := Core.val64_fits a
  rw [h] at hf
  have hq : -1074 ≤ q := by have := hf.2.1; rw [Core.qmin_b64] at this; exact this
  obtain ⟨i, hi⟩ : ∃ i : Nat, q = (i : Int) - 1074 := ⟨(q + 1074).toNat, by omega⟩
  subst hi
  refine ⟨s, c, i, h, hf, ?_⟩
  unfold zv Core.zval; rw [h]
  show Core.signed s (c * 2 ^ ((i : Int) - 1074 - Core.b64.qmin).toNat) = _
  rw [Core.qmin_b64, show ((i : Int) - 1074 - -1074).toNat = i by omega]
/-- rounding a quotient is monotone: at most a number of the format -/
theorem ratio_le {s : Bool} {A B : Nat} {e e0 : Int} {V : Core.Datum} (hB : 0 < B) (hV : Core.fits Core.b64 V) (hn : V ≠ .nan) (h0 : e0 ≤ Core.b64.qmin) (h0e : e0 ≤ e)
    (h : Core.signed s (Core.inUnits A e e0) ≤ Core.zval Core.b64 V * ((2 ^ (Core.b64.qmin - e0).toNat * B : Nat) : Int)) :
    Core.zval Core.b64 (Core.roundRatio Core.b64 s A B e) ≤ Core.zval Core.b64 V := by
  have hle := Core.zmag_roundRatio_le Core.good_b64 (s := s) (A := A) hB hV hn h0 h0e
  have hge := Core.zmag_roundRatio_ge Core.good_b64 (s := s) (A := A) hB hV h0 h0e
  have hP : 0 < 2 ^ (Core.b64.qmin - e0).toNat * B := Nat.mul_pos (Nat.two_pow_pos _) hB
  rw [Nat.mul_assoc] at hle hge
  unfold Core.zval at h ⊢
  rw [Core.sgn_roundRatio]
  rw [← Core.signed_mul] at h
  have hz : Core.zmag Core.b64 V * (2 ^ (Core.b64.qmin - e0).toNat * B) = 0 → Core.zmag Core.b64 V = 0 := fun q => by
    rcases Nat.mul_eq_zero.mp q with q | q
    · exact q
    · omega
  generalize Core.zmag Core.b64 V * (2 ^ (Core.b64.qmin - e0).toNat * B) = vP at *
  generalize Core.sgn V = t at *
  generalize Core.zmag Core.b64 V = z at *
  generalize Core.zmag Core.b64 (Core.roundRatio Core.b64 s A B e) = r at *
  generalize Core.inUnits A e e0 = x at *
  cases s <;> cases t <;> simp only [Core.signed, if_true, Bool.false_eq_true, if_false] at h ⊢
  · have := hle (by omega); omega
  · have := hle (by omega); have := hz (by omega); omega
  · omega
  · have := hge (by omega); omega
theorem ratio_ge {s : Bool} {A B : Nat} {e e0 : Int} {V : Core.Datum} (hB : 0 < B) (hV : Core.fits Core.b64 V) (hn : V ≠ .nan) (h0 : e0 ≤ Core.b64.qmin) (h0e : e0 ≤ e)
    (h : Core.zval Core.b64 V * ((2 ^ (Core.b64.qmin - e0).toNat * B : Nat) : Int) ≤ Core.signed s (Core.inUnits A e e0)) :
    Core.zval Core.b64 V ≤ Core.zval Core.b64 (Core.roundRatio Core.b64 s A B e) := by
  have h1 := ratio_le (s := !s) (V := Core.negate V) hB (Core.negate_fits hV) (Core.negate_ne_nan hn) h0 h0e (by
    rw [Core.zval_negate, Int.neg_mul, Core.signed_not]; exact Int.neg_le_neg h)
  rw [Core.zval_negate, ← Core.negate_roundRatio, Core.zval_negate] at h1
  omega
theorem signed_pos_parts {t : Bool} {n : Nat} (h : 0 < Core.signed t n) : t = false ∧ 0 < n := by
  cases t <;> simp [Core.signed] at h ⊢ <;> omega
/-- the quotient as a rounded ratio -/
theorem ddiv_parts {a b : UInt64} (ha : Core.DFin a) (hb : Core.DFin b) (pb : 0 < zv b) :
    ∃ (s : Bool) (c d i j : Nat), zv a = Core.signed s (c * 2 ^ i) ∧ zv b = ((d * 2 ^ j : Nat) : Int) ∧ 0 < d ∧ Core.val64 (FP.ddiv a b) = Core.roundRatio Core.b64 s c d ((i : Int) - (j : Int)) := by
  obtain ⟨s, c, i, h1, f1, z1⟩ := fin_parts ha
  obtain ⟨t, d, j, h2, f2, z2⟩ := fin_parts hb
  rw [z2] at pb
  obtain ⟨rfl, hd⟩ := signed_pos_parts pb
  have hd' : 0 < d := Nat.pos_of_mul_pos_right hd
  refine ⟨s, c, d, i, j, z1, z2, hd', ?_⟩
  show Core.val64 (Core.ddiv a b) = _
  rw [Core.val64_ddiv, h1, h2]
  show (if d = 0 then _ else Core.roundRatio Core.b64 (s != false) c d ((i : Int) - 1074 - ((j : Int) - 1074))) = _
  rw [if_neg (by omega), show ((i : Int) - 1074 - ((j : Int) - 1074)) = (i : Int) - j by omega]
  cases s <;> rfl
theorem div_key {s : Bool} {c d i j : Nat} : Core.signed s (Core.inUnits c ((i : Int) - j) (-1074 - (j : Int))) = Core.signed s (c * 2 ^ i) * U ∧ ((2 ^ (Core.b64.qmin - (-1074 - (j : Int))).toNat * d : Nat) : Int) = ((d * 2 ^ j : Nat) : Int) := by
  constructor
  · unfold Core.inUnits
    rw [show ((i : Int) - j - (-1074 - (j : Int))).toNat = i + 1074 by omega, Nat.pow_add, ← Nat.mul_assoc, Core.signed_mul]
    rfl
  · rw [Core.qmin_b64, show (-1074 - (-1074 - (j : Int))).toNat = j by omega, Nat.mul_comm]
theorem ddiv_le {a b V : UInt64} (ha : Core.DFin a) (hb : Core.DFin b) (pb : 0 < zv b) (hV : Core.val64 V ≠ .nan) (h : zv a * U ≤ zv V * zv b) : zv (FP.ddiv a b) ≤ zv V := by
  obtain ⟨s, c, d, i, j, z1, z2, hd, hr⟩ := ddiv_parts ha hb pb
  have e : zv (FP.ddiv a b) = Core.zval Core.b64 (Core.roundRatio Core.b64 s c d ((i : Int) - (j : Int))) := by unfold zv; rw [hr]
  rw [e]
  refine ratio_le (e0 := -1074 - (j : Int)) hd (Core.val64_fits V) hV (by rw [Core.qmin_b64]; omega) (by omega) ?_
  rw [(div_key (d := d)).1, (div_key (s := s) (c := c) (i := i)).2, ← z1, ← z2]; exact h
theorem ddiv_ge {a b V : UInt64} (ha : Core.DFin a) (hb : Core.DFin b) (pb : 0 < zv b) (hV : Core.val64 V ≠ .nan) (h : zv V * zv b ≤ zv a * U) : zv V ≤ zv (FP.ddiv a b) := by
  obtain ⟨s, c, d, i, j, z1, z2, hd, hr⟩ := ddiv_parts ha hb pb
  have e : zv (FP.ddiv a b) = Core.zval Core.b64 (Core.roundRatio Core.b64 s c d ((i : Int) - (j : Int))) := by unfold zv; rw [hr]
  rw [e]
  refine ratio_ge (e0 := -1074 - (j : Int)) hd (Core.val64_fits V) hV (by rw [Core.qmin_b64]; omega) (by omega) ?_
  rw [(div_key (d := d)).1, (div_key (s := s) (c := c) (i := i)).2, ← z1, ← z2]; exact h
theorem ddiv_nn {a b : UInt64} (ha : Core.DFin a) (hb : Core.DFin b) (pb : 0 < zv b) : Core.val64 (FP.ddiv a b) ≠ .nan := by
  obtain ⟨s, c, d, i, j, z1, z2, hd, hr⟩ := ddiv_parts ha hb pb
  rw [hr]; exact Core.roundRatio_ne_nan _ _ _ _ _
/-- two quotients of one value -/
theorem ddiv_congr {a b a' b' : UInt64} (ha : Core.DFin a) (hb : Core.DFin b) (pb : 0 < zv b) (ha' : Core.DFin a') (hb' : Core.DFin b') (pb' : 0 < zv b') (hs : Core.sgn (Core.val64 a) = Core.sgn (Core.val64 a')) (h : zv a * zv b' = zv a' * zv b) : FP.ddiv a b = FP.ddiv a' b' := by
  obtain ⟨s, c, i, h1, f1, z1⟩ := fin_parts ha
  obtain ⟨s', c', i', h1', f1', z1'⟩ := fin_parts ha'
  obtain ⟨t, d, j, h2, f2, z2⟩ := fin_parts hb
  obtain ⟨t', d', j', h2', f2', z2'⟩ := fin_parts hb'
  rw [z2] at pb; rw [z2'] at pb'
  obtain ⟨rfl, hd⟩ := signed_pos_parts pb
  obtain ⟨rfl, hd'⟩ := signed_pos_parts pb'
  have hd1 : 0 < d := Nat.pos_of_mul_pos_right hd
  have hd1' : 0 < d' := Nat.pos_of_mul_pos_right hd'
  have es : s = s' := by rw [h1, h1'] at hs; exact hs
  subst es
  show Core.of64 (Core.quotient Core.b64 (Core.val64 a) (Core.val64 b)) = Core.of64 (Core.quotient Core.b64 (Core.val64 a') (Core.val64 b'))
  congr 1
  rw [h1, h2, h1', h2']
  show (if d = 0 then _ else Core.roundRatio Core.b64 (s != false) c d ((i : Int) - 1074 - ((j : Int) - 1074))) = (if d' = 0 then _ else Core.roundRatio Core.b64 (s != false) c' d' ((i' : Int) - 1074 - ((j' : Int) - 1074)))
  rw [if_neg (by omega), if_neg (by omega)]
  apply Core.roundRatio_congr hd1 hd1'
  have hn : (c * 2 ^ i) * (d' * 2 ^ j') = (c' * 2 ^ i') * (d * 2 ^ j) := by
    rw [z1, z1', z2, z2'] at h
    have : ∀ n : Nat, Core.signed false n = (n : Int) := fun _ => rfl
    rw [this, this, ← Core.signed_mul, ← Core.signed_mul] at h
    have := congrArg Int.natAbs h
    rwa [Core.natAbs_signed, Core.natAbs_signed] at this
  generalize hE : (i : Int) - 1074 - ((j : Int) - 1074) = E
  generalize hE' : (i' : Int) - 1074 - ((j' : Int) - 1074) = E'
  have k1 : c * d' * 2 ^ (i + j') = c' * d * 2 ^ (i' + j) := by
    rw [Nat.pow_add, Nat.pow_add]
    calc c * d' * (2 ^ i * 2 ^ j') = (c * 2 ^ i) * (d' * 2 ^ j') := by ac_rfl
      _ = (c' * 2 ^ i') * (d * 2 ^ j) := hn
      _ = c' * d * (2 ^ i' * 2 ^ j) := by ac_rfl
  by_cases hle : i' + j ≤ i + j'
  · have e1 : (E - E').toNat = i + j' - (i' + j) := by omega
    have e2 : (E' - E).toNat = 0 := by omega
    rw [e1, e2]
    have : 2 ^ (i + j') = 2 ^ (i + j' - (i' + j)) * 2 ^ (i' + j) := by rw [← Nat.pow_add]; congr 1; omega
    rw [this, ← Nat.mul_assoc] at k1
    simpa using Nat.eq_of_mul_eq_mul_right (Nat.two_pow_pos _) k1
  · have e1 : (E - E').toNat = 0 := by omega
    have e2 : (E' - E).toNat = i' + j - (i + j') := by omega
    rw [e1, e2]
    have : 2 ^ (i' + j) = 2 ^ (i' + j - (i + j')) * 2 ^ (i + j') := by rw [← Nat.pow_add]; congr 1; omega
    rw [this, ← Nat.mul_assoc] at k1
    simpa using Nat.eq_of_mul_eq_mul_right (Nat.two_pow_pos _) k1
theorem dmul_parts {a b : UInt64} (ha : Core.DFin a) (hb : Core.DFin b) :
    ∃ (s : Bool) (n : Nat) (e : Int), Core.val64 (FP.dmul a b) = Core.round Core.b64 (.fin s n e) ∧ -2148 ≤ e ∧ Core.signed s (Core.inUnits n e (-2148)) = zv a * zv b := by
  obtain ⟨s, c, i, h1, f1, z1⟩ := fin_parts ha
  obtain ⟨t, d, j, h2, f2, z2⟩ := fin_parts hb
  obtain ⟨p1, p2, p3⟩ := Core.product_units f1 f2
  refine ⟨s != t, c * d, (i : Int) - 1074 + ((j : Int) - 1074), ?_, by omega, ?_⟩
  · show Core.val64 (Core.dmul a b) = _
    rw [Core.val64_dmul, h1, h2, p1]
  · rw [z1, z2]
    unfold Core.inUnits
    rw [show ((i : Int) - 1074 + ((j : Int) - 1074) - (-2148)).toNat = i + j by omega, Nat.pow_add,
      show c * d * (2 ^ i * 2 ^ j) = (c * 2 ^ i) * (d * 2 ^ j) by ac_rfl, Core.signed_xor]
theorem mul_key : ((2 ^ (Core.b64.qmin - (-2148 : Int)).toNat : Nat) : Int) = U := by
  rw [Core.qmin_b64]; rfl
theorem dmul_le {a b V : UInt64} (ha : Core.DFin a) (hb : Core.DFin b) (hV : Core.val64 V ≠ .nan) (h : zv a * zv b ≤ zv V * U) : zv (FP.dmul a b) ≤ zv V := by
  obtain ⟨s, n, e, h1, h2, h3⟩ := dmul_parts ha hb
  have e1 : zv (FP.dmul a b) = Core.zval Core.b64 (Core.round Core.b64 (.fin s n e)) := by unfold zv; rw [h1]
  rw [e1]
  refine Core.zval_round_le Core.good_b64 (e0 := -2148) (Core.val64_fits V) hV (by rw [Core.qmin_b64]; decide) h2 ?_
  rw [h3, mul_key]; exact h
theorem dmul_ge {a b V : UInt64} (ha : Core.DFin a) (hb : Core.DFin b) (hV : Core.val64 V ≠ .nan) (h : zv V * U ≤ zv a * zv b) : zv V ≤ zv (FP.dmul a b) := by
  obtain ⟨s, n, e, h1, h2, h3⟩ := dmul_parts ha hb
  have e1 : zv (FP.dmul a b) = Core.zval Core.b64 (Core.round Core.b64 (.fin s n e)) := by unfold zv; rw [h1]
  rw [e1]
  refine Core.zval_round_ge Core.good_b64 (e0 := -2148) (Core.val64_fits V) hV (by rw [Core.qmin_b64]; decide) h2 ?_
  rw [h3, mul_key]; exact h
theorem dmul_nn {a b : UInt64} (ha : Core.DFin a) (hb : Core.DFin b) : Core.val64 (FP.dmul a b) ≠ .nan := by
  obtain ⟨s, n, e, h1, h2, h3⟩ := dmul_parts ha hb
  rw [h1]; exact Core.roundRatio_ne_nan _ _ _ _ _
theorem dadd_le {a b V : UInt64} (ha : Core.DFin a) (hb : Core.DFin b) (hV : Core.val64 V ≠ .nan) (h : zv a + zv b ≤ zv V) : zv (FP.dadd a b) ≤ zv V := by
  have := Core.sum_le Core.good_b64 ha hb (Core.val64_fits a) (Core.val64_fits b) (Core.val64_fits V) hV h
  unfold zv; show Core.zval Core.b64 (Core.val64 (Core.dadd a b)) ≤ _
  rw [Core.val64_dadd]; exact this
theorem dadd_ge {a b V : UInt64} (ha : Core.DFin a) (hb : Core.DFin b) (hV : Core.val64 V ≠ .nan) (h : zv V ≤ zv a + zv b) : zv V ≤ zv (FP.dadd a b) := by
  have := Core.sum_ge Core.good_b64 ha hb (Core.val64_fits a) (Core.val64_fits b) (Core.val64_fits V) hV h
  unfold zv; show _ ≤ Core.zval Core.b64 (Core.val64 (Core.dadd a b))
  rw [Core.val64_dadd]; exact this
theorem dadd_nn {a b : UInt64} (ha : Core.DFin a) (hb : Core.DFin b) : Core.val64 (FP.dadd a b) ≠ .nan := by
  have := Core.dadd_out (notNaN_of ha) hb
  exact (Core.notNaN_iff _).mp this
where notNaN_of {a : UInt64} (h : Core.DFin a) : Core.dIsNaN a = false := (Core.notNaN_iff a).mpr (notNan h)
theorem zv_dneg (a : UInt64) : zv (FP.dneg a) = - zv a := by
  unfold zv; rw [FP.val64_dneg, Core.zval_negate]
theorem fin_dneg {a : UInt64} (h : Core.DFin a) : Core.DFin (FP.dneg a) := by
  obtain ⟨s, c, q, h⟩ := h
  refine ⟨!s, c, q, ?_⟩
  rw [FP.val64_dneg, h]; rfl
theorem dsub_dadd {a b : UInt64} (hb : Core.DFin b) : FP.dsub a b = FP.dadd a (FP.dneg b) := by
  have h1 : FP.dneg b = Core.dneg b := FP.dneg_core ((Core.notNaN_iff b).mpr (notNan hb))
  rw [h1]; exact Core.dsub_eq a b
theorem dsub_le {a b V : UInt64} (ha : Core.DFin a) (hb : Core.DFin b) (hV : Core.val64 V ≠ .nan) (h : zv a - zv b ≤ zv V) : zv (FP.dsub a b) ≤ zv V := by
  rw [dsub_dadd hb]; exact dadd_le ha (fin_dneg hb) hV (by rw [zv_dneg]; omega)
theorem dsub_ge {a b V : UInt64} (ha : Core.DFin a) (hb : Core.DFin b) (hV : Core.val64 V ≠ .nan) (h : zv V ≤ zv a - zv b) : zv V ≤ zv (FP.dsub a b) := by
  rw [dsub_dadd hb]; exact dadd_ge ha (fin_dneg hb) hV (by rw [zv_dneg]; omega)
theorem dsub_nn {a b : UInt64} (ha : Core.DFin a) (hb : Core.DFin b) : Core.val64 (FP.dsub a b) ≠ .nan := by
  rw [dsub_dadd hb]; exact dadd_nn ha (fin_dneg hb)
/-- finite, if it lies between two finite ones -/
theorem fin_between {a V W : UInt64} (n : Core.val64 a ≠ .nan) (hV : Core.DFin V) (hW : Core.DFin W) (h1 : zv V ≤ zv a) (h2 : zv a ≤ zv W) : Core.DFin a := by
  have hv := hV.zval_lt; have hw := hW.zval_lt
  unfold zv Core.zval at h1 h2
  cases e : Core.val64 a with
  | nan => exact absurd e n
  | fin s c q => exact ⟨s, c, q, e⟩
  | inf s =>
    exfalso
    rw [e] at h1 h2
    have t : Core.zmag Core.b64 (.inf s) = Core.b64.tails * 2 ^ (Core.b64.exps - 2) := rfl
    rw [t] at h1 h2
    generalize Core.b64.tails * 2 ^ (Core.b64.exps - 2) = top at *
    generalize Core.zmag Core.b64 (Core.val64 V) = v at *
    generalize Core.zmag Core.b64 (Core.val64 W) = w at *
    generalize Core.sgn (Core.val64 V) = sv at *
    generalize Core.sgn (Core.val64 W) = sw at *
    cases s <;> cases sv <;> cases sw <;> simp [Core.signed, Core.sgn] at h1 h2 <;> omega
theorem signed_of (n : Int) : Core.signed (decide (n < 0)) n.natAbs = n := by
  unfold Core.signed
  by_cases q : n < 0
  · simp [q]; omega
  · simp [q]; omega
/-- n * 2^E units are a double -/
theorem repE (n : Int) (E : Nat) (hn : n.natAbs < 2 ^ 53) (hE : E ≤ 2045) : ∃ V, Core.DFin V ∧ zv V = n * 2 ^ E := by
  have hq : Core.b64.qmax = 971 := by decide
  obtain ⟨c', q', h1, h2⟩ := Core.round_exact Core.good_b64 (decide (n < 0)) (c := n.natAbs) (q := (E : Int) - 1074) hn (by rw [Core.qmin_b64]; omega) (by rw [hq]; omega)
  have h3 : Core.val64 (Core.of64 (Core.round Core.b64 (.fin (decide (n < 0)) n.natAbs ((E : Int) - 1074)))) = .fin (decide (n < 0)) c' q' := by
    rw [Core.val64_of64 (Core.round_fits Core.good_b64 _), h1]
  refine ⟨_, ⟨_, _, _, h3⟩, ?_⟩
  unfold zv Core.zval
  rw [h3]
  show Core.signed (decide (n < 0)) (Core.inUnits c' q' Core.b64.qmin) = _
  rw [h2]
  unfold Core.inUnits
  rw [Core.qmin_b64, show ((E : Int) - 1074 - -1074).toNat = E by omega, Core.signed_mul, signed_of, Int.natCast_pow]
  rfl
/-- n / 2^k is a double -/
theorem rep (n : Int) (k : Nat) (hn : n.natAbs ≤ 2 ^ 53) (hk : k ≤ 1000) : ∃ V, Core.DFin V ∧ zv V * 2 ^ k = n * U := by
  by_cases h : n.natAbs < 2 ^ 53
  · obtain ⟨V, fV, zV⟩ := repE n (1074 - k) h (by omega)
    exact ⟨V, fV, by rw [zV, U_pow k (by omega), Int.mul_assoc]⟩
  · by_cases hs : n < 0
    · obtain ⟨V, fV, zV⟩ := repE (-1) (53 + (1074 - k)) (by decide) (by omega)
      exact ⟨V, fV, by rw [zV, U_pow k (by omega), show n = -1 * 2 ^ 53 by omega, Int.pow_add]; ac_rfl⟩
    · obtain ⟨V, fV, zV⟩ := repE 1 (53 + (1074 - k)) (by decide) (by omega)
      exact ⟨V, fV, by rw [zV, U_pow k (by omega), show n = 1 * 2 ^ 53 by omega, Int.pow_add]; ac_rfl⟩
/-- and so are, with the infinities, the numbers up to 2^53 * 2^E -/
theorem repI (n : Int) (E : Nat) (hn : n.natAbs ≤ 2 ^ 53) (hE : E ≤ 2045) : ∃ V, Core.val64 V ≠ .nan ∧ zv V = n * 2 ^ E := by
  by_cases h : n.natAbs < 2 ^ 53
  · obtain ⟨V, fV, zV⟩ := repE n E h hE; exact ⟨V, notNan fV, zV⟩
  · by_cases hE2 : E + 53 ≤ 2045
    · by_cases hs : n < 0
      · obtain ⟨V, fV, zV⟩ := repE (-1) (53 + E) (by decide) (by omega)
        exact ⟨V, notNan fV, by rw [zV, show n = -1 * 2 ^ 53 by omega, Int.pow_add, Int.mul_assoc]⟩
      · obtain ⟨V, fV, zV⟩ := repE 1 (53 + E) (by decide) (by omega)
        exact ⟨V, notNan fV, by rw [zV, show n = 1 * 2 ^ 53 by omega, Int.pow_add, Int.mul_assoc]⟩
    · by_cases hE3 : E = 2045
      · subst hE3
        have v1 : Core.val64 9218868437227405312 = .inf false := by decide +kernel
        have v2 : Core.val64 18442240474082181120 = .inf true := by decide +kernel
        have z1 : Core.zmag Core.b64 (.inf false) = 2 ^ 53 * 2 ^ 2045 := by decide +kernel
        by_cases hs : n < 0
        · refine ⟨18442240474082181120, by rw [v2]; exact Core.Datum.noConfusion, ?_⟩
          unfold zv Core.zval; rw [v2]
          show Core.signed true (Core.zmag Core.b64 (.inf false)) = _
          rw [z1, Core.signed_mul, show n = -2 ^ 53 by omega, Int.natCast_pow]; rfl
        · refine ⟨9218868437227405312, by rw [v1]; exact Core.Datum.noConfusion, ?_⟩
          unfold zv Core.zval; rw [v1]
          show Core.signed false (Core.zmag Core.b64 (.inf false)) = _
          rw [z1, Core.signed_mul, show n = 2 ^ 53 by omega, Int.natCast_pow]; rfl
      · by_cases hs : n < 0
        · obtain ⟨V, fV, zV⟩ := repE (-2 ^ 52) (1 + E) (by decide) (by omega)
          exact ⟨V, notNan fV, by rw [zV, show n = -2 ^ 52 * 2 ^ 1 by omega, Int.pow_add, Int.mul_assoc]⟩
        · obtain ⟨V, fV, zV⟩ := repE (2 ^ 52) (1 + E) (by decide) (by omega)
          exact ⟨V, notNan fV, by rw [zV, show n = 2 ^ 52 * 2 ^ 1 by omega, Int.pow_add, Int.mul_assoc]⟩
theorem dmul_eq {a b V : UInt64} (ha : Core.DFin a) (hb : Core.DFin b) (hV : Core.val64 V ≠ .nan) (h : zv a * zv b = zv V * U) : zv (FP.dmul a b) = zv V := by
  have := dmul_le ha hb hV (Int.le_of_eq h); have := dmul_ge ha hb hV (Int.le_of_eq h.symm); omega
/-! ## values n / 2^k -/
/-- finite, and worth n / 2^k -/
def DS (n : Int) (k : Nat) (a : UInt64) : Prop := Core.DFin a ∧ zv a * 2 ^ k = n * U
def Le (a : UInt64) (n : Int) (k : Nat) : Prop := zv a * 2 ^ k ≤ n * U
def Ge (a : UInt64) (n : Int) (k : Nat) : Prop := n * U ≤ zv a * 2 ^ k
theorem DS.le {n : Int} {k : Nat} {a : UInt64} (h : DS n k a) : Le a n k := Int.le_of_eq h.2
theorem DS.ge {n : Int} {k : Nat} {a : UInt64} (h : DS n k a) : Ge a n k := Int.le_of_eq h.2.symm
theorem DS.int {i : Int} {a : UInt64} (h : Core.DInt i a) : DS i 0 a := by
  refine ⟨?_, ?_⟩
  · unfold Core.DInt at h
    cases e : Core.val64 a with
    | nan => rw [e] at h; exact h.elim
    | inf => rw [e] at h; exact h.elim
    | fin s c q => exact ⟨s, c, q, e⟩
  · show zv a * 2 ^ 0 = i * U
    rw [Int.pow_zero, Int.mul_one]; exact Core.DInt_zval h
theorem DS.i2d (x : Int32) : DS x.toInt 0 (FP.i2d x) := DS.int (Core.i2d_int x)
theorem DS.l2d {x : Int64} (h : x.toInt.natAbs ≤ 2 ^ 53) : DS x.toInt 0 (FP.l2d x) := DS.int (Core.l2d_int h)
theorem mul_cancel {a b c : Int} (hc : 0 < c) (h : a * c = b * c) : a = b := Int.eq_of_mul_eq_mul_right (by omega) h
theorem le_cancel {a b c : Int} (hc : 0 < c) (h : a * c ≤ b * c) : a ≤ b := Int.le_of_mul_le_mul_right h hc
theorem DS.up {n : Int} {k : Nat} {a : UInt64} (h : DS n k a) (j : Nat) : DS (n * 2 ^ j) (k + j) a := ⟨h.1, by
  rw [Int.pow_add, ← Int.mul_assoc, h.2]; grind⟩
theorem Le.up {n : Int} {k : Nat} {a : UInt64} (h : Le a n k) (j : Nat) : Le a (n * 2 ^ j) (k + j) := by
  unfold Le at *
  have := Int.mul_le_mul_of_nonneg_right h (Int.le_of_lt (pow_pos j))
  rw [Int.pow_add]; grind
theorem Ge.up {n : Int} {k : Nat} {a : UInt64} (h : Ge a n k) (j : Nat) : Ge a (n * 2 ^ j) (k + j) := by
  unfold Ge at *
  have := Int.mul_le_mul_of_nonneg_right h (Int.le_of_lt (pow_pos j))
  rw [Int.pow_add]; grind
/-- what lies between two bounds n / 2^k is finite -/
theorem fin_of {a : UInt64} {n m : Int} {k j : Nat} (nn : Core.val64 a ≠ .nan) (h1 : Ge a n k) (h2 : Le a m j) (bn : n.natAbs ≤ 2 ^ 53) (bm : m.natAbs ≤ 2 ^ 53) (hk : k ≤ 1000) (hj : j ≤ 1000) : Core.DFin a := by
  obtain ⟨V, fV, zV⟩ := rep n k bn hk
  obtain ⟨W, fW, zW⟩ := rep m j bm hj
  refine fin_between nn fV fW ?_ ?_
  · exact le_cancel (pow_pos k) (by unfold Ge at h1; omega)
  · exact le_cancel (pow_pos j) (by unfold Le at h2; omega)
theorem DS.of {a : UInt64} {n : Int} {k : Nat} (nn : Core.val64 a ≠ .nan) (h1 : Ge a n k) (h2 : Le a n k) (bn : n.natAbs ≤ 2 ^ 53) (hk : k ≤ 1000) : DS n k a :=
  ⟨fin_of nn h1 h2 bn bn hk hk, by unfold Ge at h1; unfold Le at h2; omega⟩
/-! the operations against bounds -/
theorem add_Le {a b : UInt64} {n m q : Int} {k : Nat} (fa : Core.DFin a) (fb : Core.DFin b) (ha : Le a n k) (hb : Le b m k) (h : n + m ≤ q) (bq : q.natAbs ≤ 2 ^ 53) (hk : k ≤ 1000) : Le (FP.dadd a b) q k := by
  obtain ⟨V, fV, zV⟩ := rep q k bq hk
  have h1 : zv (FP.dadd a b) ≤ zv V := dadd_le fa fb (notNan fV) (le_cancel (pow_pos k) (by
    unfold Le at ha hb
    rw [Int.add_mul, zV]
    have := Int.mul_le_mul_of_nonneg_right h (Int.le_of_lt U_pos)
    rw [Int.add_mul] at this; omega))
  unfold Le; rw [← zV]; exact Int.mul_le_mul_of_nonneg_right h1 (Int.le_of_lt (pow_pos k))
theorem add_Ge {a b : UInt64} {n m q : Int} {k : Nat} (fa : Core.DFin a) (fb : Core.DFin b) (ha : Ge a n k) (hb : Ge b m k) (h : q ≤ n + m) (bq : q.natAbs ≤ 2 ^ 53) (hk : k ≤ 1000) : Ge (FP.dadd a b) q k := by
  obtain ⟨V, fV, zV⟩ := rep q k bq hk
  have h1 : zv V ≤ zv (FP.dadd a b) := dadd_ge fa fb (notNan fV) (le_cancel (pow_pos k) (by
    unfold Ge at ha hb
    rw [Int.add_mul, zV]
    have := Int.mul_le_mul_of_nonneg_right h (Int.le_of_lt U_pos)
    rw [Int.add_mul] at this; omega))
  unfold Ge; rw [← zV]; exact Int.mul_le_mul_of_nonneg_right h1 (Int.le_of_lt (pow_pos k))
theorem DS.add {a b : UInt64} {n m : Int} {k : Nat} (ha : DS n k a) (hb : DS m k b) (bq : (n + m).natAbs ≤ 2 ^ 53) (hk : k ≤ 1000) : DS (n + m) k (FP.dadd a b) :=
  DS.of (dadd_nn ha.1 hb.1) (add_Ge ha.1 hb.1 ha.ge hb.ge (Int.le_refl _) bq hk) (add_Le ha.1 hb.1 ha.le hb.le (Int.le_refl _) bq hk) bq hk
theorem DS.neg {a : UInt64} {n : Int} {k : Nat} (ha : DS n k a) : DS (-n) k (FP.dneg a) := ⟨fin_dneg ha.1, by rw [zv_dneg, Int.neg_mul, ha.2, Int.neg_mul]⟩
theorem DS.sub {a b : UInt64} {n m : Int} {k : Nat} (ha : DS n k a) (hb : DS m k b) (bq : (n - m).natAbs ≤ 2 ^ 53) (hk : k ≤ 1000) : DS (n - m) k (FP.dsub a b) := by
  rw [dsub_dadd hb.1, show n - m = n + -m by omega]; exact ha.add hb.neg (by rw [← Int.sub_eq_add_neg]; exact bq) hk
theorem DS.mul {a b : UInt64} {n m : Int} {k j : Nat} (ha : DS n k a) (hb : DS m j b) (bq : (n * m).natAbs ≤ 2 ^ 53) (hk : k + j ≤ 1000) : DS (n * m) (k + j) (FP.dmul a b) := by
  obtain ⟨V, fV, zV⟩ := rep (n * m) (k + j) bq hk
  have e : zv a * zv b = zv V * U := by
    have h1 := ha.2; have h2 := hb.2
    refine mul_cancel (pow_pos (k + j)) ?_
    calc zv a * zv b * 2 ^ (k + j) = (zv a * 2 ^ k) * (zv b * 2 ^ j) := by rw [Int.pow_add]; grind
      _ = (n * U) * (m * U) := by rw [h1, h2]
      _ = (n * m * U) * U := by grind
      _ = zv V * U * 2 ^ (k + j) := by rw [← zV]; grind
  have g1 := dmul_le ha.1 hb.1 (notNan fV) (Int.le_of_eq e)
  have g2 := dmul_ge ha.1 hb.1 (notNan fV) (Int.le_of_eq e.symm)
  have g : zv (FP.dmul a b) = zv V := by omega
  exact ⟨fin_between (dmul_nn ha.1 hb.1) fV fV (by omega) (by omega), by rw [g, zV]⟩
theorem DS.pos {b : UInt64} {m : Int} {j : Nat} (hb : DS m j b) (hm : 0 < m) : 0 < zv b := by
  have h1 : 0 < zv b * 2 ^ j := by rw [hb.2]; exact Int.mul_pos hm U_pos
  exact Int.pos_of_mul_pos_left h1 (pow_pos j)
/-- a quotient against a bound q / 2^l -/
theorem div_Le {a b : UInt64} {n m q : Int} {k j l : Nat} (ha : DS n k a) (hb : DS m j b) (hm : 0 < m) (h : n * 2 ^ j * 2 ^ l ≤ q * m * 2 ^ k) (bq : q.natAbs ≤ 2 ^ 53) (hl : l ≤ 1000) : Le (FP.ddiv a b) q l := by
  obtain ⟨V, fV, zV⟩ := rep q l bq hl
  have h1 : zv (FP.ddiv a b) ≤ zv V := ddiv_le ha.1 hb.1 (hb.pos hm) (notNan fV) (by
    refine le_cancel (pow_pos (k + j + l)) ?_
    have e1 : zv a * U * 2 ^ (k + j + l) = (n * 2 ^ j * 2 ^ l) * (U * U) := by
      calc zv a * U * 2 ^ (k + j + l) = (zv a * 2 ^ k) * U * 2 ^ j * 2 ^ l := by rw [Int.pow_add, Int.pow_add]; grind
        _ = _ := by rw [ha.2]; grind
    have e2 : zv V * zv b * 2 ^ (k + j + l) = (q * m * 2 ^ k) * (U * U) := by
      calc zv V * zv b * 2 ^ (k + j + l) = (zv V * 2 ^ l) * (zv b * 2 ^ j) * 2 ^ k := by rw [Int.pow_add, Int.pow_add]; grind
        _ = _ := by rw [zV, hb.2]; grind
    rw [e1, e2]
    exact Int.mul_le_mul_of_nonneg_right h (Int.le_of_lt (Int.mul_pos U_pos U_pos)))
  unfold Le; rw [← zV]; exact Int.mul_le_mul_of_nonneg_right h1 (Int.le_of_lt (pow_pos l))
theorem div_Ge {a b : UInt64} {n m q : Int} {k j l : Nat} (ha : DS n k a) (hb : DS m j b) (hm : 0 < m) (h : q * m * 2 ^ k ≤ n * 2 ^ j * 2 ^ l) (bq : q.natAbs ≤ 2 ^ 53) (hl : l ≤ 1000) : Ge (FP.ddiv a b) q l := by
  obtain ⟨V, fV, zV⟩ := rep q l bq hl
  have h1 : zv V ≤ zv (FP.ddiv a b) := ddiv_ge ha.1 hb.1 (hb.pos hm) (notNan fV) (by
    refine le_cancel (pow_pos (k + j + l)) ?_
    have e1 : zv a * U * 2 ^ (k + j + l) = (n * 2 ^ j * 2 ^ l) * (U * U) := by
      calc zv a * U * 2 ^ (k + j + l) = (zv a * 2 ^ k) * U * 2 ^ j * 2 ^ l := by rw [Int.pow_add, Int.pow_add]; grind
        _ = _ := by rw [ha.2]; grind
    have e2 : zv V * zv b * 2 ^ (k + j + l) = (q * m * 2 ^ k) * (U * U) := by
      calc zv V * zv b * 2 ^ (k + j + l) = (zv V * 2 ^ l) * (zv b * 2 ^ j) * 2 ^ k := by rw [Int.pow_add, Int.pow_add]; grind
        _ = _ := by rw [zV, hb.2]; grind
    rw [e1, e2]
    exact Int.mul_le_mul_of_nonneg_right h (Int.le_of_lt (Int.mul_pos U_pos U_pos)))
  unfold Ge; rw [← zV]; exact Int.mul_le_mul_of_nonneg_right h1 (Int.le_of_lt (pow_pos l))
theorem DS.div {a b : UInt64} {n m q : Int} {k j l : Nat} (ha : DS n k a) (hb : DS m j b) (hm : 0 < m) (h : n * 2 ^ j * 2 ^ l = q * m * 2 ^ k) (bq : q.natAbs ≤ 2 ^ 53) (hl : l ≤ 1000) : DS q l (FP.ddiv a b) :=
  DS.of (ddiv_nn ha.1 hb.1 (hb.pos hm)) (div_Ge ha hb hm (Int.le_of_eq h.symm) bq hl) (div_Le ha hb hm (Int.le_of_eq h) bq hl) bq hl
/-! comparisons -/
theorem cmp_zv {a b : UInt64} (ha : Core.val64 a ≠ .nan) (hb : Core.val64 b ≠ .nan) : FP.dcmp a b = some (compare (zv a) (zv b)) := Core.dcmp_zval ha hb
theorem cmpV_of {a b : UInt64} (ha : Core.val64 a ≠ .nan) (hb : Core.val64 b ≠ .nan) (o : ClassFile.CmpOp) : Op.cmpValue (FP.dcmp a b) o = if zv a < zv b then -1 else if zv a = zv b then 0 else 1 := by
  rw [cmp_zv ha hb, Core.compare_ite]
  split
  · rfl
  · split <;> rfl
theorem cmp_gt {a b : UInt64} (ha : Core.val64 a ≠ .nan) (hb : Core.val64 b ≠ .nan) (h : zv b < zv a) (o : ClassFile.CmpOp) : Op.cmpValue (FP.dcmp a b) o = 1 := by
  rw [cmpV_of ha hb, if_neg (by omega), if_neg (by omega)]
theorem cmp_lt {a b : UInt64} (ha : Core.val64 a ≠ .nan) (hb : Core.val64 b ≠ .nan) (h : zv a < zv b) (o : ClassFile.CmpOp) : Op.cmpValue (FP.dcmp a b) o = -1 := by
  rw [cmpV_of ha hb, if_pos h]
theorem cmp_eq {a b : UInt64} (ha : Core.val64 a ≠ .nan) (hb : Core.val64 b ≠ .nan) (h : zv a = zv b) (o : ClassFile.CmpOp) : Op.cmpValue (FP.dcmp a b) o = 0 := by
  rw [cmpV_of ha hb, if_neg (by omega), if_pos h]
theorem zv_zero : zv FP.dconst0 = 0 := Core.zval64_zero
theorem cmp_neg {a b : UInt64} {k : Int32} {o : ClassFile.CmpOp} (h : Op.cmpValue (FP.dcmp a b) o = k) (ha : Core.val64 a ≠ .nan) (hb : Core.val64 b ≠ .nan) : k < 0 ↔ zv a < zv b := by
  rw [← h, cmpV_of ha hb]; split
  · exact ⟨fun _ => by assumption, fun _ => by decide⟩
  · split
    · exact ⟨fun h => absurd h (by decide), fun h => absurd h (by assumption)⟩
    · exact ⟨fun h => absurd h (by decide), fun h => absurd h (by assumption)⟩
theorem cmp_pos {a b : UInt64} {k : Int32} {o : ClassFile.CmpOp} (h : Op.cmpValue (FP.dcmp a b) o = k) (ha : Core.val64 a ≠ .nan) (hb : Core.val64 b ≠ .nan) : 0 < k ↔ zv b < zv a := by
  rw [← h, cmpV_of ha hb]; split
  · exact ⟨fun h => absurd h (by decide), fun h => by omega⟩
  · split
    · exact ⟨fun h => absurd h (by decide), fun h => by omega⟩
    · exact ⟨fun h => by omega, fun _ => by decide⟩
theorem cmp_nul {a b : UInt64} {k : Int32} {o : ClassFile.CmpOp} (h : Op.cmpValue (FP.dcmp a b) o = k) (ha : Core.val64 a ≠ .nan) (hb : Core.val64 b ≠ .nan) : k = 0 ↔ zv a = zv b := by
  rw [← h, cmpV_of ha hb]; split
  · exact ⟨fun h => absurd h (by decide), fun h => by omega⟩
  · split
    · exact ⟨fun _ => by assumption, fun _ => rfl⟩
    · exact ⟨fun h => absurd h (by decide), fun h => by omega⟩
theorem lt_of {a b : UInt64} {n m : Int} {k : Nat} (h1 : Le a n k) (h2 : Ge b m k) (h : n < m) : zv a < zv b := by
  unfold Le at h1; unfold Ge at h2
  have : n * U < m * U := Int.mul_lt_mul_of_pos_right h U_pos
  exact Int.lt_of_mul_lt_mul_right (a := 2 ^ k) (by omega) (Int.le_of_lt (pow_pos k))
theorem le_of {a b : UInt64} {n m : Int} {k : Nat} (h1 : Le a n k) (h2 : Ge b m k) (h : n ≤ m) : zv a ≤ zv b := by
  unfold Le at h1; unfold Ge at h2
  have : n * U ≤ m * U := Int.mul_le_mul_of_nonneg_right h (Int.le_of_lt U_pos)
  exact Int.le_of_mul_le_mul_right (a := 2 ^ k) (by omega) (pow_pos k)
theorem DS.cmp {a b : UInt64} {n m : Int} {k : Nat} (ha : DS n k a) (hb : DS m k b) (o : ClassFile.CmpOp) : Op.cmpValue (FP.dcmp a b) o = if n < m then -1 else if n = m then 0 else 1 := by
  rw [cmpV_of (notNan ha.1) (notNan hb.1)]
  by_cases h1 : n < m
  · rw [if_pos h1, if_pos (lt_of ha.le hb.ge h1)]
  · by_cases h2 : n = m
    · have e : zv a = zv b := by
        subst h2; have := le_of ha.le hb.ge (Int.le_refl _); have := le_of hb.le ha.ge (Int.le_refl _); omega
      rw [if_neg h1, if_pos h2, if_neg (by omega), if_pos e]
    · have := lt_of hb.le ha.ge (show m < n by omega)
      rw [if_neg h1, if_neg h2, if_neg (by omega), if_neg (by omega)]
theorem DS.zero : DS 0 0 FP.dconst0 := ⟨⟨false, 0, _, Core.val64_dconst0⟩, by
  have : zv FP.dconst0 = 0 := Core.zval64_zero
  rw [this]; simp⟩
theorem DS.one : DS 1 0 FP.dconst1 := DS.int Core.dint_one
theorem zv_one : zv FP.dconst1 = U := by have := DS.one.2; rwa [Int.pow_zero, Int.mul_one, Int.one_mul] at this
theorem DS.noNaN {n : Int} {k : Nat} {a : UInt64} (h : DS n k a) : Jvm.Free.Fl.NoNaN64 a := (Jvm.Free.Fl.fin64_core.mpr h.1).noNaN
theorem noNaN_of {a : UInt64} (h : Core.val64 a ≠ .nan) : Jvm.Free.Fl.NoNaN64 a := Jvm.Free.Fl.noNaN64_no.mpr ((Core.notNaN_iff a).mpr h)
end Jvm.OwnFP
namespace Jvm.OwnFP
open Jvm.FP
theorem sgn_pos {a : UInt64} (h : 0 < zv a) : Core.sgn (Core.val64 a) = false := by
  unfold zv Core.zval at h
  cases e : Core.sgn (Core.val64 a) with
  | false => rfl
  | true => rw [e] at h; simp only [Core.signed, if_true] at h; omega
/-- one quotient by two roads -/
theorem DS.div_same {a a' b b' : UInt64} {n d : Int} {k j : Nat} (ha : DS n k a) (ha' : DS n k a') (hb : DS d j b) (hb' : DS d j b') (hn : 0 < n) (hd : 0 < d) : FP.ddiv a b = FP.ddiv a' b' := by
  have e1 : zv a = zv a' := mul_cancel (pow_pos k) (by rw [ha.2, ha'.2])
  have e2 : zv b = zv b' := mul_cancel (pow_pos j) (by rw [hb.2, hb'.2])
  refine ddiv_congr ha.1 hb.1 (hb.pos hd) ha'.1 hb'.1 (hb'.pos hd) ?_ (by rw [e1, e2])
  rw [sgn_pos (ha.pos hn), sgn_pos (ha'.pos hn)]
end Jvm.OwnFP
namespace Jvm.OwnFP
open Jvm.FP
theorem Le.neg {a : UInt64} {n : Int} {k : Nat} (h : Le a n k) : Ge (FP.dneg a) (-n) k := by unfold Le at h; unfold Ge; rw [zv_dneg, Int.neg_mul, Int.neg_mul]; omega
theorem Ge.neg {a : UInt64} {n : Int} {k : Nat} (h : Ge a n k) : Le (FP.dneg a) (-n) k := by unfold Ge at h; unfold Le; rw [zv_dneg, Int.neg_mul, Int.neg_mul]; omega
theorem sub_Le {a b : UInt64} {n m q : Int} {k : Nat} (fa : Core.DFin a) (fb : Core.DFin b) (ha : Le a n k) (hb : Ge b m k) (h : n - m ≤ q) (bq : q.natAbs ≤ 2 ^ 53) (hk : k ≤ 1000) : Le (FP.dsub a b) q k := by
  rw [dsub_dadd fb]; exact add_Le fa (fin_dneg fb) ha hb.neg (by omega) bq hk
theorem sub_Ge {a b : UInt64} {n m q : Int} {k : Nat} (fa : Core.DFin a) (fb : Core.DFin b) (ha : Ge a n k) (hb : Le b m k) (h : q ≤ n - m) (bq : q.natAbs ≤ 2 ^ 53) (hk : k ≤ 1000) : Ge (FP.dsub a b) q k := by
  rw [dsub_dadd fb]; exact add_Ge fa (fin_dneg fb) ha hb.neg (by omega) bq hk
/-- one quotient at two scales -/
theorem DS.div_scale {a a' b b' : UInt64} {n d : Int} {k k' : Nat} (ha : DS n k a) (ha' : DS n k' a') (hb : DS d k b) (hb' : DS d k' b') (hn : 0 < n) (hd : 0 < d) : FP.ddiv a b = FP.ddiv a' b' := by
  refine ddiv_congr ha.1 hb.1 (hb.pos hd) ha'.1 hb'.1 (hb'.pos hd) ?_ ?_
  · rw [sgn_pos (ha.pos hn), sgn_pos (ha'.pos hn)]
  · refine mul_cancel (pow_pos (k + k')) ?_
    calc zv a * zv b' * 2 ^ (k + k') = (zv a * 2 ^ k) * (zv b' * 2 ^ k') := by rw [Int.pow_add]; ac_rfl
      _ = (zv a' * 2 ^ k') * (zv b * 2 ^ k) := by rw [ha.2, hb'.2, ha'.2, hb.2]
      _ = zv a' * zv b * 2 ^ (k + k') := by rw [Int.pow_add]; ac_rfl
end Jvm.OwnFP
namespace Jvm.Pilot.@@N@@
open Jvm Jvm.ClassFile Sem Op Lib Jvm.Free Jvm.Stand Jvm.LawKit Jvm.RoadKit Bundle Jvm.Pilot.@@N@@.Jvm.D
open Jvm.OwnFP Jvm.FP
theorem pn_com_example_foglane_foglane_uncertainty_TriangularExceedsPinLaw : plainName "com/example/foglane/foglane/uncertainty/TriangularExceedsPinLaw" = true := by first | (simp [plainName, overriddenIn]; done) | decide +kernel
theorem pn_com_example_foglane_foglane_uncertainty_UncertainQuantity_Triangular : plainName "com/example/foglane/foglane/uncertainty/UncertainQuantity$Triangular" = true := by first | (simp [plainName, overriddenIn]; done) | decide +kernel
theorem pn_java_lang_Record : plainName "java/lang/Record" = true := by first | (simp [plainName, overriddenIn]; done) | decide +kernel
theorem pn_java_lang_Double : plainName "java/lang/Double" = true := by first | (simp [plainName, overriddenIn]; done) | decide +kernel
theorem pd___V : parseMethodDescriptor "()V" = some ⟨[], none⟩ := by decide +kernel
theorem pd__DDD_V : parseMethodDescriptor "(DDD)V" = some ⟨[.double, .double, .double], none⟩ := by decide +kernel
theorem pd__D_Z : parseMethodDescriptor "(D)Z" = some ⟨[.double], some .boolean⟩ := by decide +kernel
theorem pd__D_D : parseMethodDescriptor "(D)D" = some ⟨[.double], some .double⟩ := by decide +kernel
theorem abs_le_max {a : UInt64} (h : Core.DFin a) (o : CmpOp) : ¬ 0 < cmpValue (FP.dcmp (a &&& 0x7fffffffffffffff) (9218868437227405311 : UInt64)) o := by
  have f : Core.DFin (a &&& 0x7fffffffffffffff) := by
    rw [Core.fin_bits, Core.mask_toNat, Nat.mod_mod]; exact (Core.fin_bits a).mp h
  have m : Core.val64 9218868437227405311 ≠ .nan := by decide +kernel
  have z : zv (a &&& 0x7fffffffffffffff) ≤ zv 9218868437227405311 := by
    have h1 : Core.zmag Core.b64 (Core.val64 (a &&& 0x7fffffffffffffff)) ≤ Core.zmag Core.b64 (Core.val64 9218868437227405311) := by
      rw [Core.zmag_bits (notNan f), Core.zmag_bits m, Core.unitsOf_le_iff, Core.mask_toNat, Nat.mod_mod]
      have := (Core.fin_bits a).mp h
      show a.toNat % 2 ^ 63 ≤ 9218868437227405311 % 2 ^ 63
      omega
    have h2 : zv (a &&& 0x7fffffffffffffff) ≤ ((Core.zmag Core.b64 (Core.val64 (a &&& 0x7fffffffffffffff)) : Nat) : Int) := by
      unfold zv Core.zval Core.signed; split <;> omega
    have h3 : zv 9218868437227405311 = ((Core.zmag Core.b64 (Core.val64 9218868437227405311) : Nat) : Int) := by
      have : Core.sgn (Core.val64 9218868437227405311) = false := by decide +kernel
      unfold zv Core.zval; rw [this]; rfl
    omega
  rw [cmpV_of (notNan f) m]
  split
  · decide
  · split
    · decide
    · omega
theorem d2_0 : decode jdk_30_method_1_code 0 = .ok (.aload_n 0, 1) := by decide +kernel
theorem d2_1 : decode jdk_30_method_1_code 1 = .ok (.invokespecial 1, 3) := by decide +kernel
theorem d2_4 : decode jdk_30_method_1_code 4 = .ok (.return_, 1) := by decide +kernel
theorem ef_2 (m : MethodId) (a1 : Addr) : entryFrame m #[(.ref a1)] 1 = (mkF m 0 #[.val (.ref a1)] []) := by first | (simp [entryFrame, mkF, argsToLocals, Value.category]; done) | rfl
def Q_2 (Z : State) (a1 : Addr) (h0 : Heap) (n0 : Nat) (v : Option Value) (h : Heap) (L : List Loc) : Prop := v = none ∧ Fr n0 L ∧ h = h0
set_option maxRecDepth 65536 in
set_option maxHeartbeats 2000000 in
theorem rm_2 (l : Launch) (Z : State) (a0 : Array Value) (hw : ∀ d ∈ tables_1, d.before a0 Z = true) (ws : List Jvm.Cond) (a1 : Addr) (h0 : Heap) (n0 : Nat) (Z0 : n0 ≤ h0.size)  :
    MetFree l (⟨"java/lang/Record", "<init>", "()V"⟩ : MethodName) (head1 (Jvm.Cond.code (⟨"java/lang/Record", "<init>", "()V"⟩ : MethodName) jdk_30_method_1_code 1 none :: ws) ({ frames := 1, cells := 0, slots := 0, locals := 12 } : Room)) (fun aa UU => aa = #[(.ref a1)] ∧ Z.Warmed39 UU.vm ∧ UU.heap = h0) (fun _ _ _ _ _ => True) (fun _ UU oo UU' => ∃ v L, oo = .returned v ∧ Q_2 Z a1 h0 n0 v UU'.heap L ∧ FrameEnd UU oo UU' L ({ frames := 1, cells := 0, slots := 0, locals := 12 } : Room).cells ({ frames := 1, cells := 0, slots := 0, locals := 12 } : Room).slots) := by
  refine MetFree.of_bodySF (plainFor_of_name pn_java_lang_Record) hisR ?_
  intro p e s m args below meth c s₁ Bd hml0 hP hK
  obtain ⟨rfl, hZ, hh⟩ := hP
  have hx := Bd.exec
  have hby := Bd.bytes
  have hml : c.maxLocals = 1 := hml0
  have hown : s.vm.findClass "java/lang/Record" = some m.cls := findClass_of_methodNamed Bd.named
  have hnaM := (name_of_methodNamed Bd.named Bd.method).1
  have X0 : Stand p l e ({ frames := 1, cells := 0, slots := 0, locals := 12 } : Room) s m #[(.ref a1)] below meth c s₁ [] 0 0 := Stand.of_body Bd
  have e0 : s₁.heap = h0 := by rw [← hh, Bd.state]; rfl
  have N0 := Fr.nil n0
  have pre0 : ∀ t, Steps p.tables e below (s₁.setTop (entryFrame m #[(.ref a1)] 1)) t → Steps p.tables e below (s₁.setTop (entryFrame m #[(.ref a1)] 1)) t := fun t k => k
  have c0 : ∀ t, Steps p.tables e below (s₁.setTop (mkF m 0 #[.val (.ref a1)] [])) t → Steps p.tables e below (s₁.setTop (entryFrame m #[(.ref a1)] 1)) t := fun t k => castTop (ef_2 m a1) k
  have c1 : ∀ t, Steps p.tables e below (s₁.setTop (mkF m 1 #[.val (.ref a1)] [(.ref a1)])) t → Steps p.tables e below (s₁.setTop (entryFrame m #[(.ref a1)] 1)) t := fun t k => c0 t (by
    show Steps p.tables e below (s₁.setTop (mkF m 0 #[.val (.ref a1)] [])) _
    refine XS.aloadN X0.here hx rfl (hb hby d2_0) rfl rfl ?_
    show Steps p.tables e below (s₁.setTop (mkF m 1 #[.val (.ref a1)] [(.ref a1)])) _
    exact k)
  obtain ⟨T2, X2, e2, st2⟩ := initO X0 hx hZ hown (hw _ (List.mem_of_getElem? (i := 13) rfl)) (hw _ (List.mem_of_getElem? (i := 14) rfl)) (hw _ (List.mem_of_getElem? (i := 15) rfl)) e0 (g := (mkF m 1 #[.val (.ref a1)] [(.ref a1)])) rfl (by rw [hml]; rfl) rfl (hb hby d2_1) (by decide) (W := 0) (by show 2 * 0 + _ ≤ _; exact Nat.le_of_eq rfl) (by decide)
  have c3 : ∀ t, Steps p.tables e below (T2.setTop (mkF m 4 #[.val (.ref a1)] [])) t → Steps p.tables e below (s₁.setTop (entryFrame m #[(.ref a1)] 1)) t := fun t k => c1 t (st2 _ k)
  obtain ⟨fs, hr, hrun, hended, hW, hsame⟩ := X2.leave (v := none) (fun _ => rfl)
  refine ⟨_, _, pre0 _ (c3 _ (X2.returnOut hx Bd.returns (hb hby d2_4) hr)), hrun, hended, _, _, rfl, ?_, ⟨_, rfl⟩, hW, hsame.mono (by decide) (by decide)⟩
  show Q_2 Z a1 h0 n0 _ T2.heap _
  rw [e2]
  exact ⟨rfl, N0, rfl⟩
theorem d4_0 : decode jdk_117_method_7_code 0 = .ok (.dload_n 0, 1) := by decide +kernel
theorem d4_1 : decode jdk_117_method_7_code 1 = .ok (.invokestatic 38, 3) := by decide +kernel
theorem d4_4 : decode jdk_117_method_7_code 4 = .ok (.ldc2_w 111, 3) := by decide +kernel
theorem d4_7 : decode jdk_117_method_7_code 7 = .ok (.dcmp .l, 1) := by decide +kernel
theorem d4_8 : decode jdk_117_method_7_code 8 = .ok (.ifCond .le 7, 3) := by decide +kernel
theorem d4_15 : decode jdk_117_method_7_code 15 = .ok (.iconst 0, 1) := by decide +kernel
theorem d4_16 : decode jdk_117_method_7_code 16 = .ok (.ireturn, 1) := by decide +kernel
theorem ef_4 (m : MethodId) (pd : UInt64) : entryFrame m #[(.double pd)] 2 = (mkF m 0 #[.val (.double pd), .second] []) := by first | (simp [entryFrame, mkF, argsToLocals, Value.category]; done) | rfl
def Q_4 (Z : State) (pd : UInt64) (h0 : Heap) (n0 : Nat) (v : Option Value) (h : Heap) (L : List Loc) : Prop := v = some (.int (0 : Int32)) ∧ Fr n0 L ∧ h = h0
set_option maxRecDepth 65536 in
set_option maxHeartbeats 2000000 in
theorem rm_4 (l : Launch) (Z : State) (a0 : Array Value) (hw : ∀ d ∈ tables_1, d.before a0 Z = true) (ws : List Jvm.Cond) (pd : UInt64) (h0 : Heap) (n0 : Nat) (Z0 : n0 ≤ h0.size) (fd : Core.DFin pd) :
    MetFree l (⟨"java/lang/Double", "isInfinite", "(D)Z"⟩ : MethodName) (head1 (Jvm.Cond.code (⟨"java/lang/Double", "isInfinite", "(D)Z"⟩ : MethodName) jdk_117_method_7_code 2 (some .boolean) :: ws) ({ frames := 1, cells := 0, slots := 0, locals := 13 } : Room)) (fun aa UU => aa = #[(.double pd)] ∧ Z.Warmed39 UU.vm ∧ UU.heap = h0) (fun _ _ _ _ _ => True) (fun _ UU oo UU' => ∃ v L, oo = .returned v ∧ Q_4 Z pd h0 n0 v UU'.heap L ∧ FrameEnd UU oo UU' L ({ frames := 1, cells := 0, slots := 0, locals := 13 } : Room).cells ({ frames := 1, cells := 0, slots := 0, locals := 13 } : Room).slots) := by
  refine MetFree.of_bodySF (plainFor_of_name pn_java_lang_Double) hisR ?_
  intro p e s m args below meth c s₁ Bd hml0 hP hK
  obtain ⟨rfl, hZ, hh⟩ := hP
  have hx := Bd.exec
  have hby := Bd.bytes
  have hml : c.maxLocals = 2 := hml0
  have hown : s.vm.findClass "java/lang/Double" = some m.cls := findClass_of_methodNamed Bd.named
  have hnaM := (name_of_methodNamed Bd.named Bd.method).1
  have X0 : Stand p l e ({ frames := 1, cells := 0, slots := 0, locals := 13 } : Room) s m #[(.double pd)] below meth c s₁ [] 0 0 := Stand.of_body Bd
  have e0 : s₁.heap = h0 := by rw [← hh, Bd.state]; rfl
  have N0 := Fr.nil n0
  have pre0 : ∀ t, Steps p.tables e below (s₁.setTop (entryFrame m #[(.double pd)] 2)) t → Steps p.tables e below (s₁.setTop (entryFrame m #[(.double pd)] 2)) t := fun t k => k
  have c0 : ∀ t, Steps p.tables e below (s₁.setTop (mkF m 0 #[.val (.double pd), .second] [])) t → Steps p.tables e below (s₁.setTop (entryFrame m #[(.double pd)] 2)) t := fun t k => castTop (ef_4 m pd) k
  have c1 : ∀ t, Steps p.tables e below (s₁.setTop (mkF m 1 #[.val (.double pd), .second] [(.double pd)])) t → Steps p.tables e below (s₁.setTop (entryFrame m #[(.double pd)] 2)) t := fun t k => c0 t (by
    show Steps p.tables e below (s₁.setTop (mkF m 0 #[.val (.double pd), .second] [])) _
    refine XS.dloadN X0.here hx rfl (hb hby d4_0) rfl ?_
    show Steps p.tables e below (s₁.setTop (mkF m 1 #[.val (.double pd), .second] [(.double pd)])) _
    exact k)
  obtain ⟨T2, X2, e2, st2⟩ := natS X0 hx hZ hown (hw _ (List.mem_of_getElem? (i := 20) rfl)) (hw _ (List.mem_of_getElem? (i := 21) rfl)) (hw _ (List.mem_of_getElem? (i := 22) rfl)) (hw _ (List.mem_of_getElem? (i := 23) rfl)) (by decide) e0 (W := 0) (F := fun a' => a' = #[(.double pd)]) (val := .double (pd &&& 0x7fffffffffffffff)) (val' := .double (pd &&& 0x7fffffffffffffff)) (fun hc => (Jvm.Free.NT.Abs64.pays hc (mvT hZ (hw _ (List.mem_of_getElem? (i := 21) rfl))) (by decide) (by decide)).mono (fun A a' hp => ⟨pd, hp.2.2, noNaN_of (notNan fd)⟩) (fun A a' v B hp hq => ⟨(hq.2 pd ⟨hp.2.2, noNaN_of (notNan fd)⟩).trans (congrArg (fun z => some (Value.double z)) rfl), hq.1⟩)) (g := (mkF m 1 #[.val (.double pd), .second] [(.double pd)])) rfl (by rw [hml]; rfl) (argsL := [(.double pd)]) (rest := []) (lenOf pd__D_D rfl) rfl (by show 2 * 0 + _ ≤ _; exact Nat.le_of_eq rfl) (hb hby d4_1) (by decide) (by decide) rfl rfl
  have c3 : ∀ t, Steps p.tables e below (T2.setTop (mkF m 4 #[.val (.double pd), .second] [(.double (pd &&& 0x7fffffffffffffff))])) t → Steps p.tables e below (s₁.setTop (entryFrame m #[(.double pd)] 2)) t := fun t k => c1 t (st2 _ k)
  obtain ⟨k7, hk7⟩ : ∃ v : Int32, cmpValue (FP.dcmp (pd &&& 0x7fffffffffffffff) (9218868437227405311 : UInt64)) .l = v := ⟨_, rfl⟩
  have k7v : ¬ 0 < k7 := hk7 ▸ abs_le_max fd .l
  have c4 : ∀ t, Steps p.tables e below (T2.setTop (mkF m 16 #[.val (.double pd), .second] [(.int (0 : Int32))])) t → Steps p.tables e below (s₁.setTop (entryFrame m #[(.double pd)] 2)) t := fun t k => c3 t (by
    show Steps p.tables e below (T2.setTop (mkF m 4 #[.val (.double pd), .second] [(.double (pd &&& 0x7fffffffffffffff))])) _
    refine Jvm.Stand.ldc2DoubleC X2 hx hown (mvT hZ (hw _ (List.mem_of_getElem? (i := 24) rfl))) (g := (mkF m 4 #[.val (.double pd), .second] [(.double (pd &&& 0x7fffffffffffffff))])) rfl (hb hby d4_4) _ ?_
    show Steps p.tables e below (T2.setTop (mkF m 7 #[.val (.double pd), .second] [(.double (9218868437227405311 : UInt64)), (.double (pd &&& 0x7fffffffffffffff))])) _
    refine XS.dcmpS X2.here hx rfl (hb hby d4_7) rfl hk7 ?_
    show Steps p.tables e below (T2.setTop (mkF m 8 #[.val (.double pd), .second] [(.int k7)])) _
    refine XS.ifYes X2.here hx rfl (pc0 := 8) (pc' := 15) rfl (hb hby d4_8) rfl (XT.i0_le_t k7v) (by decide) (by decide) ?_
    show Steps p.tables e below (T2.setTop (mkF m 15 #[.val (.double pd), .second] [])) _
    refine XS.iconst X2.here hx rfl (hb hby d4_15) ?_
    show Steps p.tables e below (T2.setTop (mkF m 16 #[.val (.double pd), .second] [(.int (0 : Int32))])) _
    exact k)
  obtain ⟨fs, hr, hrun, hended, hW, hsame⟩ := X2.leave (v := (some (.int (0 : Int32)))) (fun h => by rw [Bd.returns] at h; cases h)
  refine ⟨_, _, pre0 _ (c4 _ (retN X2 hx (t := .boolean) Bd.returns (by simp) (hb hby d4_16) hr)), hrun, hended, _, _, rfl, ?_, ⟨_, rfl⟩, hW, hsame.mono (by decide) (by decide)⟩
  show Q_4 Z pd h0 n0 _ T2.heap _
  rw [e2]
  exact ⟨rfl, N0, rfl⟩
theorem d1_0 : decode prog_102_method_1_code 0 = .ok (.aload_n 0, 1) := by decide +kernel
theorem d1_1 : decode prog_102_method_1_code 1 = .ok (.invokespecial 1, 3) := by decide +kernel
theorem d1_4 : decode prog_102_method_1_code 4 = .ok (.dconst 0, 1) := by decide +kernel
theorem d1_5 : decode prog_102_method_1_code 5 = .ok (.dload_n 1, 1) := by decide +kernel
theorem d1_6 : decode prog_102_method_1_code 6 = .ok (.dcmp .g, 1) := by decide +kernel
theorem d1_7 : decode prog_102_method_1_code 7 = .ok (.ifCond .gt 24, 3) := by decide +kernel
theorem d1_10 : decode prog_102_method_1_code 10 = .ok (.dload_n 1, 1) := by decide +kernel
theorem d1_11 : decode prog_102_method_1_code 11 = .ok (.dload_n 3, 1) := by decide +kernel
theorem d1_12 : decode prog_102_method_1_code 12 = .ok (.dcmp .g, 1) := by decide +kernel
theorem d1_13 : decode prog_102_method_1_code 13 = .ok (.ifCond .gt 18, 3) := by decide +kernel
theorem d1_16 : decode prog_102_method_1_code 16 = .ok (.dload_n 3, 1) := by decide +kernel
theorem d1_17 : decode prog_102_method_1_code 17 = .ok (.dload 5, 2) := by decide +kernel
theorem d1_19 : decode prog_102_method_1_code 19 = .ok (.dcmp .g, 1) := by decide +kernel
theorem d1_20 : decode prog_102_method_1_code 20 = .ok (.ifCond .gt 11, 3) := by decide +kernel
theorem d1_23 : decode prog_102_method_1_code 23 = .ok (.dload 5, 2) := by decide +kernel
theorem d1_25 : decode prog_102_method_1_code 25 = .ok (.invokestatic 7, 3) := by decide +kernel
theorem d1_28 : decode prog_102_method_1_code 28 = .ok (.ifCond .eq 20, 3) := by decide +kernel
theorem d1_48 : decode prog_102_method_1_code 48 = .ok (.aload_n 0, 1) := by decide +kernel
theorem d1_49 : decode prog_102_method_1_code 49 = .ok (.dload_n 1, 1) := by decide +kernel
theorem d1_50 : decode prog_102_method_1_code 50 = .ok (.putfield 22, 3) := by decide +kernel
theorem d1_53 : decode prog_102_method_1_code 53 = .ok (.aload_n 0, 1) := by decide +kernel
theorem d1_54 : decode prog_102_method_1_code 54 = .ok (.dload_n 3, 1) := by decide +kernel
theorem d1_55 : decode prog_102_method_1_code 55 = .ok (.putfield 28, 3) := by decide +kernel
theorem d1_58 : decode prog_102_method_1_code 58 = .ok (.aload_n 0, 1) := by decide +kernel
theorem d1_59 : decode prog_102_method_1_code 59 = .ok (.dload 5, 2) := by decide +kernel
theorem d1_61 : decode prog_102_method_1_code 61 = .ok (.putfield 31, 3) := by decide +kernel
theorem d1_64 : decode prog_102_method_1_code 64 = .ok (.return_, 1) := by decide +kernel
theorem ef_1 (m : MethodId) (a1 : Addr) (p1 : UInt64) (p2 : UInt64) (p3 : UInt64) : entryFrame m #[(.ref a1), (.double p1), (.double p2), (.double p3)] 7 = (mkF m 0 #[.val (.ref a1), .val (.double p1), .second, .val (.double p2), .second, .val (.double p3), .second] []) := by first | (simp [entryFrame, mkF, argsToLocals, Value.category]; done) | rfl
def Q_1 (Z : State) (a1 : Addr) (p1 : UInt64) (p2 : UInt64) (p3 : UInt64) (h0 : Heap) (n0 : Nat) (v : Option Value) (h : Heap) (L : List Loc) : Prop := v = none ∧ Fr n0 L ∧ Keep h0 h [a1] ∧ Exa Z h a1 "com/example/foglane/foglane/uncertainty/UncertainQuantity$Triangular" ∧ Fld Z h a1 "com/example/foglane/foglane/uncertainty/UncertainQuantity$Triangular" "smallest" "D" (.double p1) ∧ Fld Z h a1 "com/example/foglane/foglane/uncertainty/UncertainQuantity$Triangular" "mostPlausible" "D" (.double p2) ∧ Fld Z h a1 "com/example/foglane/foglane/uncertainty/UncertainQuantity$Triangular" "largest" "D" (.double p3)
set_option maxRecDepth 65536 in
set_option maxHeartbeats 2000000 in
theorem rm_1 (l : Launch) (Z : State) (a0 : Array Value) (hw : ∀ d ∈ tables_1, d.before a0 Z = true) (ws : List Jvm.Cond) (a1 : Addr) (p1 : UInt64) (p2 : UInt64) (p3 : UInt64) (h0 : Heap) (n0 : Nat) (Z0 : n0 ≤ h0.size) (E_a1 : Exa Z h0 a1 "com/example/foglane/foglane/uncertainty/UncertainQuantity$Triangular") (F_0 : Fld Z h0 a1 "com/example/foglane/foglane/uncertainty/UncertainQuantity$Triangular" "smallest" "D" (.double (0 : UInt64))) (F_1 : Fld Z h0 a1 "com/example/foglane/foglane/uncertainty/UncertainQuantity$Triangular" "mostPlausible" "D" (.double (0 : UInt64))) (F_2 : Fld Z h0 a1 "com/example/foglane/foglane/uncertainty/UncertainQuantity$Triangular" "largest" "D" (.double (0 : UInt64))) (g_a1 : n0 ≤ a1) (f1 : Core.DFin p1) (f2 : Core.DFin p2) (f3 : Core.DFin p3) (l1 : 0 ≤ zv p1) (l2 : zv p1 ≤ zv p2) (l3 : zv p2 ≤ zv p3) :
    MetFree l (⟨"com/example/foglane/foglane/uncertainty/UncertainQuantity$Triangular", "<init>", "(DDD)V"⟩ : MethodName) (head1 (Jvm.Cond.code (⟨"com/example/foglane/foglane/uncertainty/UncertainQuantity$Triangular", "<init>", "(DDD)V"⟩ : MethodName) prog_102_method_1_code 7 none :: ws) ({ frames := 2, cells := 0, slots := 0, locals := 26 } : Room)) (fun aa UU => aa = #[(.ref a1), (.double p1), (.double p2), (.double p3)] ∧ Z.Warmed39 UU.vm ∧ UU.heap = h0) (fun _ _ _ _ _ => True) (fun _ UU oo UU' => ∃ v L, oo = .returned v ∧ Q_1 Z a1 p1 p2 p3 h0 n0 v UU'.heap L ∧ FrameEnd UU oo UU' L ({ frames := 2, cells := 0, slots := 0, locals := 26 } : Room).cells ({ frames := 2, cells := 0, slots := 0, locals := 26 } : Room).slots) := by
  refine MetFree.of_bodySF (plainFor_of_name pn_com_example_foglane_foglane_uncertainty_UncertainQuantity_Triangular) hisR ?_
  intro p e s m args below meth c s₁ Bd hml0 hP hK
  obtain ⟨rfl, hZ, hh⟩ := hP
  have hx := Bd.exec
  have hby := Bd.bytes
  have hml : c.maxLocals = 7 := hml0
  have hown : s.vm.findClass "com/example/foglane/foglane/uncertainty/UncertainQuantity$Triangular" = some m.cls := findClass_of_methodNamed Bd.named
  have hnaM := (name_of_methodNamed Bd.named Bd.method).1
  have X0 : Stand p l e ({ frames := 2, cells := 0, slots := 0, locals := 26 } : Room) s m #[(.ref a1), (.double p1), (.double p2), (.double p3)] below meth c s₁ [] 0 0 := Stand.of_body Bd
  have e0 : s₁.heap = h0 := by rw [← hh, Bd.state]; rfl
  have N0 := Fr.nil n0
  have pre0 : ∀ t, Steps p.tables e below (s₁.setTop (entryFrame m #[(.ref a1), (.double p1), (.double p2), (.double p3)] 7)) t → Steps p.tables e below (s₁.setTop (entryFrame m #[(.ref a1), (.double p1), (.double p2), (.double p3)] 7)) t := fun t k => k
  have c0 : ∀ t, Steps p.tables e below (s₁.setTop (mkF m 0 #[.val (.ref a1), .val (.double p1), .second, .val (.double p2), .second, .val (.double p3), .second] [])) t → Steps p.tables e below (s₁.setTop (entryFrame m #[(.ref a1), (.double p1), (.double p2), (.double p3)] 7)) t := fun t k => castTop (ef_1 m a1 p1 p2 p3) k
  have K0 := Keep.refl h0 [a1]
  have c1 : ∀ t, Steps p.tables e below (s₁.setTop (mkF m 1 #[.val (.ref a1), .val (.double p1), .second, .val (.double p2), .second, .val (.double p3), .second] [(.ref a1)])) t → Steps p.tables e below (s₁.setTop (entryFrame m #[(.ref a1), (.double p1), (.double p2), (.double p3)] 7)) t := fun t k => c0 t (by
    show Steps p.tables e below (s₁.setTop (mkF m 0 #[.val (.ref a1), .val (.double p1), .second, .val (.double p2), .second, .val (.double p3), .second] [])) _
    refine XS.aloadN X0.here hx rfl (hb hby d1_0) rfl rfl ?_
    show Steps p.tables e below (s₁.setTop (mkF m 1 #[.val (.ref a1), .val (.double p1), .second, .val (.double p2), .second, .val (.double p3), .second] [(.ref a1)])) _
    exact k)
  obtain ⟨_, _, ⟨T2, L2, k2', n2⟩, -, X2, ⟨Lc2, hQ2, l2, y2, z2⟩, st2⟩ := X0.specialBack hx (y := (⟨"java/lang/Record", "<init>", "()V"⟩ : MethodName)) rfl hown (mvT hZ (hw _ (List.mem_of_getElem? (i := 8) rfl))) (mvT hZ (hw _ (List.mem_of_getElem? (i := 9) rfl))) (mvT hZ (hw _ (List.mem_of_getElem? (i := 12) rfl))) (by decide) (backOf (W := 0) (rm_2 l Z a0 hw [] a1 h0 n0 Z0) hZ (hw _ (List.mem_of_getElem? (i := 12) rfl)) (hw _ (List.mem_of_getElem? (i := 11) rfl)) (by decide) (by decide)) (g := (mkF m 1 #[.val (.ref a1), .val (.double p1), .second, .val (.double p2), .second, .val (.double p3), .second] [(.ref a1)])) rfl (by rw [hml]; rfl) (Steps.refl _) (a := a1) (argsL := []) (rest := []) (lenOf pd___V rfl) rfl (by show 2 * 0 + _ ≤ _; exact Nat.le_of_eq rfl) (hb hby d1_1) (fun _ _ => ⟨rfl, e0, (by decide : 0 + 0 ≤ _), (by decide : 0 + 0 ≤ _)⟩)
  dsimp only [Pt.U, Pt.locs, Pt.cells, Pt.slots] at X2 l2 y2 z2 st2 hQ2
  subst l2 y2 z2
  obtain ⟨rfl, N2, e2⟩ := hQ2
  have M2 := Fr.app N0 N2
  have c3 : ∀ t, Steps p.tables e below (T2.setTop (mkF m 4 #[.val (.ref a1), .val (.double p1), .second, .val (.double p2), .second, .val (.double p3), .second] [])) t → Steps p.tables e below (s₁.setTop (entryFrame m #[(.ref a1), (.double p1), (.double p2), (.double p3)] 7)) t := fun t k => c1 t (st2.trans k)
  obtain ⟨k6, hk6⟩ : ∃ v : Int32, cmpValue (FP.dcmp FP.dconst0 p1) .g = v := ⟨_, rfl⟩
  have v6 : ¬ 0 < k6 := by
    rw [← hk6, cmpV_of (notNan DS.zero.1) (notNan f1)]
    have := l1; rw [zv_zero]
    split
    · decide
    · split
      · decide
      · omega
  obtain ⟨k12, hk12⟩ : ∃ v : Int32, cmpValue (FP.dcmp p1 p2) .g = v := ⟨_, rfl⟩
  have v12 : ¬ 0 < k12 := by
    rw [← hk12, cmpV_of (notNan f1) (notNan f2)]
    have := l2
    split
    · decide
    · split
      · decide
      · omega
  obtain ⟨k19, hk19⟩ : ∃ v : Int32, cmpValue (FP.dcmp p2 p3) .g = v := ⟨_, rfl⟩
  have v19 : ¬ 0 < k19 := by
    rw [← hk19, cmpV_of (notNan f2) (notNan f3)]
    have := l3
    split
    · decide
    · split
      · decide
      · omega
  have c4 : ∀ t, Steps p.tables e below (T2.setTop (mkF m 25 #[.val (.ref a1), .val (.double p1), .second, .val (.double p2), .second, .val (.double p3), .second] [(.double p3)])) t → Steps p.tables e below (s₁.setTop (entryFrame m #[(.ref a1), (.double p1), (.double p2), (.double p3)] 7)) t := fun t k => c3 t (by
    show Steps p.tables e below (T2.setTop (mkF m 4 #[.val (.ref a1), .val (.double p1), .second, .val (.double p2), .second, .val (.double p3), .second] [])) _
    refine XS.dconst0 X2.here hx rfl (hb hby d1_4) rfl ?_
    show Steps p.tables e below (T2.setTop (mkF m 5 #[.val (.ref a1), .val (.double p1), .second, .val (.double p2), .second, .val (.double p3), .second] [(.double FP.dconst0)])) _
    refine XS.dloadN X2.here hx rfl (hb hby d1_5) rfl ?_
    show Steps p.tables e below (T2.setTop (mkF m 6 #[.val (.ref a1), .val (.double p1), .second, .val (.double p2), .second, .val (.double p3), .second] [(.double p1), (.double FP.dconst0)])) _
    refine XS.dcmpS X2.here hx rfl (hb hby d1_6) rfl hk6 ?_
    show Steps p.tables e below (T2.setTop (mkF m 7 #[.val (.ref a1), .val (.double p1), .second, .val (.double p2), .second, .val (.double p3), .second] [(.int k6)])) _
    refine XS.ifNo X2.here hx rfl (hb hby d1_7) rfl (XT.i0_gt_f v6) ?_
    show Steps p.tables e below (T2.setTop (mkF m 10 #[.val (.ref a1), .val (.double p1), .second, .val (.double p2), .second, .val (.double p3), .second] [])) _
    refine XS.dloadN X2.here hx rfl (hb hby d1_10) rfl ?_
    show Steps p.tables e below (T2.setTop (mkF m 11 #[.val (.ref a1), .val (.double p1), .second, .val (.double p2), .second, .val (.double p3), .second] [(.double p1)])) _
    refine XS.dloadN X2.here hx rfl (hb hby d1_11) rfl ?_
    show Steps p.tables e below (T2.setTop (mkF m 12 #[.val (.ref a1), .val (.double p1), .second, .val (.double p2), .second, .val (.double p3), .second] [(.double p2), (.double p1)])) _
    refine XS.dcmpS X2.here hx rfl (hb hby d1_12) rfl hk12 ?_
    show Steps p.tables e below (T2.setTop (mkF m 13 #[.val (.ref a1), .val (.double p1), .second, .val (.double p2), .second, .val (.double p3), .second] [(.int k12)])) _
    refine XS.ifNo X2.here hx rfl (hb hby d1_13) rfl (XT.i0_gt_f v12) ?_
    show Steps p.tables e below (T2.setTop (mkF m 16 #[.val (.ref a1), .val (.double p1), .second, .val (.double p2), .second, .val (.double p3), .second] [])) _
    refine XS.dloadN X2.here hx rfl (hb hby d1_16) rfl ?_
    show Steps p.tables e below (T2.setTop (mkF m 17 #[.val (.ref a1), .val (.double p1), .second, .val (.double p2), .second, .val (.double p3), .second] [(.double p2)])) _
    refine XS.dload X2.here hx rfl (hb hby d1_17) rfl ?_
    show Steps p.tables e below (T2.setTop (mkF m 19 #[.val (.ref a1), .val (.double p1), .second, .val (.double p2), .second, .val (.double p3), .second] [(.double p3), (.double p2)])) _
    refine XS.dcmpS X2.here hx rfl (hb hby d1_19) rfl hk19 ?_
    show Steps p.tables e below (T2.setTop (mkF m 20 #[.val (.ref a1), .val (.double p1), .second, .val (.double p2), .second, .val (.double p3), .second] [(.int k19)])) _
    refine XS.ifNo X2.here hx rfl (hb hby d1_20) rfl (XT.i0_gt_f v19) ?_
    show Steps p.tables e below (T2.setTop (mkF m 23 #[.val (.ref a1), .val (.double p1), .second, .val (.double p2), .second, .val (.double p3), .second] [])) _
    refine XS.dload X2.here hx rfl (hb hby d1_23) rfl ?_
    show Steps p.tables e below (T2.setTop (mkF m 25 #[.val (.ref a1), .val (.double p1), .second, .val (.double p2), .second, .val (.double p3), .second] [(.double p3)])) _
    exact k)
  obtain ⟨_, _, ⟨T5, L5, k5', n5⟩, -, X5, ⟨Lc5, hQ5, l5, y5, z5⟩, st5⟩ := Jvm.LawKit.callS X2 hx (y := (⟨"java/lang/Double", "isInfinite", "(D)Z"⟩ : MethodName)) hown (mvT hZ (hw _ (List.mem_of_getElem? (i := 16) rfl))) (mvT hZ (hw _ (List.mem_of_getElem? (i := 17) rfl))) (mvT hZ (hw _ (List.mem_of_getElem? (i := 18) rfl))) (mvT hZ (hw _ (List.mem_of_getElem? (i := 19) rfl))) (by decide) (backOf (W := 0) (rm_4 l Z a0 hw [] p3 h0 n0 Z0 f3) hZ (hw _ (List.mem_of_getElem? (i := 19) rfl)) (hw _ (List.mem_of_getElem? (i := 18) rfl)) (by decide) (by decide)) (g := (mkF m 25 #[.val (.ref a1), .val (.double p1), .second, .val (.double p2), .second, .val (.double p3), .second] [(.double p3)])) rfl (by rw [hml]; rfl) (argsL := [(.double p3)]) (rest := []) (lenOf pd__D_Z rfl) rfl (by show 2 * 0 + _ ≤ _; exact Nat.le_of_eq rfl) (hb hby d1_25) (fun _ _ => ⟨rfl, e2, (by decide : 0 + 0 ≤ _), (by decide : 0 + 0 ≤ _)⟩)
  dsimp only [Pt.U, Pt.locs, Pt.cells, Pt.slots] at X5 l5 y5 z5 st5 hQ5
  subst l5 y5 z5
  obtain ⟨rfl, N5, e5⟩ := hQ5
  have M5 := Fr.app M2 N5
  have c6 : ∀ t, Steps p.tables e below (T5.setTop (mkF m 28 #[.val (.ref a1), .val (.double p1), .second, .val (.double p2), .second, .val (.double p3), .second] [(.int (0 : Int32))])) t → Steps p.tables e below (s₁.setTop (entryFrame m #[(.ref a1), (.double p1), (.double p2), (.double p3)] 7)) t := fun t k => c4 t (st5 _ k)
  have c7 : ∀ t, Steps p.tables e below (T5.setTop (mkF m 50 #[.val (.ref a1), .val (.double p1), .second, .val (.double p2), .second, .val (.double p3), .second] [(.double p1), (.ref a1)])) t → Steps p.tables e below (s₁.setTop (entryFrame m #[(.ref a1), (.double p1), (.double p2), (.double p3)] 7)) t := fun t k => c6 t (by
    show Steps p.tables e below (T5.setTop (mkF m 28 #[.val (.ref a1), .val (.double p1), .second, .val (.double p2), .second, .val (.double p3), .second] [(.int (0 : Int32))])) _
    refine XS.ifYes X5.here hx rfl (pc0 := 28) (pc' := 48) rfl (hb hby d1_28) rfl (XT.i0_eq_t (by decide)) (by decide) (by decide) ?_
    show Steps p.tables e below (T5.setTop (mkF m 48 #[.val (.ref a1), .val (.double p1), .second, .val (.double p2), .second, .val (.double p3), .second] [])) _
    refine XS.aloadN X5.here hx rfl (hb hby d1_48) rfl rfl ?_
    show Steps p.tables e below (T5.setTop (mkF m 49 #[.val (.ref a1), .val (.double p1), .second, .val (.double p2), .second, .val (.double p3), .second] [(.ref a1)])) _
    refine XS.dloadN X5.here hx rfl (hb hby d1_49) rfl ?_
    show Steps p.tables e below (T5.setTop (mkF m 50 #[.val (.ref a1), .val (.double p1), .second, .val (.double p2), .second, .val (.double p3), .second] [(.double p1), (.ref a1)])) _
    exact k)
  obtain ⟨T8, h8, X8, e8, W8, st8⟩ := putF X5 hx hZ hown (host := "") (Or.inl (hw _ (List.mem_of_getElem? (i := 25) rfl))) Via.refl e5 F_0 E_a1 (Or.inr ⟨(hw _ (List.mem_of_getElem? (i := 26) rfl)), rfl, hnaM⟩) (hw _ (List.mem_of_getElem? (i := 2) rfl)) (ty := .double) (by decide) rfl rfl (g := (mkF m 50 #[.val (.ref a1), .val (.double p1), .second, .val (.double p2), .second, .val (.double p3), .second] [(.double p1), (.ref a1)])) rfl rfl (hb hby d1_50)
  have F9 : Fld Z h8 a1 "com/example/foglane/foglane/uncertainty/UncertainQuantity$Triangular" "smallest" "D" (.double p1) := F_0.same W8
  have F10 : Exa Z h8 a1 "com/example/foglane/foglane/uncertainty/UncertainQuantity$Triangular" := (E_a1.wr W8)
  have F11 : Fld Z h8 a1 "com/example/foglane/foglane/uncertainty/UncertainQuantity$Triangular" "mostPlausible" "D" (.double (0 : UInt64)) := (F_1.other W8 (Or.inr (slot_ne (Or.inr (hw _ (List.mem_of_getElem? (i := 28) rfl))) (Or.inr (hw _ (List.mem_of_getElem? (i := 26) rfl))) (by decide) (t := .double) (t' := .double) (by decide) (by decide))))
  have F12 : Fld Z h8 a1 "com/example/foglane/foglane/uncertainty/UncertainQuantity$Triangular" "largest" "D" (.double (0 : UInt64)) := (F_2.other W8 (Or.inr (slot_ne (Or.inr (hw _ (List.mem_of_getElem? (i := 30) rfl))) (Or.inr (hw _ (List.mem_of_getElem? (i := 26) rfl))) (by decide) (t := .double) (t' := .double) (by decide) (by decide))))
  have N8 := Fr.snoc X8 M5 g_a1
  have K13 : Keep h0 h8 [a1] := K0.wr W8 (Or.inl (List.mem_of_getElem? (i := 0) rfl))
  have c14 : ∀ t, Steps p.tables e below (T8.setTop (mkF m 53 #[.val (.ref a1), .val (.double p1), .second, .val (.double p2), .second, .val (.double p3), .second] [])) t → Steps p.tables e below (s₁.setTop (entryFrame m #[(.ref a1), (.double p1), (.double p2), (.double p3)] 7)) t := fun t k => c7 t (st8 _ k)
  have c15 : ∀ t, Steps p.tables e below (T8.setTop (mkF m 55 #[.val (.ref a1), .val (.double p1), .second, .val (.double p2), .second, .val (.double p3), .second] [(.double p2), (.ref a1)])) t → Steps p.tables e below (s₁.setTop (entryFrame m #[(.ref a1), (.double p1), (.double p2), (.double p3)] 7)) t := fun t k => c14 t (by
    show Steps p.tables e below (T8.setTop (mkF m 53 #[.val (.ref a1), .val (.double p1), .second, .val (.double p2), .second, .val (.double p3), .second] [])) _
    refine XS.aloadN X8.here hx rfl (hb hby d1_53) rfl rfl ?_
    show Steps p.tables e below (T8.setTop (mkF m 54 #[.val (.ref a1), .val (.double p1), .second, .val (.double p2), .second, .val (.double p3), .second] [(.ref a1)])) _
    refine XS.dloadN X8.here hx rfl (hb hby d1_54) rfl ?_
    show Steps p.tables e below (T8.setTop (mkF m 55 #[.val (.ref a1), .val (.double p1), .second, .val (.double p2), .second, .val (.double p3), .second] [(.double p2), (.ref a1)])) _
    exact k)
  obtain ⟨T16, h16, X16, e16, W16, st16⟩ := putF X8 hx hZ hown (host := "") (Or.inl (hw _ (List.mem_of_getElem? (i := 27) rfl))) Via.refl e8 F11 F10 (Or.inr ⟨(hw _ (List.mem_of_getElem? (i := 28) rfl)), rfl, hnaM⟩) (hw _ (List.mem_of_getElem? (i := 2) rfl)) (ty := .double) (by decide) rfl rfl (g := (mkF m 55 #[.val (.ref a1), .val (.double p1), .second, .val (.double p2), .second, .val (.double p3), .second] [(.double p2), (.ref a1)])) rfl rfl (hb hby d1_55)
  have F17 : Fld Z h16 a1 "com/example/foglane/foglane/uncertainty/UncertainQuantity$Triangular" "mostPlausible" "D" (.double p2) := F11.same W16
  have F18 : Exa Z h16 a1 "com/example/foglane/foglane/uncertainty/UncertainQuantity$Triangular" := (F10.wr W16)
  have F19 : Fld Z h16 a1 "com/example/foglane/foglane/uncertainty/UncertainQuantity$Triangular" "smallest" "D" (.double p1) := (F9.other W16 (Or.inr (slot_ne (Or.inr (hw _ (List.mem_of_getElem? (i := 26) rfl))) (Or.inr (hw _ (List.mem_of_getElem? (i := 28) rfl))) (by decide) (t := .double) (t' := .double) (by decide) (by decide))))
  have F20 : Fld Z h16 a1 "com/example/foglane/foglane/uncertainty/UncertainQuantity$Triangular" "largest" "D" (.double (0 : UInt64)) := (F12.other W16 (Or.inr (slot_ne (Or.inr (hw _ (List.mem_of_getElem? (i := 30) rfl))) (Or.inr (hw _ (List.mem_of_getElem? (i := 28) rfl))) (by decide) (t := .double) (t' := .double) (by decide) (by decide))))
  have N16 := Fr.snoc X16 N8 g_a1
  have K21 : Keep h0 h16 [a1] := K13.wr W16 (Or.inl (List.mem_of_getElem? (i := 0) rfl))
  have c22 : ∀ t, Steps p.tables e below (T16.setTop (mkF m 58 #[.val (.ref a1), .val (.double p1), .second, .val (.double p2), .second, .val (.double p3), .second] [])) t → Steps p.tables e below (s₁.setTop (entryFrame m #[(.ref a1), (.double p1), (.double p2), (.double p3)] 7)) t := fun t k => c15 t (st16 _ k)
  have c23 : ∀ t, Steps p.tables e below (T16.setTop (mkF m 61 #[.val (.ref a1), .val (.double p1), .second, .val (.double p2), .second, .val (.double p3), .second] [(.double p3), (.ref a1)])) t → Steps p.tables e below (s₁.setTop (entryFrame m #[(.ref a1), (.double p1), (.double p2), (.double p3)] 7)) t := fun t k => c22 t (by
    show Steps p.tables e below (T16.setTop (mkF m 58 #[.val (.ref a1), .val (.double p1), .second, .val (.double p2), .second, .val (.double p3), .second] [])) _
    refine XS.aloadN X16.here hx rfl (hb hby d1_58) rfl rfl ?_
    show Steps p.tables e below (T16.setTop (mkF m 59 #[.val (.ref a1), .val (.double p1), .second, .val (.double p2), .second, .val (.double p3), .second] [(.ref a1)])) _
    refine XS.dload X16.here hx rfl (hb hby d1_59) rfl ?_
    show Steps p.tables e below (T16.setTop (mkF m 61 #[.val (.ref a1), .val (.double p1), .second, .val (.double p2), .second, .val (.double p3), .second] [(.double p3), (.ref a1)])) _
    exact k)
  obtain ⟨T24, h24, X24, e24, W24, st24⟩ := putF X16 hx hZ hown (host := "") (Or.inl (hw _ (List.mem_of_getElem? (i := 29) rfl))) Via.refl e16 F20 F18 (Or.inr ⟨(hw _ (List.mem_of_getElem? (i := 30) rfl)), rfl, hnaM⟩) (hw _ (List.mem_of_getElem? (i := 2) rfl)) (ty := .double) (by decide) rfl rfl (g := (mkF m 61 #[.val (.ref a1), .val (.double p1), .second, .val (.double p2), .second, .val (.double p3), .second] [(.double p3), (.ref a1)])) rfl rfl (hb hby d1_61)
  have F25 : Fld Z h24 a1 "com/example/foglane/foglane/uncertainty/UncertainQuantity$Triangular" "largest" "D" (.double p3) := F20.same W24
  have F26 : Exa Z h24 a1 "com/example/foglane/foglane/uncertainty/UncertainQuantity$Triangular" := (F18.wr W24)
  have F27 : Fld Z h24 a1 "com/example/foglane/foglane/uncertainty/UncertainQuantity$Triangular" "smallest" "D" (.double p1) := (F19.other W24 (Or.inr (slot_ne (Or.inr (hw _ (List.mem_of_getElem? (i := 26) rfl))) (Or.inr (hw _ (List.mem_of_getElem? (i := 30) rfl))) (by decide) (t := .double) (t' := .double) (by decide) (by decide))))
  have F28 : Fld Z h24 a1 "com/example/foglane/foglane/uncertainty/UncertainQuantity$Triangular" "mostPlausible" "D" (.double p2) := (F17.other W24 (Or.inr (slot_ne (Or.inr (hw _ (List.mem_of_getElem? (i := 28) rfl))) (Or.inr (hw _ (List.mem_of_getElem? (i := 30) rfl))) (by decide) (t := .double) (t' := .double) (by decide) (by decide))))
  have N24 := Fr.snoc X24 N16 g_a1
  have K29 : Keep h0 h24 [a1] := K21.wr W24 (Or.inl (List.mem_of_getElem? (i := 0) rfl))
  have c30 : ∀ t, Steps p.tables e below (T24.setTop (mkF m 64 #[.val (.ref a1), .val (.double p1), .second, .val (.double p2), .second, .val (.double p3), .second] [])) t → Steps p.tables e below (s₁.setTop (entryFrame m #[(.ref a1), (.double p1), (.double p2), (.double p3)] 7)) t := fun t k => c23 t (st24 _ k)
  obtain ⟨fs, hr, hrun, hended, hW, hsame⟩ := X24.leave (v := none) (fun _ => rfl)
  refine ⟨_, _, pre0 _ (c30 _ (X24.returnOut hx Bd.returns (hb hby d1_64) hr)), hrun, hended, _, _, rfl, ?_, ⟨_, rfl⟩, hW, hsame.mono (by decide) (by decide)⟩
  show Q_1 Z a1 p1 p2 p3 h0 n0 _ T24.heap _
  rw [e24]
  exact ⟨rfl, N24, K29, F26, F27, F28, F25⟩
theorem mul_b {x y : Int} {k : Nat} (hx : 0 ≤ x ∧ x ≤ 2 ^ k) (hy : 0 ≤ y ∧ y ≤ 2 ^ k) : 0 ≤ x * y ∧ x * y ≤ 2 ^ (k + k) :=
  ⟨Int.mul_nonneg hx.1 hy.1, by rw [Int.pow_add]; exact Int.mul_le_mul hx.2 hy.2 hy.1 (Int.le_of_lt (pow_pos k))⟩
/-- what exceeds gives: of a, b, c, t, all in halves -/
def Exc (a b c t : Int) (r : UInt64) : Prop :=
  (t < a ∧ r = FP.dconst1) ∨ (¬ t < a ∧ ¬ t < c ∧ r = FP.dconst0) ∨
  (¬ t < a ∧ t < c ∧ t < b ∧ ∃ x y, DS ((t - a) * (t - a)) 2 x ∧ DS ((c - a) * (b - a)) 2 y ∧ r = FP.dsub FP.dconst1 (FP.ddiv x y)) ∨
  (¬ t < a ∧ t < c ∧ ¬ t < b ∧ ∃ x y, DS ((c - t) * (c - t)) 2 x ∧ DS ((c - a) * (c - b)) 2 y ∧ r = FP.ddiv x y)
theorem one_h : DS 2 1 FP.dconst1 := DS.one.up 1
theorem quo01 {x y : UInt64} {n d : Int} {k : Nat} (hx : DS n k x) (hy : DS d k y) (h0 : 0 ≤ n) (h1 : n ≤ d) (hd : 0 < d) : Core.DFin (FP.ddiv x y) ∧ Ge (FP.ddiv x y) 0 0 ∧ Le (FP.ddiv x y) 1 0 := by
  have p := pow_pos k
  have g : Ge (FP.ddiv x y) 0 0 := div_Ge hx hy hd (by rw [Int.pow_zero, Int.mul_one, Int.zero_mul, Int.zero_mul]; exact Int.mul_nonneg h0 (Int.le_of_lt p)) (by decide) (by decide)
  have l : Le (FP.ddiv x y) 1 0 := div_Le hx hy hd (by rw [Int.pow_zero, Int.mul_one, Int.one_mul]; exact Int.mul_le_mul_of_nonneg_right h1 (Int.le_of_lt p)) (by decide) (by decide)
  exact ⟨fin_of (ddiv_nn hx.1 hy.1 (hy.pos hd)) g l (by decide) (by decide) (by decide) (by decide), g, l⟩
theorem sub01 {q : UInt64} (fq : Core.DFin q) (g : Ge q 0 0) (l : Le q 1 0) : Core.DFin (FP.dsub FP.dconst1 q) ∧ Ge (FP.dsub FP.dconst1 q) 0 0 ∧ Le (FP.dsub FP.dconst1 q) 1 0 := by
  have g1 : Ge (FP.dsub FP.dconst1 q) 0 0 := sub_Ge DS.one.1 fq DS.one.ge l (by decide) (by decide) (by decide)
  have l1 : Le (FP.dsub FP.dconst1 q) 1 0 := sub_Le DS.one.1 fq DS.one.le g (by decide) (by decide) (by decide)
  exact ⟨fin_of (dsub_nn DS.one.1 fq) g1 l1 (by decide) (by decide) (by decide) (by decide), g1, l1⟩
theorem rise_b {a b c t : Int} (h1 : ¬ t < a) (h3 : t < b) (hb : a ≤ b ∧ b ≤ c ∧ c - a ≤ 2 ^ 13) : 0 ≤ (t - a) * (t - a) ∧ (t - a) * (t - a) ≤ (c - a) * (b - a) ∧ 0 < (c - a) * (b - a) ∧ (c - a) * (b - a) ≤ 2 ^ 26 := by
  have u1 : (t - a) * (t - a) ≤ (b - a) * (b - a) := Int.mul_le_mul (by omega) (by omega) (by omega) (by omega)
  have u2 : (b - a) * (b - a) ≤ (c - a) * (b - a) := Int.mul_le_mul_of_nonneg_right (by omega) (by omega)
  have u3 : 0 < (c - a) * (b - a) := Int.mul_pos (by omega) (by omega)
  have u4 := mul_b (k := 13) (x := c - a) (y := b - a) (by omega) (by omega)
  have u5 : 0 ≤ (t - a) * (t - a) := Int.mul_nonneg (by omega) (by omega)
  omega
theorem fall_b {a b c t : Int} (h2 : t < c) (h3 : ¬ t < b) (hb : a ≤ b ∧ b ≤ c ∧ c - a ≤ 2 ^ 13) : 0 < (c - t) * (c - t) ∧ (c - t) * (c - t) ≤ (c - a) * (c - b) ∧ (c - a) * (c - b) ≤ 2 ^ 26 := by
  have u1 : (c - t) * (c - t) ≤ (c - b) * (c - b) := Int.mul_le_mul (by omega) (by omega) (by omega) (by omega)
  have u2 : (c - b) * (c - b) ≤ (c - a) * (c - b) := Int.mul_le_mul_of_nonneg_right (by omega) (by omega)
  have u3 : 0 < (c - t) * (c - t) := Int.mul_pos (by omega) (by omega)
  have u4 := mul_b (k := 13) (x := c - a) (y := c - b) (by omega) (by omega)
  omega
theorem Exc.unit {a b c t : Int} {r : UInt64} (h : Exc a b c t r) (hb : a ≤ b ∧ b ≤ c ∧ c - a ≤ 2 ^ 13) : Core.DFin r ∧ Ge r 0 0 ∧ Le r 1 0 := by
  rcases h with ⟨-, rfl⟩ | ⟨-, -, rfl⟩ | ⟨h1, h2, h3, x, y, dx, dy, rfl⟩ | ⟨h1, h2, h3, x, y, dx, dy, rfl⟩
  · exact ⟨DS.one.1, by have := U_pos; unfold Ge; rw [show zv FP.dconst1 = U by have := DS.one.2; rwa [Int.pow_zero, Int.mul_one, Int.one_mul] at this]; omega, DS.one.le⟩
  · exact ⟨DS.zero.1, DS.zero.ge, by have := U_pos; unfold Le; rw [zv_zero]; omega⟩
  · obtain ⟨u1, u2, u3, u4⟩ := rise_b h1 h3 hb
    obtain ⟨f, g, l⟩ := quo01 dx dy u1 u2 u3
    exact sub01 f g l
  · obtain ⟨u1, u2, u3⟩ := fall_b h2 h3 hb
    exact quo01 dx dy (by omega) u2 (by omega)
theorem d6_0 : decode prog_102_method_5_code 0 = .ok (.dload_n 1, 1) := by decide +kernel
theorem d6_1 : decode prog_102_method_5_code 1 = .ok (.aload_n 0, 1) := by decide +kernel
theorem d6_2 : decode prog_102_method_5_code 2 = .ok (.getfield 22, 3) := by decide +kernel
theorem d6_5 : decode prog_102_method_5_code 5 = .ok (.dcmp .g, 1) := by decide +kernel
theorem d6_6 : decode prog_102_method_5_code 6 = .ok (.ifCond .ge 5, 3) := by decide +kernel
theorem d6_9 : decode prog_102_method_5_code 9 = .ok (.dconst 1, 1) := by decide +kernel
theorem d6_10 : decode prog_102_method_5_code 10 = .ok (.dreturn, 1) := by decide +kernel
theorem d6_11 : decode prog_102_method_5_code 11 = .ok (.dload_n 1, 1) := by decide +kernel
theorem d6_12 : decode prog_102_method_5_code 12 = .ok (.aload_n 0, 1) := by decide +kernel
theorem d6_13 : decode prog_102_method_5_code 13 = .ok (.getfield 31, 3) := by decide +kernel
theorem d6_16 : decode prog_102_method_5_code 16 = .ok (.dcmp .l, 1) := by decide +kernel
theorem d6_17 : decode prog_102_method_5_code 17 = .ok (.ifCond .lt 5, 3) := by decide +kernel
theorem d6_20 : decode prog_102_method_5_code 20 = .ok (.dconst 0, 1) := by decide +kernel
theorem d6_21 : decode prog_102_method_5_code 21 = .ok (.dreturn, 1) := by decide +kernel
theorem d6_22 : decode prog_102_method_5_code 22 = .ok (.aload_n 0, 1) := by decide +kernel
theorem d6_23 : decode prog_102_method_5_code 23 = .ok (.getfield 31, 3) := by decide +kernel
theorem d6_26 : decode prog_102_method_5_code 26 = .ok (.aload_n 0, 1) := by decide +kernel
theorem d6_27 : decode prog_102_method_5_code 27 = .ok (.getfield 22, 3) := by decide +kernel
theorem d6_30 : decode prog_102_method_5_code 30 = .ok (.dsub, 1) := by decide +kernel
theorem d6_31 : decode prog_102_method_5_code 31 = .ok (.dstore_n 3, 1) := by decide +kernel
theorem d6_32 : decode prog_102_method_5_code 32 = .ok (.dload_n 1, 1) := by decide +kernel
theorem d6_33 : decode prog_102_method_5_code 33 = .ok (.aload_n 0, 1) := by decide +kernel
theorem d6_34 : decode prog_102_method_5_code 34 = .ok (.getfield 28, 3) := by decide +kernel
theorem d6_37 : decode prog_102_method_5_code 37 = .ok (.dcmp .g, 1) := by decide +kernel
theorem d6_38 : decode prog_102_method_5_code 38 = .ok (.ifCond .ge 31, 3) := by decide +kernel
theorem d6_41 : decode prog_102_method_5_code 41 = .ok (.dload_n 1, 1) := by decide +kernel
theorem d6_42 : decode prog_102_method_5_code 42 = .ok (.aload_n 0, 1) := by decide +kernel
theorem d6_43 : decode prog_102_method_5_code 43 = .ok (.getfield 22, 3) := by decide +kernel
theorem d6_46 : decode prog_102_method_5_code 46 = .ok (.dsub, 1) := by decide +kernel
theorem d6_47 : decode prog_102_method_5_code 47 = .ok (.dstore 5, 2) := by decide +kernel
theorem d6_49 : decode prog_102_method_5_code 49 = .ok (.dconst 1, 1) := by decide +kernel
theorem d6_50 : decode prog_102_method_5_code 50 = .ok (.dload 5, 2) := by decide +kernel
theorem d6_52 : decode prog_102_method_5_code 52 = .ok (.dload 5, 2) := by decide +kernel
theorem d6_54 : decode prog_102_method_5_code 54 = .ok (.dmul, 1) := by decide +kernel
theorem d6_55 : decode prog_102_method_5_code 55 = .ok (.dload_n 3, 1) := by decide +kernel
theorem d6_56 : decode prog_102_method_5_code 56 = .ok (.aload_n 0, 1) := by decide +kernel
theorem d6_57 : decode prog_102_method_5_code 57 = .ok (.getfield 28, 3) := by decide +kernel
theorem d6_60 : decode prog_102_method_5_code 60 = .ok (.aload_n 0, 1) := by decide +kernel
theorem d6_61 : decode prog_102_method_5_code 61 = .ok (.getfield 22, 3) := by decide +kernel
theorem d6_64 : decode prog_102_method_5_code 64 = .ok (.dsub, 1) := by decide +kernel
theorem d6_65 : decode prog_102_method_5_code 65 = .ok (.dmul, 1) := by decide +kernel
theorem d6_66 : decode prog_102_method_5_code 66 = .ok (.ddiv, 1) := by decide +kernel
theorem d6_67 : decode prog_102_method_5_code 67 = .ok (.dsub, 1) := by decide +kernel
theorem d6_68 : decode prog_102_method_5_code 68 = .ok (.dreturn, 1) := by decide +kernel
theorem d6_69 : decode prog_102_method_5_code 69 = .ok (.aload_n 0, 1) := by decide +kernel
theorem d6_70 : decode prog_102_method_5_code 70 = .ok (.getfield 31, 3) := by decide +kernel
theorem d6_73 : decode prog_102_method_5_code 73 = .ok (.dload_n 1, 1) := by decide +kernel
theorem d6_74 : decode prog_102_method_5_code 74 = .ok (.dsub, 1) := by decide +kernel
theorem d6_75 : decode prog_102_method_5_code 75 = .ok (.dstore 5, 2) := by decide +kernel
theorem d6_77 : decode prog_102_method_5_code 77 = .ok (.dload 5, 2) := by decide +kernel
theorem d6_79 : decode prog_102_method_5_code 79 = .ok (.dload 5, 2) := by decide +kernel
theorem d6_81 : decode prog_102_method_5_code 81 = .ok (.dmul, 1) := by decide +kernel
theorem d6_82 : decode prog_102_method_5_code 82 = .ok (.dload_n 3, 1) := by decide +kernel
theorem d6_83 : decode prog_102_method_5_code 83 = .ok (.aload_n 0, 1) := by decide +kernel
theorem d6_84 : decode prog_102_method_5_code 84 = .ok (.getfield 31, 3) := by decide +kernel
theorem d6_87 : decode prog_102_method_5_code 87 = .ok (.aload_n 0, 1) := by decide +kernel
theorem d6_88 : decode prog_102_method_5_code 88 = .ok (.getfield 28, 3) := by decide +kernel
theorem d6_91 : decode prog_102_method_5_code 91 = .ok (.dsub, 1) := by decide +kernel
theorem d6_92 : decode prog_102_method_5_code 92 = .ok (.dmul, 1) := by decide +kernel
theorem d6_93 : decode prog_102_method_5_code 93 = .ok (.ddiv, 1) := by decide +kernel
theorem d6_94 : decode prog_102_method_5_code 94 = .ok (.dreturn, 1) := by decide +kernel
theorem ef_6 (m : MethodId) (a1 : Addr) (ps : UInt64) (p1 : UInt64) (p2 : UInt64) (p3 : UInt64) (a_ b_ c_ t_ : Int) : entryFrame m #[(.ref a1), (.double ps)] 7 = (mkF m 0 #[.val (.ref a1), .val (.double ps), .second, .unset, .unset, .unset, .unset] []) := by first | (simp [entryFrame, mkF, argsToLocals, Value.category]; done) | rfl
def Q_6 (Z : State) (a1 : Addr) (ps : UInt64) (p1 : UInt64) (p2 : UInt64) (p3 : UInt64) (a_ b_ c_ t_ : Int) (h0 : Heap) (n0 : Nat) (v : Option Value) (h : Heap) (L : List Loc) : Prop := (∃ r, v = some (.double r) ∧ Exc a_ b_ c_ t_ r) ∧ Fr n0 L ∧ h = h0
set_option maxRecDepth 65536 in
set_option maxHeartbeats 2000000 in
theorem rm_6 (l : Launch) (Z : State) (a0 : Array Value) (hw : ∀ d ∈ tables_1, d.before a0 Z = true) (ws : List Jvm.Cond) (a1 : Addr) (ps : UInt64) (p1 : UInt64) (p2 : UInt64) (p3 : UInt64) (a_ b_ c_ t_ : Int) (h0 : Heap) (n0 : Nat) (Z0 : n0 ≤ h0.size) (G_0 : Fld Z h0 a1 "com/example/foglane/foglane/uncertainty/UncertainQuantity$Triangular" "smallest" "D" (.double p1)) (G_1 : Fld Z h0 a1 "com/example/foglane/foglane/uncertainty/UncertainQuantity$Triangular" "mostPlausible" "D" (.double p2)) (G_2 : Fld Z h0 a1 "com/example/foglane/foglane/uncertainty/UncertainQuantity$Triangular" "largest" "D" (.double p3)) (d1 : DS a_ 1 p1) (d2 : DS b_ 1 p2) (d3 : DS c_ 1 p3) (ds : DS t_ 1 ps) (hb_ : a_ ≤ b_ ∧ b_ ≤ c_ ∧ c_ - a_ ≤ 2 ^ 13) :
    MetFree l (⟨"com/example/foglane/foglane/uncertainty/UncertainQuantity$Triangular", "exceeds", "(D)D"⟩ : MethodName) (head1 (Jvm.Cond.code (⟨"com/example/foglane/foglane/uncertainty/UncertainQuantity$Triangular", "exceeds", "(D)D"⟩ : MethodName) prog_102_method_5_code 7 (some .double) :: ws) ({ frames := 0, cells := 0, slots := 0, locals := 0 } : Room)) (fun aa UU => aa = #[(.ref a1), (.double ps)] ∧ Z.Warmed39 UU.vm ∧ UU.heap = h0) (fun _ _ _ _ _ => True) (fun _ UU oo UU' => ∃ v L, oo = .returned v ∧ Q_6 Z a1 ps p1 p2 p3 a_ b_ c_ t_ h0 n0 v UU'.heap L ∧ FrameEnd UU oo UU' L ({ frames := 0, cells := 0, slots := 0, locals := 0 } : Room).cells ({ frames := 0, cells := 0, slots := 0, locals := 0 } : Room).slots) := by
  refine MetFree.of_bodySF (plainFor_of_name pn_com_example_foglane_foglane_uncertainty_UncertainQuantity_Triangular) hisR ?_
  intro p e s m args below meth c s₁ Bd hml0 hP hK
  obtain ⟨rfl, hZ, hh⟩ := hP
  have hx := Bd.exec
  have hby := Bd.bytes
  have hml : c.maxLocals = 7 := hml0
  have hown : s.vm.findClass "com/example/foglane/foglane/uncertainty/UncertainQuantity$Triangular" = some m.cls := findClass_of_methodNamed Bd.named
  have hnaM := (name_of_methodNamed Bd.named Bd.method).1
  have X0 : Stand p l e ({ frames := 0, cells := 0, slots := 0, locals := 0 } : Room) s m #[(.ref a1), (.double ps)] below meth c s₁ [] 0 0 := Stand.of_body Bd
  have e0 : s₁.heap = h0 := by rw [← hh, Bd.state]; rfl
  have N0 := Fr.nil n0
  have pre0 : ∀ t, Steps p.tables e below (s₁.setTop (entryFrame m #[(.ref a1), (.double ps)] 7)) t → Steps p.tables e below (s₁.setTop (entryFrame m #[(.ref a1), (.double ps)] 7)) t := fun t k => k
  have c0 : ∀ t, Steps p.tables e below (s₁.setTop (mkF m 0 #[.val (.ref a1), .val (.double ps), .second, .unset, .unset, .unset, .unset] [])) t → Steps p.tables e below (s₁.setTop (entryFrame m #[(.ref a1), (.double ps)] 7)) t := fun t k => castTop (ef_6 m a1 ps p1 p2 p3 a_ b_ c_ t_) k
  have c1 : ∀ t, Steps p.tables e below (s₁.setTop (mkF m 2 #[.val (.ref a1), .val (.double ps), .second, .unset, .unset, .unset, .unset] [(.ref a1), (.double ps)])) t → Steps p.tables e below (s₁.setTop (entryFrame m #[(.ref a1), (.double ps)] 7)) t := fun t k => c0 t (by
    show Steps p.tables e below (s₁.setTop (mkF m 0 #[.val (.ref a1), .val (.double ps), .second, .unset, .unset, .unset, .unset] [])) _
    refine XS.dloadN X0.here hx rfl (hb hby d6_0) rfl ?_
    show Steps p.tables e below (s₁.setTop (mkF m 1 #[.val (.ref a1), .val (.double ps), .second, .unset, .unset, .unset, .unset] [(.double ps)])) _
    refine XS.aloadN X0.here hx rfl (hb hby d6_1) rfl rfl ?_
    show Steps p.tables e below (s₁.setTop (mkF m 2 #[.val (.ref a1), .val (.double ps), .second, .unset, .unset, .unset, .unset] [(.ref a1), (.double ps)])) _
    exact k)
  obtain ⟨T2, X2, e2, st2⟩ := getF X0 hx hZ hown (host := "") (Or.inl (hw _ (List.mem_of_getElem? (i := 25) rfl))) Via.refl e0 G_0 (g := (mkF m 2 #[.val (.ref a1), .val (.double ps), .second, .unset, .unset, .unset, .unset] [(.ref a1), (.double ps)])) rfl rfl (hb hby d6_2)
  have c3 : ∀ t, Steps p.tables e below (T2.setTop (mkF m 5 #[.val (.ref a1), .val (.double ps), .second, .unset, .unset, .unset, .unset] [(.double p1), (.double ps)])) t → Steps p.tables e below (s₁.setTop (entryFrame m #[(.ref a1), (.double ps)] 7)) t := fun t k => c1 t (st2 _ k)
  obtain ⟨k5, hk5⟩ : ∃ v : Int32, cmpValue (FP.dcmp ps p1) .g = v := ⟨_, rfl⟩
  have c5 := ds.cmp d1 .g
  rw [hk5] at c5
  have kv5 : k5 < 0 ↔ t_ < a_ := by
    rw [c5]; split
    · exact ⟨fun _ => by assumption, fun _ => by decide⟩
    · split
      · exact ⟨fun h => absurd h (by decide), fun h => absurd h (by assumption)⟩
      · exact ⟨fun h => absurd h (by decide), fun h => absurd h (by assumption)⟩
  have c4 : ∀ t, Steps p.tables e below (T2.setTop (mkF m 6 #[.val (.ref a1), .val (.double ps), .second, .unset, .unset, .unset, .unset] [(.int k5)])) t → Steps p.tables e below (s₁.setTop (entryFrame m #[(.ref a1), (.double ps)] 7)) t := fun t k => c3 t (by
    show Steps p.tables e below (T2.setTop (mkF m 5 #[.val (.ref a1), .val (.double ps), .second, .unset, .unset, .unset, .unset] [(.double p1), (.double ps)])) _
    refine XS.dcmpS X2.here hx rfl (hb hby d6_5) rfl hk5 ?_
    show Steps p.tables e below (T2.setTop (mkF m 6 #[.val (.ref a1), .val (.double ps), .second, .unset, .unset, .unset, .unset] [(.int k5)])) _
    exact k)
  by_cases q6 : k5 < 0
  · skip
    have r6 := kv5.mp q6
    have c5 : ∀ t, Steps p.tables e below (T2.setTop (mkF m 10 #[.val (.ref a1), .val (.double ps), .second, .unset, .unset, .unset, .unset] [(.double FP.dconst1)])) t → Steps p.tables e below (s₁.setTop (entryFrame m #[(.ref a1), (.double ps)] 7)) t := fun t k => c4 t (by
      show Steps p.tables e below (T2.setTop (mkF m 6 #[.val (.ref a1), .val (.double ps), .second, .unset, .unset, .unset, .unset] [(.int k5)])) _
      refine XS.ifNo X2.here hx rfl (hb hby d6_6) rfl (XT.i0_ge_f q6) ?_
      show Steps p.tables e below (T2.setTop (mkF m 9 #[.val (.ref a1), .val (.double ps), .second, .unset, .unset, .unset, .unset] [])) _
      refine XS.dconst1 X2.here hx rfl (hb hby d6_9) rfl ?_
      show Steps p.tables e below (T2.setTop (mkF m 10 #[.val (.ref a1), .val (.double ps), .second, .unset, .unset, .unset, .unset] [(.double FP.dconst1)])) _
      exact k)
    obtain ⟨fs, hr, hrun, hended, hW, hsame⟩ := X2.leave (v := (some (.double FP.dconst1))) (fun h => by rw [Bd.returns] at h; cases h)
    refine ⟨_, _, pre0 _ (c5 _ (retOut X2 hx (t := .double) (i := .dreturn) Bd.returns rfl (Or.inr (Or.inr (Or.inl ⟨rfl, rfl, _, rfl⟩))) (hb hby d6_10) hr)), hrun, hended, _, _, rfl, ?_, ⟨_, rfl⟩, hW, hsame.mono (by decide) (by decide)⟩
    show Q_6 Z a1 ps p1 p2 p3 a_ b_ c_ t_ h0 n0 _ T2.heap _
    rw [e2]
    exact ⟨⟨_, rfl, Or.inl ⟨r6, rfl⟩⟩, N0, rfl⟩
  · skip
    have r6 : ¬ t_ < a_ := fun q => q6 (kv5.mpr q)
    have c6 : ∀ t, Steps p.tables e below (T2.setTop (mkF m 13 #[.val (.ref a1), .val (.double ps), .second, .unset, .unset, .unset, .unset] [(.ref a1), (.double ps)])) t → Steps p.tables e below (s₁.setTop (entryFrame m #[(.ref a1), (.double ps)] 7)) t := fun t k => c4 t (by
      show Steps p.tables e below (T2.setTop (mkF m 6 #[.val (.ref a1), .val (.double ps), .second, .unset, .unset, .unset, .unset] [(.int k5)])) _
      refine XS.ifYes X2.here hx rfl (pc0 := 6) (pc' := 11) rfl (hb hby d6_6) rfl (XT.i0_ge_t q6) (by decide) (by decide) ?_
      show Steps p.tables e below (T2.setTop (mkF m 11 #[.val (.ref a1), .val (.double ps), .second, .unset, .unset, .unset, .unset] [])) _
      refine XS.dloadN X2.here hx rfl (hb hby d6_11) rfl ?_
      show Steps p.tables e below (T2.setTop (mkF m 12 #[.val (.ref a1), .val (.double ps), .second, .unset, .unset, .unset, .unset] [(.double ps)])) _
      refine XS.aloadN X2.here hx rfl (hb hby d6_12) rfl rfl ?_
      show Steps p.tables e below (T2.setTop (mkF m 13 #[.val (.ref a1), .val (.double ps), .second, .unset, .unset, .unset, .unset] [(.ref a1), (.double ps)])) _
      exact k)
    obtain ⟨T7, X7, e7, st7⟩ := getF X2 hx hZ hown (host := "") (Or.inl (hw _ (List.mem_of_getElem? (i := 29) rfl))) Via.refl e2 G_2 (g := (mkF m 13 #[.val (.ref a1), .val (.double ps), .second, .unset, .unset, .unset, .unset] [(.ref a1), (.double ps)])) rfl rfl (hb hby d6_13)
    have c8 : ∀ t, Steps p.tables e below (T7.setTop (mkF m 16 #[.val (.ref a1), .val (.double ps), .second, .unset, .unset, .unset, .unset] [(.double p3), (.double ps)])) t → Steps p.tables e below (s₁.setTop (entryFrame m #[(.ref a1), (.double ps)] 7)) t := fun t k => c6 t (st7 _ k)
    obtain ⟨k16, hk16⟩ : ∃ v : Int32, cmpValue (FP.dcmp ps p3) .l = v := ⟨_, rfl⟩
    have c16 := ds.cmp d3 .l
    rw [hk16] at c16
    have kv16 : k16 < 0 ↔ t_ < c_ := by
      rw [c16]; split
      · exact ⟨fun _ => by assumption, fun _ => by decide⟩
      · split
        · exact ⟨fun h => absurd h (by decide), fun h => absurd h (by assumption)⟩
        · exact ⟨fun h => absurd h (by decide), fun h => absurd h (by assumption)⟩
    have c9 : ∀ t, Steps p.tables e below (T7.setTop (mkF m 17 #[.val (.ref a1), .val (.double ps), .second, .unset, .unset, .unset, .unset] [(.int k16)])) t → Steps p.tables e below (s₁.setTop (entryFrame m #[(.ref a1), (.double ps)] 7)) t := fun t k => c8 t (by
      show Steps p.tables e below (T7.setTop (mkF m 16 #[.val (.ref a1), .val (.double ps), .second, .unset, .unset, .unset, .unset] [(.double p3), (.double ps)])) _
      refine XS.dcmpS X7.here hx rfl (hb hby d6_16) rfl hk16 ?_
      show Steps p.tables e below (T7.setTop (mkF m 17 #[.val (.ref a1), .val (.double ps), .second, .unset, .unset, .unset, .unset] [(.int k16)])) _
      exact k)
    by_cases q17 : k16 < 0
    · skip
      have r17 := kv16.mp q17
      have c10 : ∀ t, Steps p.tables e below (T7.setTop (mkF m 23 #[.val (.ref a1), .val (.double ps), .second, .unset, .unset, .unset, .unset] [(.ref a1)])) t → Steps p.tables e below (s₁.setTop (entryFrame m #[(.ref a1), (.double ps)] 7)) t := fun t k => c9 t (by
        show Steps p.tables e below (T7.setTop (mkF m 17 #[.val (.ref a1), .val (.double ps), .second, .unset, .unset, .unset, .unset] [(.int k16)])) _
        refine XS.ifYes X7.here hx rfl (pc0 := 17) (pc' := 22) rfl (hb hby d6_17) rfl (XT.i0_lt_t q17) (by decide) (by decide) ?_
        show Steps p.tables e below (T7.setTop (mkF m 22 #[.val (.ref a1), .val (.double ps), .second, .unset, .unset, .unset, .unset] [])) _
        refine XS.aloadN X7.here hx rfl (hb hby d6_22) rfl rfl ?_
        show Steps p.tables e below (T7.setTop (mkF m 23 #[.val (.ref a1), .val (.double ps), .second, .unset, .unset, .unset, .unset] [(.ref a1)])) _
        exact k)
      obtain ⟨T11, X11, e11, st11⟩ := getF X7 hx hZ hown (host := "") (Or.inl (hw _ (List.mem_of_getElem? (i := 29) rfl))) Via.refl e7 G_2 (g := (mkF m 23 #[.val (.ref a1), .val (.double ps), .second, .unset, .unset, .unset, .unset] [(.ref a1)])) rfl rfl (hb hby d6_23)
      have c12 : ∀ t, Steps p.tables e below (T11.setTop (mkF m 26 #[.val (.ref a1), .val (.double ps), .second, .unset, .unset, .unset, .unset] [(.double p3)])) t → Steps p.tables e below (s₁.setTop (entryFrame m #[(.ref a1), (.double ps)] 7)) t := fun t k => c10 t (st11 _ k)
      have c13 : ∀ t, Steps p.tables e below (T11.setTop (mkF m 27 #[.val (.ref a1), .val (.double ps), .second, .unset, .unset, .unset, .unset] [(.ref a1), (.double p3)])) t → Steps p.tables e below (s₁.setTop (entryFrame m #[(.ref a1), (.double ps)] 7)) t := fun t k => c12 t (by
        show Steps p.tables e below (T11.setTop (mkF m 26 #[.val (.ref a1), .val (.double ps), .second, .unset, .unset, .unset, .unset] [(.double p3)])) _
        refine XS.aloadN X11.here hx rfl (hb hby d6_26) rfl rfl ?_
        show Steps p.tables e below (T11.setTop (mkF m 27 #[.val (.ref a1), .val (.double ps), .second, .unset, .unset, .unset, .unset] [(.ref a1), (.double p3)])) _
        exact k)
      obtain ⟨T14, X14, e14, st14⟩ := getF X11 hx hZ hown (host := "") (Or.inl (hw _ (List.mem_of_getElem? (i := 25) rfl))) Via.refl e11 G_0 (g := (mkF m 27 #[.val (.ref a1), .val (.double ps), .second, .unset, .unset, .unset, .unset] [(.ref a1), (.double p3)])) rfl rfl (hb hby d6_27)
      have c15 : ∀ t, Steps p.tables e below (T14.setTop (mkF m 30 #[.val (.ref a1), .val (.double ps), .second, .unset, .unset, .unset, .unset] [(.double p1), (.double p3)])) t → Steps p.tables e below (s₁.setTop (entryFrame m #[(.ref a1), (.double ps)] 7)) t := fun t k => c13 t (st14 _ k)
      obtain ⟨d30, hd30⟩ : ∃ v : UInt64, FP.dsub p3 p1 = v := ⟨_, rfl⟩
      have e30 : DS (c_ - a_) 1 d30 := hd30 ▸ d3.sub d1 (by omega) (by decide)
      have c16 : ∀ t, Steps p.tables e below (T14.setTop (mkF m 34 #[.val (.ref a1), .val (.double ps), .second, .val (.double d30), .second, .unset, .unset] [(.ref a1), (.double ps)])) t → Steps p.tables e below (s₁.setTop (entryFrame m #[(.ref a1), (.double ps)] 7)) t := fun t k => c15 t (by
        show Steps p.tables e below (T14.setTop (mkF m 30 #[.val (.ref a1), .val (.double ps), .second, .unset, .unset, .unset, .unset] [(.double p1), (.double p3)])) _
        refine XS.dsubS X14.here hx rfl (hb hby d6_30) rfl (hd30 ▸ e30.noNaN) hd30 ?_
        show Steps p.tables e below (T14.setTop (mkF m 31 #[.val (.ref a1), .val (.double ps), .second, .unset, .unset, .unset, .unset] [(.double d30)])) _
        refine XS.dstoreN X14.here hx rfl (hb hby d6_31) rfl (l' := #[.val (.ref a1), .val (.double ps), .second, .val (.double d30), .second, .unset, .unset]) rfl ?_
        show Steps p.tables e below (T14.setTop (mkF m 32 #[.val (.ref a1), .val (.double ps), .second, .val (.double d30), .second, .unset, .unset] [])) _
        refine XS.dloadN X14.here hx rfl (hb hby d6_32) rfl ?_
        show Steps p.tables e below (T14.setTop (mkF m 33 #[.val (.ref a1), .val (.double ps), .second, .val (.double d30), .second, .unset, .unset] [(.double ps)])) _
        refine XS.aloadN X14.here hx rfl (hb hby d6_33) rfl rfl ?_
        show Steps p.tables e below (T14.setTop (mkF m 34 #[.val (.ref a1), .val (.double ps), .second, .val (.double d30), .second, .unset, .unset] [(.ref a1), (.double ps)])) _
        exact k)
      obtain ⟨T17, X17, e17, st17⟩ := getF X14 hx hZ hown (host := "") (Or.inl (hw _ (List.mem_of_getElem? (i := 27) rfl))) Via.refl e14 G_1 (g := (mkF m 34 #[.val (.ref a1), .val (.double ps), .second, .val (.double d30), .second, .unset, .unset] [(.ref a1), (.double ps)])) rfl rfl (hb hby d6_34)
      have c18 : ∀ t, Steps p.tables e below (T17.setTop (mkF m 37 #[.val (.ref a1), .val (.double ps), .second, .val (.double d30), .second, .unset, .unset] [(.double p2), (.double ps)])) t → Steps p.tables e below (s₁.setTop (entryFrame m #[(.ref a1), (.double ps)] 7)) t := fun t k => c16 t (st17 _ k)
      obtain ⟨k37, hk37⟩ : ∃ v : Int32, cmpValue (FP.dcmp ps p2) .g = v := ⟨_, rfl⟩
      have c37 := ds.cmp d2 .g
      rw [hk37] at c37
      have kv37 : k37 < 0 ↔ t_ < b_ := by
        rw [c37]; split
        · exact ⟨fun _ => by assumption, fun _ => by decide⟩
        · split
          · exact ⟨fun h => absurd h (by decide), fun h => absurd h (by assumption)⟩
          · exact ⟨fun h => absurd h (by decide), fun h => absurd h (by assumption)⟩
      have c19 : ∀ t, Steps p.tables e below (T17.setTop (mkF m 38 #[.val (.ref a1), .val (.double ps), .second, .val (.double d30), .second, .unset, .unset] [(.int k37)])) t → Steps p.tables e below (s₁.setTop (entryFrame m #[(.ref a1), (.double ps)] 7)) t := fun t k => c18 t (by
        show Steps p.tables e below (T17.setTop (mkF m 37 #[.val (.ref a1), .val (.double ps), .second, .val (.double d30), .second, .unset, .unset] [(.double p2), (.double ps)])) _
        refine XS.dcmpS X17.here hx rfl (hb hby d6_37) rfl hk37 ?_
        show Steps p.tables e below (T17.setTop (mkF m 38 #[.val (.ref a1), .val (.double ps), .second, .val (.double d30), .second, .unset, .unset] [(.int k37)])) _
        exact k)
      by_cases q38 : k37 < 0
      · skip
        have r38 := kv37.mp q38
        obtain ⟨u1, u2, u3, u4⟩ := rise_b r6 r38 hb_
        have c20 : ∀ t, Steps p.tables e below (T17.setTop (mkF m 43 #[.val (.ref a1), .val (.double ps), .second, .val (.double d30), .second, .unset, .unset] [(.ref a1), (.double ps)])) t → Steps p.tables e below (s₁.setTop (entryFrame m #[(.ref a1), (.double ps)] 7)) t := fun t k => c19 t (by
          show Steps p.tables e below (T17.setTop (mkF m 38 #[.val (.ref a1), .val (.double ps), .second, .val (.double d30), .second, .unset, .unset] [(.int k37)])) _
          refine XS.ifNo X17.here hx rfl (hb hby d6_38) rfl (XT.i0_ge_f q38) ?_
          show Steps p.tables e below (T17.setTop (mkF m 41 #[.val (.ref a1), .val (.double ps), .second, .val (.double d30), .second, .unset, .unset] [])) _
          refine XS.dloadN X17.here hx rfl (hb hby d6_41) rfl ?_
          show Steps p.tables e below (T17.setTop (mkF m 42 #[.val (.ref a1), .val (.double ps), .second, .val (.double d30), .second, .unset, .unset] [(.double ps)])) _
          refine XS.aloadN X17.here hx rfl (hb hby d6_42) rfl rfl ?_
          show Steps p.tables e below (T17.setTop (mkF m 43 #[.val (.ref a1), .val (.double ps), .second, .val (.double d30), .second, .unset, .unset] [(.ref a1), (.double ps)])) _
          exact k)
        obtain ⟨T21, X21, e21, st21⟩ := getF X17 hx hZ hown (host := "") (Or.inl (hw _ (List.mem_of_getElem? (i := 25) rfl))) Via.refl e17 G_0 (g := (mkF m 43 #[.val (.ref a1), .val (.double ps), .second, .val (.double d30), .second, .unset, .unset] [(.ref a1), (.double ps)])) rfl rfl (hb hby d6_43)
        have c22 : ∀ t, Steps p.tables e below (T21.setTop (mkF m 46 #[.val (.ref a1), .val (.double ps), .second, .val (.double d30), .second, .unset, .unset] [(.double p1), (.double ps)])) t → Steps p.tables e below (s₁.setTop (entryFrame m #[(.ref a1), (.double ps)] 7)) t := fun t k => c20 t (st21 _ k)
        obtain ⟨d46, hd46⟩ : ∃ v : UInt64, FP.dsub ps p1 = v := ⟨_, rfl⟩
        have e46 : DS (t_ - a_) 1 d46 := hd46 ▸ ds.sub d1 (by omega) (by decide)
        obtain ⟨d54, hd54⟩ : ∃ v : UInt64, FP.dmul d46 d46 = v := ⟨_, rfl⟩
        have e54 : DS ((t_ - a_) * (t_ - a_)) 2 d54 := hd54 ▸ e46.mul e46 (by omega) (by decide)
        have c23 : ∀ t, Steps p.tables e below (T21.setTop (mkF m 57 #[.val (.ref a1), .val (.double ps), .second, .val (.double d30), .second, .val (.double d46), .second] [(.ref a1), (.double d30), (.double d54), (.double FP.dconst1)])) t → Steps p.tables e below (s₁.setTop (entryFrame m #[(.ref a1), (.double ps)] 7)) t := fun t k => c22 t (by
          show Steps p.tables e below (T21.setTop (mkF m 46 #[.val (.ref a1), .val (.double ps), .second, .val (.double d30), .second, .unset, .unset] [(.double p1), (.double ps)])) _
          refine XS.dsubS X21.here hx rfl (hb hby d6_46) rfl (hd46 ▸ e46.noNaN) hd46 ?_
          show Steps p.tables e below (T21.setTop (mkF m 47 #[.val (.ref a1), .val (.double ps), .second, .val (.double d30), .second, .unset, .unset] [(.double d46)])) _
          refine XS.dstore X21.here hx rfl (hb hby d6_47) rfl (l' := #[.val (.ref a1), .val (.double ps), .second, .val (.double d30), .second, .val (.double d46), .second]) rfl ?_
          show Steps p.tables e below (T21.setTop (mkF m 49 #[.val (.ref a1), .val (.double ps), .second, .val (.double d30), .second, .val (.double d46), .second] [])) _
          refine XS.dconst1 X21.here hx rfl (hb hby d6_49) rfl ?_
          show Steps p.tables e below (T21.setTop (mkF m 50 #[.val (.ref a1), .val (.double ps), .second, .val (.double d30), .second, .val (.double d46), .second] [(.double FP.dconst1)])) _
          refine XS.dload X21.here hx rfl (hb hby d6_50) rfl ?_
          show Steps p.tables e below (T21.setTop (mkF m 52 #[.val (.ref a1), .val (.double ps), .second, .val (.double d30), .second, .val (.double d46), .second] [(.double d46), (.double FP.dconst1)])) _
          refine XS.dload X21.here hx rfl (hb hby d6_52) rfl ?_
          show Steps p.tables e below (T21.setTop (mkF m 54 #[.val (.ref a1), .val (.double ps), .second, .val (.double d30), .second, .val (.double d46), .second] [(.double d46), (.double d46), (.double FP.dconst1)])) _
          refine XS.dmulS X21.here hx rfl (hb hby d6_54) rfl (hd54 ▸ e54.noNaN) hd54 ?_
          show Steps p.tables e below (T21.setTop (mkF m 55 #[.val (.ref a1), .val (.double ps), .second, .val (.double d30), .second, .val (.double d46), .second] [(.double d54), (.double FP.dconst1)])) _
          refine XS.dloadN X21.here hx rfl (hb hby d6_55) rfl ?_
          show Steps p.tables e below (T21.setTop (mkF m 56 #[.val (.ref a1), .val (.double ps), .second, .val (.double d30), .second, .val (.double d46), .second] [(.double d30), (.double d54), (.double FP.dconst1)])) _
          refine XS.aloadN X21.here hx rfl (hb hby d6_56) rfl rfl ?_
          show Steps p.tables e below (T21.setTop (mkF m 57 #[.val (.ref a1), .val (.double ps), .second, .val (.double d30), .second, .val (.double d46), .second] [(.ref a1), (.double d30), (.double d54), (.double FP.dconst1)])) _
          exact k)
        obtain ⟨T24, X24, e24, st24⟩ := getF X21 hx hZ hown (host := "") (Or.inl (hw _ (List.mem_of_getElem? (i := 27) rfl))) Via.refl e21 G_1 (g := (mkF m 57 #[.val (.ref a1), .val (.double ps), .second, .val (.double d30), .second, .val (.double d46), .second] [(.ref a1), (.double d30), (.double d54), (.double FP.dconst1)])) rfl rfl (hb hby d6_57)
        have c25 : ∀ t, Steps p.tables e below (T24.setTop (mkF m 60 #[.val (.ref a1), .val (.double ps), .second, .val (.double d30), .second, .val (.double d46), .second] [(.double p2), (.double d30), (.double d54), (.double FP.dconst1)])) t → Steps p.tables e below (s₁.setTop (entryFrame m #[(.ref a1), (.double ps)] 7)) t := fun t k => c23 t (st24 _ k)
        have c26 : ∀ t, Steps p.tables e below (T24.setTop (mkF m 61 #[.val (.ref a1), .val (.double ps), .second, .val (.double d30), .second, .val (.double d46), .second] [(.ref a1), (.double p2), (.double d30), (.double d54), (.double FP.dconst1)])) t → Steps p.tables e below (s₁.setTop (entryFrame m #[(.ref a1), (.double ps)] 7)) t := fun t k => c25 t (by
          show Steps p.tables e below (T24.setTop (mkF m 60 #[.val (.ref a1), .val (.double ps), .second, .val (.double d30), .second, .val (.double d46), .second] [(.double p2), (.double d30), (.double d54), (.double FP.dconst1)])) _
          refine XS.aloadN X24.here hx rfl (hb hby d6_60) rfl rfl ?_
          show Steps p.tables e below (T24.setTop (mkF m 61 #[.val (.ref a1), .val (.double ps), .second, .val (.double d30), .second, .val (.double d46), .second] [(.ref a1), (.double p2), (.double d30), (.double d54), (.double FP.dconst1)])) _
          exact k)
        obtain ⟨T27, X27, e27, st27⟩ := getF X24 hx hZ hown (host := "") (Or.inl (hw _ (List.mem_of_getElem? (i := 25) rfl))) Via.refl e24 G_0 (g := (mkF m 61 #[.val (.ref a1), .val (.double ps), .second, .val (.double d30), .second, .val (.double d46), .second] [(.ref a1), (.double p2), (.double d30), (.double d54), (.double FP.dconst1)])) rfl rfl (hb hby d6_61)
        have c28 : ∀ t, Steps p.tables e below (T27.setTop (mkF m 64 #[.val (.ref a1), .val (.double ps), .second, .val (.double d30), .second, .val (.double d46), .second] [(.double p1), (.double p2), (.double d30), (.double d54), (.double FP.dconst1)])) t → Steps p.tables e below (s₁.setTop (entryFrame m #[(.ref a1), (.double ps)] 7)) t := fun t k => c26 t (st27 _ k)
        obtain ⟨d64, hd64⟩ : ∃ v : UInt64, FP.dsub p2 p1 = v := ⟨_, rfl⟩
        have e64 : DS (b_ - a_) 1 d64 := hd64 ▸ d2.sub d1 (by omega) (by decide)
        obtain ⟨d65, hd65⟩ : ∃ v : UInt64, FP.dmul d30 d64 = v := ⟨_, rfl⟩
        have e65 : DS ((c_ - a_) * (b_ - a_)) 2 d65 := hd65 ▸ e30.mul e64 (by omega) (by decide)
        obtain ⟨d66, hd66⟩ : ∃ v : UInt64, FP.ddiv d54 d65 = v := ⟨_, rfl⟩
        obtain ⟨f66, g66, l66⟩ := quo01 e54 e65 u1 u2 u3
        obtain ⟨d67, hd67⟩ : ∃ v : UInt64, FP.dsub FP.dconst1 d66 = v := ⟨_, rfl⟩
        have n67 := (sub01 f66 g66 l66).1
        rw [hd66] at n67
        have c29 : ∀ t, Steps p.tables e below (T27.setTop (mkF m 68 #[.val (.ref a1), .val (.double ps), .second, .val (.double d30), .second, .val (.double d46), .second] [(.double d67)])) t → Steps p.tables e below (s₁.setTop (entryFrame m #[(.ref a1), (.double ps)] 7)) t := fun t k => c28 t (by
          show Steps p.tables e below (T27.setTop (mkF m 64 #[.val (.ref a1), .val (.double ps), .second, .val (.double d30), .second, .val (.double d46), .second] [(.double p1), (.double p2), (.double d30), (.double d54), (.double FP.dconst1)])) _
          refine XS.dsubS X27.here hx rfl (hb hby d6_64) rfl (hd64 ▸ e64.noNaN) hd64 ?_
          show Steps p.tables e below (T27.setTop (mkF m 65 #[.val (.ref a1), .val (.double ps), .second, .val (.double d30), .second, .val (.double d46), .second] [(.double d64), (.double d30), (.double d54), (.double FP.dconst1)])) _
          refine XS.dmulS X27.here hx rfl (hb hby d6_65) rfl (hd65 ▸ e65.noNaN) hd65 ?_
          show Steps p.tables e below (T27.setTop (mkF m 66 #[.val (.ref a1), .val (.double ps), .second, .val (.double d30), .second, .val (.double d46), .second] [(.double d65), (.double d54), (.double FP.dconst1)])) _
          refine XS.ddivS X27.here hx rfl (hb hby d6_66) rfl (noNaN_of (notNan f66)) hd66 ?_
          show Steps p.tables e below (T27.setTop (mkF m 67 #[.val (.ref a1), .val (.double ps), .second, .val (.double d30), .second, .val (.double d46), .second] [(.double d66), (.double FP.dconst1)])) _
          refine XS.dsubS X27.here hx rfl (hb hby d6_67) rfl (noNaN_of (notNan n67)) hd67 ?_
          show Steps p.tables e below (T27.setTop (mkF m 68 #[.val (.ref a1), .val (.double ps), .second, .val (.double d30), .second, .val (.double d46), .second] [(.double d67)])) _
          exact k)
        obtain ⟨fs, hr, hrun, hended, hW, hsame⟩ := X27.leave (v := (some (.double d67))) (fun h => by rw [Bd.returns] at h; cases h)
        refine ⟨_, _, pre0 _ (c29 _ (retOut X27 hx (t := .double) (i := .dreturn) Bd.returns rfl (Or.inr (Or.inr (Or.inl ⟨rfl, rfl, _, rfl⟩))) (hb hby d6_68) hr)), hrun, hended, _, _, rfl, ?_, ⟨_, rfl⟩, hW, hsame.mono (by decide) (by decide)⟩
        show Q_6 Z a1 ps p1 p2 p3 a_ b_ c_ t_ h0 n0 _ T27.heap _
        rw [e27]
        exact ⟨⟨_, rfl, Or.inr (Or.inr (Or.inl ⟨r6, r17, r38, d54, d65, e54, e65, by rw [hd66, hd67]⟩))⟩, N0, rfl⟩
      · skip
        have r38 : ¬ t_ < b_ := fun q => q38 (kv37.mpr q)
        obtain ⟨u1, u2, u3⟩ := fall_b r17 r38 hb_
        have c30 : ∀ t, Steps p.tables e below (T17.setTop (mkF m 70 #[.val (.ref a1), .val (.double ps), .second, .val (.double d30), .second, .unset, .unset] [(.ref a1)])) t → Steps p.tables e below (s₁.setTop (entryFrame m #[(.ref a1), (.double ps)] 7)) t := fun t k => c19 t (by
          show Steps p.tables e below (T17.setTop (mkF m 38 #[.val (.ref a1), .val (.double ps), .second, .val (.double d30), .second, .unset, .unset] [(.int k37)])) _
          refine XS.ifYes X17.here hx rfl (pc0 := 38) (pc' := 69) rfl (hb hby d6_38) rfl (XT.i0_ge_t q38) (by decide) (by decide) ?_
          show Steps p.tables e below (T17.setTop (mkF m 69 #[.val (.ref a1), .val (.double ps), .second, .val (.double d30), .second, .unset, .unset] [])) _
          refine XS.aloadN X17.here hx rfl (hb hby d6_69) rfl rfl ?_
          show Steps p.tables e below (T17.setTop (mkF m 70 #[.val (.ref a1), .val (.double ps), .second, .val (.double d30), .second, .unset, .unset] [(.ref a1)])) _
          exact k)
        obtain ⟨T31, X31, e31, st31⟩ := getF X17 hx hZ hown (host := "") (Or.inl (hw _ (List.mem_of_getElem? (i := 29) rfl))) Via.refl e17 G_2 (g := (mkF m 70 #[.val (.ref a1), .val (.double ps), .second, .val (.double d30), .second, .unset, .unset] [(.ref a1)])) rfl rfl (hb hby d6_70)
        have c32 : ∀ t, Steps p.tables e below (T31.setTop (mkF m 73 #[.val (.ref a1), .val (.double ps), .second, .val (.double d30), .second, .unset, .unset] [(.double p3)])) t → Steps p.tables e below (s₁.setTop (entryFrame m #[(.ref a1), (.double ps)] 7)) t := fun t k => c30 t (st31 _ k)
        obtain ⟨d74, hd74⟩ : ∃ v : UInt64, FP.dsub p3 ps = v := ⟨_, rfl⟩
        have e74 : DS (c_ - t_) 1 d74 := hd74 ▸ d3.sub ds (by omega) (by decide)
        obtain ⟨d81, hd81⟩ : ∃ v : UInt64, FP.dmul d74 d74 = v := ⟨_, rfl⟩
        have e81 : DS ((c_ - t_) * (c_ - t_)) 2 d81 := hd81 ▸ e74.mul e74 (by omega) (by decide)
        have c33 : ∀ t, Steps p.tables e below (T31.setTop (mkF m 84 #[.val (.ref a1), .val (.double ps), .second, .val (.double d30), .second, .val (.double d74), .second] [(.ref a1), (.double d30), (.double d81)])) t → Steps p.tables e below (s₁.setTop (entryFrame m #[(.ref a1), (.double ps)] 7)) t := fun t k => c32 t (by
          show Steps p.tables e below (T31.setTop (mkF m 73 #[.val (.ref a1), .val (.double ps), .second, .val (.double d30), .second, .unset, .unset] [(.double p3)])) _
          refine XS.dloadN X31.here hx rfl (hb hby d6_73) rfl ?_
          show Steps p.tables e below (T31.setTop (mkF m 74 #[.val (.ref a1), .val (.double ps), .second, .val (.double d30), .second, .unset, .unset] [(.double ps), (.double p3)])) _
          refine XS.dsubS X31.here hx rfl (hb hby d6_74) rfl (hd74 ▸ e74.noNaN) hd74 ?_
          show Steps p.tables e below (T31.setTop (mkF m 75 #[.val (.ref a1), .val (.double ps), .second, .val (.double d30), .second, .unset, .unset] [(.double d74)])) _
          refine XS.dstore X31.here hx rfl (hb hby d6_75) rfl (l' := #[.val (.ref a1), .val (.double ps), .second, .val (.double d30), .second, .val (.double d74), .second]) rfl ?_
          show Steps p.tables e below (T31.setTop (mkF m 77 #[.val (.ref a1), .val (.double ps), .second, .val (.double d30), .second, .val (.double d74), .second] [])) _
          refine XS.dload X31.here hx rfl (hb hby d6_77) rfl ?_
          show Steps p.tables e below (T31.setTop (mkF m 79 #[.val (.ref a1), .val (.double ps), .second, .val (.double d30), .second, .val (.double d74), .second] [(.double d74)])) _
          refine XS.dload X31.here hx rfl (hb hby d6_79) rfl ?_
          show Steps p.tables e below (T31.setTop (mkF m 81 #[.val (.ref a1), .val (.double ps), .second, .val (.double d30), .second, .val (.double d74), .second] [(.double d74), (.double d74)])) _
          refine XS.dmulS X31.here hx rfl (hb hby d6_81) rfl (hd81 ▸ e81.noNaN) hd81 ?_
          show Steps p.tables e below (T31.setTop (mkF m 82 #[.val (.ref a1), .val (.double ps), .second, .val (.double d30), .second, .val (.double d74), .second] [(.double d81)])) _
          refine XS.dloadN X31.here hx rfl (hb hby d6_82) rfl ?_
          show Steps p.tables e below (T31.setTop (mkF m 83 #[.val (.ref a1), .val (.double ps), .second, .val (.double d30), .second, .val (.double d74), .second] [(.double d30), (.double d81)])) _
          refine XS.aloadN X31.here hx rfl (hb hby d6_83) rfl rfl ?_
          show Steps p.tables e below (T31.setTop (mkF m 84 #[.val (.ref a1), .val (.double ps), .second, .val (.double d30), .second, .val (.double d74), .second] [(.ref a1), (.double d30), (.double d81)])) _
          exact k)
        obtain ⟨T34, X34, e34, st34⟩ := getF X31 hx hZ hown (host := "") (Or.inl (hw _ (List.mem_of_getElem? (i := 29) rfl))) Via.refl e31 G_2 (g := (mkF m 84 #[.val (.ref a1), .val (.double ps), .second, .val (.double d30), .second, .val (.double d74), .second] [(.ref a1), (.double d30), (.double d81)])) rfl rfl (hb hby d6_84)
        have c35 : ∀ t, Steps p.tables e below (T34.setTop (mkF m 87 #[.val (.ref a1), .val (.double ps), .second, .val (.double d30), .second, .val (.double d74), .second] [(.double p3), (.double d30), (.double d81)])) t → Steps p.tables e below (s₁.setTop (entryFrame m #[(.ref a1), (.double ps)] 7)) t := fun t k => c33 t (st34 _ k)
        have c36 : ∀ t, Steps p.tables e below (T34.setTop (mkF m 88 #[.val (.ref a1), .val (.double ps), .second, .val (.double d30), .second, .val (.double d74), .second] [(.ref a1), (.double p3), (.double d30), (.double d81)])) t → Steps p.tables e below (s₁.setTop (entryFrame m #[(.ref a1), (.double ps)] 7)) t := fun t k => c35 t (by
          show Steps p.tables e below (T34.setTop (mkF m 87 #[.val (.ref a1), .val (.double ps), .second, .val (.double d30), .second, .val (.double d74), .second] [(.double p3), (.double d30), (.double d81)])) _
          refine XS.aloadN X34.here hx rfl (hb hby d6_87) rfl rfl ?_
          show Steps p.tables e below (T34.setTop (mkF m 88 #[.val (.ref a1), .val (.double ps), .second, .val (.double d30), .second, .val (.double d74), .second] [(.ref a1), (.double p3), (.double d30), (.double d81)])) _
          exact k)
        obtain ⟨T37, X37, e37, st37⟩ := getF X34 hx hZ hown (host := "") (Or.inl (hw _ (List.mem_of_getElem? (i := 27) rfl))) Via.refl e34 G_1 (g := (mkF m 88 #[.val (.ref a1), .val (.double ps), .second, .val (.double d30), .second, .val (.double d74), .second] [(.ref a1), (.double p3), (.double d30), (.double d81)])) rfl rfl (hb hby d6_88)
        have c38 : ∀ t, Steps p.tables e below (T37.setTop (mkF m 91 #[.val (.ref a1), .val (.double ps), .second, .val (.double d30), .second, .val (.double d74), .second] [(.double p2), (.double p3), (.double d30), (.double d81)])) t → Steps p.tables e below (s₁.setTop (entryFrame m #[(.ref a1), (.double ps)] 7)) t := fun t k => c36 t (st37 _ k)
        obtain ⟨d91, hd91⟩ : ∃ v : UInt64, FP.dsub p3 p2 = v := ⟨_, rfl⟩
        have e91 : DS (c_ - b_) 1 d91 := hd91 ▸ d3.sub d2 (by omega) (by decide)
        obtain ⟨d92, hd92⟩ : ∃ v : UInt64, FP.dmul d30 d91 = v := ⟨_, rfl⟩
        have e92 : DS ((c_ - a_) * (c_ - b_)) 2 d92 := hd92 ▸ e30.mul e91 (by omega) (by decide)
        obtain ⟨d93, hd93⟩ : ∃ v : UInt64, FP.ddiv d81 d92 = v := ⟨_, rfl⟩
        have n93 := (quo01 e81 e92 (by omega) u2 (by omega)).1
        have c39 : ∀ t, Steps p.tables e below (T37.setTop (mkF m 94 #[.val (.ref a1), .val (.double ps), .second, .val (.double d30), .second, .val (.double d74), .second] [(.double d93)])) t → Steps p.tables e below (s₁.setTop (entryFrame m #[(.ref a1), (.double ps)] 7)) t := fun t k => c38 t (by
          show Steps p.tables e below (T37.setTop (mkF m 91 #[.val (.ref a1), .val (.double ps), .second, .val (.double d30), .second, .val (.double d74), .second] [(.double p2), (.double p3), (.double d30), (.double d81)])) _
          refine XS.dsubS X37.here hx rfl (hb hby d6_91) rfl (hd91 ▸ e91.noNaN) hd91 ?_
          show Steps p.tables e below (T37.setTop (mkF m 92 #[.val (.ref a1), .val (.double ps), .second, .val (.double d30), .second, .val (.double d74), .second] [(.double d91), (.double d30), (.double d81)])) _
          refine XS.dmulS X37.here hx rfl (hb hby d6_92) rfl (hd92 ▸ e92.noNaN) hd92 ?_
          show Steps p.tables e below (T37.setTop (mkF m 93 #[.val (.ref a1), .val (.double ps), .second, .val (.double d30), .second, .val (.double d74), .second] [(.double d92), (.double d81)])) _
          refine XS.ddivS X37.here hx rfl (hb hby d6_93) rfl (noNaN_of (notNan n93)) hd93 ?_
          show Steps p.tables e below (T37.setTop (mkF m 94 #[.val (.ref a1), .val (.double ps), .second, .val (.double d30), .second, .val (.double d74), .second] [(.double d93)])) _
          exact k)
        obtain ⟨fs, hr, hrun, hended, hW, hsame⟩ := X37.leave (v := (some (.double d93))) (fun h => by rw [Bd.returns] at h; cases h)
        refine ⟨_, _, pre0 _ (c39 _ (retOut X37 hx (t := .double) (i := .dreturn) Bd.returns rfl (Or.inr (Or.inr (Or.inl ⟨rfl, rfl, _, rfl⟩))) (hb hby d6_94) hr)), hrun, hended, _, _, rfl, ?_, ⟨_, rfl⟩, hW, hsame.mono (by decide) (by decide)⟩
        show Q_6 Z a1 ps p1 p2 p3 a_ b_ c_ t_ h0 n0 _ T37.heap _
        rw [e37]
        exact ⟨⟨_, rfl, Or.inr (Or.inr (Or.inr ⟨r6, r17, r38, d81, d92, e81, e92, by rw [hd93]⟩))⟩, N0, rfl⟩
    · skip
      have r17 : ¬ t_ < c_ := fun q => q17 (kv16.mpr q)
      have c40 : ∀ t, Steps p.tables e below (T7.setTop (mkF m 21 #[.val (.ref a1), .val (.double ps), .second, .unset, .unset, .unset, .unset] [(.double FP.dconst0)])) t → Steps p.tables e below (s₁.setTop (entryFrame m #[(.ref a1), (.double ps)] 7)) t := fun t k => c9 t (by
        show Steps p.tables e below (T7.setTop (mkF m 17 #[.val (.ref a1), .val (.double ps), .second, .unset, .unset, .unset, .unset] [(.int k16)])) _
        refine XS.ifNo X7.here hx rfl (hb hby d6_17) rfl (XT.i0_lt_f q17) ?_
        show Steps p.tables e below (T7.setTop (mkF m 20 #[.val (.ref a1), .val (.double ps), .second, .unset, .unset, .unset, .unset] [])) _
        refine XS.dconst0 X7.here hx rfl (hb hby d6_20) rfl ?_
        show Steps p.tables e below (T7.setTop (mkF m 21 #[.val (.ref a1), .val (.double ps), .second, .unset, .unset, .unset, .unset] [(.double FP.dconst0)])) _
        exact k)
      obtain ⟨fs, hr, hrun, hended, hW, hsame⟩ := X7.leave (v := (some (.double FP.dconst0))) (fun h => by rw [Bd.returns] at h; cases h)
      refine ⟨_, _, pre0 _ (c40 _ (retOut X7 hx (t := .double) (i := .dreturn) Bd.returns rfl (Or.inr (Or.inr (Or.inl ⟨rfl, rfl, _, rfl⟩))) (hb hby d6_21) hr)), hrun, hended, _, _, rfl, ?_, ⟨_, rfl⟩, hW, hsame.mono (by decide) (by decide)⟩
      show Q_6 Z a1 ps p1 p2 p3 a_ b_ c_ t_ h0 n0 _ T7.heap _
      rw [e7]
      exact ⟨⟨_, rfl, Or.inr (Or.inl ⟨r6, r17, rfl⟩)⟩, N0, rfl⟩
theorem two_c : DS 2 0 (4611686018427387904 : UInt64) := ⟨by rw [Core.fin_bits]; decide, by decide +kernel⟩
theorem half_k {x : Int64} {d : UInt64} (h : x.toInt.natAbs ≤ 2 ^ 53) (hd : FP.ddiv (FP.l2d x) (4611686018427387904 : UInt64) = d) : DS x.toInt 1 d :=
  hd ▸ (DS.l2d h).div two_c (by decide) (by simp) h (by decide)
theorem m10 (x : Int32) : 0 ≤ (x &&& (1023 : Int32)).toInt64.toInt ∧ (x &&& (1023 : Int32)).toInt64.toInt < 2 ^ 10 := by
  have h1 := Kit.i32_mask x 1023 (k := 10) (by decide) (by decide)
  rw [Kit.i64_of_i32]; omega
theorem dbl {x : Int64} (h : 0 ≤ x.toInt ∧ x.toInt < 2 ^ 10) : ((2 : Int64) * x).toInt = 2 * x.toInt := by
  have e : (2 : Int64).toInt = 2 := by decide
  rw [Kit.i64_mul (by rw [e]; omega) (by rw [e]; omega), e]
theorem t_k {P : Prop} [Decidable P] {x : Int32} {t : Int64} (h : t = (if P then (x % (8192 : Int32)).toInt64 else x.toInt64)) : -2 ^ 31 ≤ t.toInt ∧ t.toInt < 2 ^ 31 := by
  have a1 := Int32.le_toInt x; have a2 := Int32.toInt_lt x
  have b1 := Int32.le_toInt (x % 8192); have b2 := Int32.toInt_lt (x % 8192)
  rw [h]; split <;> rw [Kit.i64_of_i32] <;> omega
theorem tol : Core.DFin (4427486594234968593 : UInt64) ∧ Ge (4427486594234968593 : UInt64) 1 40 := ⟨by rw [Core.fin_bits]; decide, by unfold Ge; decide +kernel⟩
/-- two roundings of one number, 1 - n / d, lie close together -/
theorem close_k {x y m y' : UInt64} {n d : Int} (hx : DS n 2 x) (hy : DS d 2 y) (hm : DS (d - n) 0 m) (hy' : DS d 0 y') (h0 : 0 ≤ n) (h1 : n ≤ d) (hd : 0 < d) :
    Core.DFin (FP.ddiv m y') ∧ Core.DFin (FP.dsub (FP.dsub FP.dconst1 (FP.ddiv x y)) (FP.ddiv m y')) ∧ Le (FP.dsub (FP.dsub FP.dconst1 (FP.ddiv x y)) (FP.ddiv m y')) 1 45 ∧ Ge (FP.dsub (FP.dsub FP.dconst1 (FP.ddiv x y)) (FP.ddiv m y')) (-1) 45 := by
  obtain ⟨fq, gq, lq⟩ := quo01 hx hy h0 h1 hd
  obtain ⟨fr, gr, lr⟩ := sub01 fq gq lq
  obtain ⟨fm, gm, lm⟩ := quo01 hm hy' (by omega) (by omega) hd
  obtain ⟨e, he⟩ : ∃ e, e = n * 2 ^ 45 / d := ⟨_, rfl⟩
  have b1 : e * d ≤ n * 2 ^ 45 := by rw [he]; exact Int.ediv_mul_le _ (by omega)
  have b2 : n * 2 ^ 45 < (e + 1) * d := by rw [he]; exact Int.lt_ediv_add_one_mul_self _ hd
  have b3 : 0 ≤ e := by rw [he]; exact Int.ediv_nonneg (by omega) (by omega)
  have b4 : e ≤ 2 ^ 45 := by
    have : e * d ≤ 2 ^ 45 * d := by
      have := Int.mul_le_mul_of_nonneg_right h1 (show (0 : Int) ≤ 2 ^ 45 by decide)
      rw [Int.mul_comm (2 ^ 45) d]; omega
    exact le_cancel hd this
  have q1 : Ge (FP.ddiv x y) e 45 := div_Ge hx hy hd (by
    rw [show n * 2 ^ 2 * 2 ^ 45 = (n * 2 ^ 45) * 2 ^ 2 by ac_rfl]; exact Int.mul_le_mul_of_nonneg_right b1 (by decide)) (by omega) (by decide)
  have q2 : Le (FP.ddiv x y) (e + 1) 45 := div_Le hx hy hd (by
    rw [show n * 2 ^ 2 * 2 ^ 45 = (n * 2 ^ 45) * 2 ^ 2 by ac_rfl]; exact Int.mul_le_mul_of_nonneg_right (Int.le_of_lt b2) (by decide)) (by omega) (by decide)
  have o : DS (2 ^ 45) 45 FP.dconst1 := by have := DS.one.up 45; rwa [Int.one_mul, Nat.zero_add] at this
  have r1 : Ge (FP.dsub FP.dconst1 (FP.ddiv x y)) (2 ^ 45 - (e + 1)) 45 := sub_Ge DS.one.1 fq o.ge q2 (Int.le_refl _) (by omega) (by decide)
  have r2 : Le (FP.dsub FP.dconst1 (FP.ddiv x y)) (2 ^ 45 - e) 45 := sub_Le DS.one.1 fq o.le q1 (Int.le_refl _) (by omega) (by decide)
  have m1 : Ge (FP.ddiv m y') (2 ^ 45 - (e + 1)) 45 := div_Ge hm hy' hd (by
    rw [Int.pow_zero, Int.mul_one, Int.mul_one, Int.sub_mul, Int.sub_mul]; rw [Int.mul_comm (2 ^ 45) d]; omega) (by omega) (by decide)
  have m2 : Le (FP.ddiv m y') (2 ^ 45 - e) 45 := div_Le hm hy' hd (by
    rw [Int.pow_zero, Int.mul_one, Int.mul_one, Int.sub_mul, Int.sub_mul]; rw [Int.mul_comm (2 ^ 45) d]; omega) (by omega) (by decide)
  have s1 : Le (FP.dsub (FP.dsub FP.dconst1 (FP.ddiv x y)) (FP.ddiv m y')) 1 45 := sub_Le fr fm r2 m1 (by omega) (by decide) (by decide)
  have s2 : Ge (FP.dsub (FP.dsub FP.dconst1 (FP.ddiv x y)) (FP.ddiv m y')) (-1) 45 := sub_Ge fr fm r1 m2 (by omega) (by decide) (by decide)
  exact ⟨fm, fin_of (dsub_nn fr fm) s2 s1 (by decide) (by decide) (by decide) (by decide), s1, s2⟩
theorem tol_k {d : UInt64} (f : Core.DFin d) (h : Le d 1 45) (o : CmpOp) : ¬ 0 < cmpValue (FP.dcmp d (4427486594234968593 : UInt64)) o := by
  have t2 : Ge (4427486594234968593 : UInt64) (1 * 2 ^ 5) (40 + 5) := tol.2.up 5
  rw [cmp_lt (notNan f) (notNan tol.1) (lt_of h t2 (by decide))]; decide
theorem lt64 {a b : Int64} : a < b ↔ a.toInt < b.toInt := Int64.lt_iff_toInt_lt
theorem ef_0 (m : MethodId) (q0 : Int32) (q1 : Int32) (q2 : Int32) (q3 : Int32) (q4 : Int32) : entryFrame m #[(.int q0), (.int q1), (.int q2), (.int q3), (.int q4)] maxLocals = (mkF m 0 #[.val (.int q0), .val (.int q1), .val (.int q2), .val (.int q3), .val (.int q4), .unset, .unset, .unset, .unset, .unset, .unset, .unset, .unset, .unset, .unset, .unset, .unset, .unset, .unset, .unset, .unset, .unset, .unset, .unset, .unset, .unset] []) := by first | (simp [entryFrame, mkF, argsToLocals, Value.category, maxLocals]; done) | rfl
def Q_0 (Z : State) (q0 : Int32) (q1 : Int32) (q2 : Int32) (q3 : Int32) (q4 : Int32) (h0 : Heap) (n0 : Nat) (v : Option Value) (h : Heap) (L : List Loc) : Prop := v = some (.int 1) ∧ Fr n0 L
set_option maxRecDepth 65536 in
set_option maxHeartbeats 2000000 in
theorem rm_0 (l : Launch) (Z : State) (a0 : Array Value) (hw : ∀ d ∈ tables_1, d.before a0 Z = true) (ws : List Jvm.Cond) (q0 : Int32) (q1 : Int32) (q2 : Int32) (q3 : Int32) (q4 : Int32) (h0 : Heap) (n0 : Nat) (Z0 : n0 ≤ h0.size)  :
    MetFree l x (head1 (Jvm.Cond.code x code maxLocals ret :: ws) room_1) (fun aa UU => aa = #[(.int q0), (.int q1), (.int q2), (.int q3), (.int q4)] ∧ Z.Warmed39 UU.vm ∧ UU.heap = h0) (fun _ _ _ _ _ => True) (fun _ UU oo UU' => ∃ v L, oo = .returned v ∧ Q_0 Z q0 q1 q2 q3 q4 h0 n0 v UU'.heap L ∧ FrameEnd UU oo UU' L 16 128) := by
  refine MetFree.of_bodySF (plainFor_of_name pn_com_example_foglane_foglane_uncertainty_TriangularExceedsPinLaw) hisR ?_
  intro p e s m args below meth c s₁ Bd hml0 hP hK
  obtain ⟨rfl, hZ, hh⟩ := hP
  have hx := Bd.exec
  have hby := Bd.bytes
  have hml : c.maxLocals = 26 := hml0
  have hown : s.vm.findClass "com/example/foglane/foglane/uncertainty/TriangularExceedsPinLaw" = some m.cls := findClass_of_methodNamed Bd.named
  have hnaM := (name_of_methodNamed Bd.named Bd.method).1
  have X0 : Stand p l e room_1 s m #[(.int q0), (.int q1), (.int q2), (.int q3), (.int q4)] below meth c s₁ [] 0 0 := Stand.of_body Bd
  have e0 : s₁.heap = h0 := by rw [← hh, Bd.state]; rfl
  have N0 := Fr.nil n0
  have pre0 : ∀ t, Steps p.tables e below (s₁.setTop (entryFrame m #[(.int q0), (.int q1), (.int q2), (.int q3), (.int q4)] maxLocals)) t → Steps p.tables e below (s₁.setTop (entryFrame m #[(.int q0), (.int q1), (.int q2), (.int q3), (.int q4)] maxLocals)) t := fun t k => k
  have c0 : ∀ t, Steps p.tables e below (s₁.setTop (mkF m 0 #[.val (.int q0), .val (.int q1), .val (.int q2), .val (.int q3), .val (.int q4), .unset, .unset, .unset, .unset, .unset, .unset, .unset, .unset, .unset, .unset, .unset, .unset, .unset, .unset, .unset, .unset, .unset, .unset, .unset, .unset, .unset] [])) t → Steps p.tables e below (s₁.setTop (entryFrame m #[(.int q0), (.int q1), (.int q2), (.int q3), (.int q4)] maxLocals)) t := fun t k => castTop (ef_0 m q0 q1 q2 q3 q4) k
  obtain ⟨aa, haa⟩ : ∃ v : Int64, v = ((2 : Int64) * ((q0 &&& (1023 : Int32)).toInt64)) := ⟨_, rfl⟩
  have c1 : ∀ t, Steps p.tables e below (s₁.setTop (mkF m 12 #[.val (.int q0), .val (.int q1), .val (.int q2), .val (.int q3), .val (.int q4), .val (.long aa), .second, .unset, .unset, .unset, .unset, .unset, .unset, .unset, .unset, .unset, .unset, .unset, .unset, .unset, .unset, .unset, .unset, .unset, .unset, .unset] [])) t → Steps p.tables e below (s₁.setTop (entryFrame m #[(.int q0), (.int q1), (.int q2), (.int q3), (.int q4)] maxLocals)) t := fun t k => c0 t (by
    rw [haa] at k
    show Steps p.tables e below (s₁.setTop (mkF m 0 #[.val (.int q0), .val (.int q1), .val (.int q2), .val (.int q3), .val (.int q4), .unset, .unset, .unset, .unset, .unset, .unset, .unset, .unset, .unset, .unset, .unset, .unset, .unset, .unset, .unset, .unset, .unset, .unset, .unset, .unset, .unset] [])) _
    refine Jvm.Stand.ldc2J X0 hx hown (mvT hZ (hw _ (List.mem_of_getElem? (i := 0) rfl))) rfl (hb hby at_0) ?_
    show Steps p.tables e below (s₁.setTop (mkF m 3 #[.val (.int q0), .val (.int q1), .val (.int q2), .val (.int q3), .val (.int q4), .unset, .unset, .unset, .unset, .unset, .unset, .unset, .unset, .unset, .unset, .unset, .unset, .unset, .unset, .unset, .unset, .unset, .unset, .unset, .unset, .unset] [(.long (2 : Int64))])) _
    refine XS.iloadN X0.here hx rfl (hb hby at_3) rfl ?_
    show Steps p.tables e below (s₁.setTop (mkF m 4 #[.val (.int q0), .val (.int q1), .val (.int q2), .val (.int q3), .val (.int q4), .unset, .unset, .unset, .unset, .unset, .unset, .unset, .unset, .unset, .unset, .unset, .unset, .unset, .unset, .unset, .unset, .unset, .unset, .unset, .unset, .unset] [(.int q0), (.long (2 : Int64))])) _
    refine XS.sipush X0.here hx rfl (hb hby at_4) ?_
    show Steps p.tables e below (s₁.setTop (mkF m 7 #[.val (.int q0), .val (.int q1), .val (.int q2), .val (.int q3), .val (.int q4), .unset, .unset, .unset, .unset, .unset, .unset, .unset, .unset, .unset, .unset, .unset, .unset, .unset, .unset, .unset, .unset, .unset, .unset, .unset, .unset, .unset] [(.int (1023 : Int32)), (.int q0), (.long (2 : Int64))])) _
    refine XS.iand X0.here hx rfl (hb hby at_7) rfl ?_
    show Steps p.tables e below (s₁.setTop (mkF m 8 #[.val (.int q0), .val (.int q1), .val (.int q2), .val (.int q3), .val (.int q4), .unset, .unset, .unset, .unset, .unset, .unset, .unset, .unset, .unset, .unset, .unset, .unset, .unset, .unset, .unset, .unset, .unset, .unset, .unset, .unset, .unset] [(.int (q0 &&& (1023 : Int32))), (.long (2 : Int64))])) _
    refine XT.i2l X0.here hx rfl (hb hby at_8) rfl ?_
    show Steps p.tables e below (s₁.setTop (mkF m 9 #[.val (.int q0), .val (.int q1), .val (.int q2), .val (.int q3), .val (.int q4), .unset, .unset, .unset, .unset, .unset, .unset, .unset, .unset, .unset, .unset, .unset, .unset, .unset, .unset, .unset, .unset, .unset, .unset, .unset, .unset, .unset] [(.long ((q0 &&& (1023 : Int32)).toInt64)), (.long (2 : Int64))])) _
    refine XT.lmul X0.here hx rfl (hb hby at_9) rfl ?_
    show Steps p.tables e below (s₁.setTop (mkF m 10 #[.val (.int q0), .val (.int q1), .val (.int q2), .val (.int q3), .val (.int q4), .unset, .unset, .unset, .unset, .unset, .unset, .unset, .unset, .unset, .unset, .unset, .unset, .unset, .unset, .unset, .unset, .unset, .unset, .unset, .unset, .unset] [(.long ((2 : Int64) * ((q0 &&& (1023 : Int32)).toInt64)))])) _
    refine XT.lstore X0.here hx rfl (hb hby at_10) rfl (l' := #[.val (.int q0), .val (.int q1), .val (.int q2), .val (.int q3), .val (.int q4), .val (.long ((2 : Int64) * ((q0 &&& (1023 : Int32)).toInt64))), .second, .unset, .unset, .unset, .unset, .unset, .unset, .unset, .unset, .unset, .unset, .unset, .unset, .unset, .unset, .unset, .unset, .unset, .unset, .unset]) rfl ?_
    show Steps p.tables e below (s₁.setTop (mkF m 12 #[.val (.int q0), .val (.int q1), .val (.int q2), .val (.int q3), .val (.int q4), .val (.long ((2 : Int64) * ((q0 &&& (1023 : Int32)).toInt64))), .second, .unset, .unset, .unset, .unset, .unset, .unset, .unset, .unset, .unset, .unset, .unset, .unset, .unset, .unset, .unset, .unset, .unset, .unset, .unset] [])) _
    exact k)
  obtain ⟨bb, hbb⟩ : ∃ v : Int64, v = (aa + ((2 : Int64) * ((q1 &&& (1023 : Int32)).toInt64))) := ⟨_, rfl⟩
  have c2 : ∀ t, Steps p.tables e below (s₁.setTop (mkF m 27 #[.val (.int q0), .val (.int q1), .val (.int q2), .val (.int q3), .val (.int q4), .val (.long aa), .second, .val (.long bb), .second, .unset, .unset, .unset, .unset, .unset, .unset, .unset, .unset, .unset, .unset, .unset, .unset, .unset, .unset, .unset, .unset, .unset] [])) t → Steps p.tables e below (s₁.setTop (entryFrame m #[(.int q0), (.int q1), (.int q2), (.int q3), (.int q4)] maxLocals)) t := fun t k => c1 t (by
    rw [hbb] at k
    show Steps p.tables e below (s₁.setTop (mkF m 12 #[.val (.int q0), .val (.int q1), .val (.int q2), .val (.int q3), .val (.int q4), .val (.long aa), .second, .unset, .unset, .unset, .unset, .unset, .unset, .unset, .unset, .unset, .unset, .unset, .unset, .unset, .unset, .unset, .unset, .unset, .unset, .unset] [])) _
    refine XT.lload X0.here hx rfl (hb hby at_12) rfl ?_
    show Steps p.tables e below (s₁.setTop (mkF m 14 #[.val (.int q0), .val (.int q1), .val (.int q2), .val (.int q3), .val (.int q4), .val (.long aa), .second, .unset, .unset, .unset, .unset, .unset, .unset, .unset, .unset, .unset, .unset, .unset, .unset, .unset, .unset, .unset, .unset, .unset, .unset, .unset] [(.long aa)])) _
    refine Jvm.Stand.ldc2J X0 hx hown (mvT hZ (hw _ (List.mem_of_getElem? (i := 0) rfl))) rfl (hb hby at_14) ?_
    show Steps p.tables e below (s₁.setTop (mkF m 17 #[.val (.int q0), .val (.int q1), .val (.int q2), .val (.int q3), .val (.int q4), .val (.long aa), .second, .unset, .unset, .unset, .unset, .unset, .unset, .unset, .unset, .unset, .unset, .unset, .unset, .unset, .unset, .unset, .unset, .unset, .unset, .unset] [(.long (2 : Int64)), (.long aa)])) _
    refine XS.iloadN X0.here hx rfl (hb hby at_17) rfl ?_
    show Steps p.tables e below (s₁.setTop (mkF m 18 #[.val (.int q0), .val (.int q1), .val (.int q2), .val (.int q3), .val (.int q4), .val (.long aa), .second, .unset, .unset, .unset, .unset, .unset, .unset, .unset, .unset, .unset, .unset, .unset, .unset, .unset, .unset, .unset, .unset, .unset, .unset, .unset] [(.int q1), (.long (2 : Int64)), (.long aa)])) _
    refine XS.sipush X0.here hx rfl (hb hby at_18) ?_
    show Steps p.tables e below (s₁.setTop (mkF m 21 #[.val (.int q0), .val (.int q1), .val (.int q2), .val (.int q3), .val (.int q4), .val (.long aa), .second, .unset, .unset, .unset, .unset, .unset, .unset, .unset, .unset, .unset, .unset, .unset, .unset, .unset, .unset, .unset, .unset, .unset, .unset, .unset] [(.int (1023 : Int32)), (.int q1), (.long (2 : Int64)), (.long aa)])) _
    refine XS.iand X0.here hx rfl (hb hby at_21) rfl ?_
    show Steps p.tables e below (s₁.setTop (mkF m 22 #[.val (.int q0), .val (.int q1), .val (.int q2), .val (.int q3), .val (.int q4), .val (.long aa), .second, .unset, .unset, .unset, .unset, .unset, .unset, .unset, .unset, .unset, .unset, .unset, .unset, .unset, .unset, .unset, .unset, .unset, .unset, .unset] [(.int (q1 &&& (1023 : Int32))), (.long (2 : Int64)), (.long aa)])) _
    refine XT.i2l X0.here hx rfl (hb hby at_22) rfl ?_
    show Steps p.tables e below (s₁.setTop (mkF m 23 #[.val (.int q0), .val (.int q1), .val (.int q2), .val (.int q3), .val (.int q4), .val (.long aa), .second, .unset, .unset, .unset, .unset, .unset, .unset, .unset, .unset, .unset, .unset, .unset, .unset, .unset, .unset, .unset, .unset, .unset, .unset, .unset] [(.long ((q1 &&& (1023 : Int32)).toInt64)), (.long (2 : Int64)), (.long aa)])) _
    refine XT.lmul X0.here hx rfl (hb hby at_23) rfl ?_
    show Steps p.tables e below (s₁.setTop (mkF m 24 #[.val (.int q0), .val (.int q1), .val (.int q2), .val (.int q3), .val (.int q4), .val (.long aa), .second, .unset, .unset, .unset, .unset, .unset, .unset, .unset, .unset, .unset, .unset, .unset, .unset, .unset, .unset, .unset, .unset, .unset, .unset, .unset] [(.long ((2 : Int64) * ((q1 &&& (1023 : Int32)).toInt64))), (.long aa)])) _
    refine XT.ladd X0.here hx rfl (hb hby at_24) rfl ?_
    show Steps p.tables e below (s₁.setTop (mkF m 25 #[.val (.int q0), .val (.int q1), .val (.int q2), .val (.int q3), .val (.int q4), .val (.long aa), .second, .unset, .unset, .unset, .unset, .unset, .unset, .unset, .unset, .unset, .unset, .unset, .unset, .unset, .unset, .unset, .unset, .unset, .unset, .unset] [(.long (aa + ((2 : Int64) * ((q1 &&& (1023 : Int32)).toInt64))))])) _
    refine XT.lstore X0.here hx rfl (hb hby at_25) rfl (l' := #[.val (.int q0), .val (.int q1), .val (.int q2), .val (.int q3), .val (.int q4), .val (.long aa), .second, .val (.long (aa + ((2 : Int64) * ((q1 &&& (1023 : Int32)).toInt64)))), .second, .unset, .unset, .unset, .unset, .unset, .unset, .unset, .unset, .unset, .unset, .unset, .unset, .unset, .unset, .unset, .unset, .unset]) rfl ?_
    show Steps p.tables e below (s₁.setTop (mkF m 27 #[.val (.int q0), .val (.int q1), .val (.int q2), .val (.int q3), .val (.int q4), .val (.long aa), .second, .val (.long (aa + ((2 : Int64) * ((q1 &&& (1023 : Int32)).toInt64)))), .second, .unset, .unset, .unset, .unset, .unset, .unset, .unset, .unset, .unset, .unset, .unset, .unset, .unset, .unset, .unset, .unset, .unset] [])) _
    exact k)
  obtain ⟨cc, hcc⟩ : ∃ v : Int64, v = (bb + ((2 : Int64) * ((q2 &&& (1023 : Int32)).toInt64))) := ⟨_, rfl⟩
  have c3 : ∀ t, Steps p.tables e below (s₁.setTop (mkF m 42 #[.val (.int q0), .val (.int q1), .val (.int q2), .val (.int q3), .val (.int q4), .val (.long aa), .second, .val (.long bb), .second, .val (.long cc), .second, .unset, .unset, .unset, .unset, .unset, .unset, .unset, .unset, .unset, .unset, .unset, .unset, .unset, .unset, .unset] [])) t → Steps p.tables e below (s₁.setTop (entryFrame m #[(.int q0), (.int q1), (.int q2), (.int q3), (.int q4)] maxLocals)) t := fun t k => c2 t (by
    rw [hcc] at k
    show Steps p.tables e below (s₁.setTop (mkF m 27 #[.val (.int q0), .val (.int q1), .val (.int q2), .val (.int q3), .val (.int q4), .val (.long aa), .second, .val (.long bb), .second, .unset, .unset, .unset, .unset, .unset, .unset, .unset, .unset, .unset, .unset, .unset, .unset, .unset, .unset, .unset, .unset, .unset] [])) _
    refine XT.lload X0.here hx rfl (hb hby at_27) rfl ?_
    show Steps p.tables e below (s₁.setTop (mkF m 29 #[.val (.int q0), .val (.int q1), .val (.int q2), .val (.int q3), .val (.int q4), .val (.long aa), .second, .val (.long bb), .second, .unset, .unset, .unset, .unset, .unset, .unset, .unset, .unset, .unset, .unset, .unset, .unset, .unset, .unset, .unset, .unset, .unset] [(.long bb)])) _
    refine Jvm.Stand.ldc2J X0 hx hown (mvT hZ (hw _ (List.mem_of_getElem? (i := 0) rfl))) rfl (hb hby at_29) ?_
    show Steps p.tables e below (s₁.setTop (mkF m 32 #[.val (.int q0), .val (.int q1), .val (.int q2), .val (.int q3), .val (.int q4), .val (.long aa), .second, .val (.long bb), .second, .unset, .unset, .unset, .unset, .unset, .unset, .unset, .unset, .unset, .unset, .unset, .unset, .unset, .unset, .unset, .unset, .unset] [(.long (2 : Int64)), (.long bb)])) _
    refine XS.iloadN X0.here hx rfl (hb hby at_32) rfl ?_
    show Steps p.tables e below (s₁.setTop (mkF m 33 #[.val (.int q0), .val (.int q1), .val (.int q2), .val (.int q3), .val (.int q4), .val (.long aa), .second, .val (.long bb), .second, .unset, .unset, .unset, .unset, .unset, .unset, .unset, .unset, .unset, .unset, .unset, .unset, .unset, .unset, .unset, .unset, .unset] [(.int q2), (.long (2 : Int64)), (.long bb)])) _
    refine XS.sipush X0.here hx rfl (hb hby at_33) ?_
    show Steps p.tables e below (s₁.setTop (mkF m 36 #[.val (.int q0), .val (.int q1), .val (.int q2), .val (.int q3), .val (.int q4), .val (.long aa), .second, .val (.long bb), .second, .unset, .unset, .unset, .unset, .unset, .unset, .unset, .unset, .unset, .unset, .unset, .unset, .unset, .unset, .unset, .unset, .unset] [(.int (1023 : Int32)), (.int q2), (.long (2 : Int64)), (.long bb)])) _
    refine XS.iand X0.here hx rfl (hb hby at_36) rfl ?_
    show Steps p.tables e below (s₁.setTop (mkF m 37 #[.val (.int q0), .val (.int q1), .val (.int q2), .val (.int q3), .val (.int q4), .val (.long aa), .second, .val (.long bb), .second, .unset, .unset, .unset, .unset, .unset, .unset, .unset, .unset, .unset, .unset, .unset, .unset, .unset, .unset, .unset, .unset, .unset] [(.int (q2 &&& (1023 : Int32))), (.long (2 : Int64)), (.long bb)])) _
    refine XT.i2l X0.here hx rfl (hb hby at_37) rfl ?_
    show Steps p.tables e below (s₁.setTop (mkF m 38 #[.val (.int q0), .val (.int q1), .val (.int q2), .val (.int q3), .val (.int q4), .val (.long aa), .second, .val (.long bb), .second, .unset, .unset, .unset, .unset, .unset, .unset, .unset, .unset, .unset, .unset, .unset, .unset, .unset, .unset, .unset, .unset, .unset] [(.long ((q2 &&& (1023 : Int32)).toInt64)), (.long (2 : Int64)), (.long bb)])) _
    refine XT.lmul X0.here hx rfl (hb hby at_38) rfl ?_
    show Steps p.tables e below (s₁.setTop (mkF m 39 #[.val (.int q0), .val (.int q1), .val (.int q2), .val (.int q3), .val (.int q4), .val (.long aa), .second, .val (.long bb), .second, .unset, .unset, .unset, .unset, .unset, .unset, .unset, .unset, .unset, .unset, .unset, .unset, .unset, .unset, .unset, .unset, .unset] [(.long ((2 : Int64) * ((q2 &&& (1023 : Int32)).toInt64))), (.long bb)])) _
    refine XT.ladd X0.here hx rfl (hb hby at_39) rfl ?_
    show Steps p.tables e below (s₁.setTop (mkF m 40 #[.val (.int q0), .val (.int q1), .val (.int q2), .val (.int q3), .val (.int q4), .val (.long aa), .second, .val (.long bb), .second, .unset, .unset, .unset, .unset, .unset, .unset, .unset, .unset, .unset, .unset, .unset, .unset, .unset, .unset, .unset, .unset, .unset] [(.long (bb + ((2 : Int64) * ((q2 &&& (1023 : Int32)).toInt64))))])) _
    refine XT.lstore X0.here hx rfl (hb hby at_40) rfl (l' := #[.val (.int q0), .val (.int q1), .val (.int q2), .val (.int q3), .val (.int q4), .val (.long aa), .second, .val (.long bb), .second, .val (.long (bb + ((2 : Int64) * ((q2 &&& (1023 : Int32)).toInt64)))), .second, .unset, .unset, .unset, .unset, .unset, .unset, .unset, .unset, .unset, .unset, .unset, .unset, .unset, .unset, .unset]) rfl ?_
    show Steps p.tables e below (s₁.setTop (mkF m 42 #[.val (.int q0), .val (.int q1), .val (.int q2), .val (.int q3), .val (.int q4), .val (.long aa), .second, .val (.long bb), .second, .val (.long (bb + ((2 : Int64) * ((q2 &&& (1023 : Int32)).toInt64)))), .second, .unset, .unset, .unset, .unset, .unset, .unset, .unset, .unset, .unset, .unset, .unset, .unset, .unset, .unset, .unset] [])) _
    exact k)
  have A0 := m10 q0
  have A1 := m10 q1
  have A2 := m10 q2
  have B0 := dbl A0
  have B1 := dbl A1
  have B2 := dbl A2
  have va : aa.toInt = 2 * (q0 &&& (1023 : Int32)).toInt64.toInt := by rw [haa]; exact B0
  have vb : bb.toInt = aa.toInt + 2 * (q1 &&& (1023 : Int32)).toInt64.toInt := by rw [hbb, Kit.i64_add (by omega) (by omega), B1]
  have vc : cc.toInt = bb.toInt + 2 * (q2 &&& (1023 : Int32)).toInt64.toInt := by rw [hcc, Kit.i64_add (by omega) (by omega), B2]
  have hb_ : aa.toInt ≤ bb.toInt ∧ bb.toInt ≤ cc.toInt ∧ cc.toInt - aa.toInt ≤ 2 ^ 13 := by omega
  have hb0 : 0 ≤ aa.toInt ∧ cc.toInt ≤ 2 ^ 13 := by omega
  have c4 : ∀ t, Steps p.tables e below (s₁.setTop (mkF m 46 #[.val (.int q0), .val (.int q1), .val (.int q2), .val (.int q3), .val (.int q4), .val (.long aa), .second, .val (.long bb), .second, .val (.long cc), .second, .unset, .unset, .unset, .unset, .unset, .unset, .unset, .unset, .unset, .unset, .unset, .unset, .unset, .unset, .unset] [(.int (q4 &&& (1 : Int32)))])) t → Steps p.tables e below (s₁.setTop (entryFrame m #[(.int q0), (.int q1), (.int q2), (.int q3), (.int q4)] maxLocals)) t := fun t k => c3 t (by
    show Steps p.tables e below (s₁.setTop (mkF m 42 #[.val (.int q0), .val (.int q1), .val (.int q2), .val (.int q3), .val (.int q4), .val (.long aa), .second, .val (.long bb), .second, .val (.long cc), .second, .unset, .unset, .unset, .unset, .unset, .unset, .unset, .unset, .unset, .unset, .unset, .unset, .unset, .unset, .unset] [])) _
    refine XS.iload X0.here hx rfl (hb hby at_42) rfl ?_
    show Steps p.tables e below (s₁.setTop (mkF m 44 #[.val (.int q0), .val (.int q1), .val (.int q2), .val (.int q3), .val (.int q4), .val (.long aa), .second, .val (.long bb), .second, .val (.long cc), .second, .unset, .unset, .unset, .unset, .unset, .unset, .unset, .unset, .unset, .unset, .unset, .unset, .unset, .unset, .unset] [(.int q4)])) _
    refine XS.iconst X0.here hx rfl (hb hby at_44) ?_
    show Steps p.tables e below (s₁.setTop (mkF m 45 #[.val (.int q0), .val (.int q1), .val (.int q2), .val (.int q3), .val (.int q4), .val (.long aa), .second, .val (.long bb), .second, .val (.long cc), .second, .unset, .unset, .unset, .unset, .unset, .unset, .unset, .unset, .unset, .unset, .unset, .unset, .unset, .unset, .unset] [(.int (1 : Int32)), (.int q4)])) _
    refine XS.iand X0.here hx rfl (hb hby at_45) rfl ?_
    show Steps p.tables e below (s₁.setTop (mkF m 46 #[.val (.int q0), .val (.int q1), .val (.int q2), .val (.int q3), .val (.int q4), .val (.long aa), .second, .val (.long bb), .second, .val (.long cc), .second, .unset, .unset, .unset, .unset, .unset, .unset, .unset, .unset, .unset, .unset, .unset, .unset, .unset, .unset, .unset] [(.int (q4 &&& (1 : Int32)))])) _
    exact k)
  obtain ⟨tt, htt⟩ : ∃ v : Int64, v = (if (q4 &&& (1 : Int32)) = 0 then ((q3 % (8192 : Int32)).toInt64) else (q3.toInt64)) := ⟨_, rfl⟩
  have c5 : ∀ t, Steps p.tables e below (s₁.setTop (mkF m 60 #[.val (.int q0), .val (.int q1), .val (.int q2), .val (.int q3), .val (.int q4), .val (.long aa), .second, .val (.long bb), .second, .val (.long cc), .second, .unset, .unset, .unset, .unset, .unset, .unset, .unset, .unset, .unset, .unset, .unset, .unset, .unset, .unset, .unset] [(.long tt)])) t → Steps p.tables e below (s₁.setTop (entryFrame m #[(.int q0), (.int q1), (.int q2), (.int q3), (.int q4)] maxLocals)) t := fun t k => c4 t (by
    rw [htt] at k
    show Steps p.tables e below (s₁.setTop (mkF m 46 #[.val (.int q0), .val (.int q1), .val (.int q2), .val (.int q3), .val (.int q4), .val (.long aa), .second, .val (.long bb), .second, .val (.long cc), .second, .unset, .unset, .unset, .unset, .unset, .unset, .unset, .unset, .unset, .unset, .unset, .unset, .unset, .unset, .unset] [(.int (q4 &&& (1 : Int32)))])) _
    by_cases q46_0 : (q4 &&& (1 : Int32)) = 0
    · try simp only [if_pos q46_0] at k
      refine XS.ifNo X0.here hx rfl (hb hby at_46) rfl (XT.i0_ne_f q46_0) ?_
      show Steps p.tables e below (s₁.setTop (mkF m 49 #[.val (.int q0), .val (.int q1), .val (.int q2), .val (.int q3), .val (.int q4), .val (.long aa), .second, .val (.long bb), .second, .val (.long cc), .second, .unset, .unset, .unset, .unset, .unset, .unset, .unset, .unset, .unset, .unset, .unset, .unset, .unset, .unset, .unset] [])) _
      refine XS.iloadN X0.here hx rfl (hb hby at_49) rfl ?_
      show Steps p.tables e below (s₁.setTop (mkF m 50 #[.val (.int q0), .val (.int q1), .val (.int q2), .val (.int q3), .val (.int q4), .val (.long aa), .second, .val (.long bb), .second, .val (.long cc), .second, .unset, .unset, .unset, .unset, .unset, .unset, .unset, .unset, .unset, .unset, .unset, .unset, .unset, .unset, .unset] [(.int q3)])) _
      refine XS.sipush X0.here hx rfl (hb hby at_50) ?_
      show Steps p.tables e below (s₁.setTop (mkF m 53 #[.val (.int q0), .val (.int q1), .val (.int q2), .val (.int q3), .val (.int q4), .val (.long aa), .second, .val (.long bb), .second, .val (.long cc), .second, .unset, .unset, .unset, .unset, .unset, .unset, .unset, .unset, .unset, .unset, .unset, .unset, .unset, .unset, .unset] [(.int (8192 : Int32)), (.int q3)])) _
      refine iremM X0 hx rfl (hb hby at_53) rfl (by decide) ?_
      show Steps p.tables e below (s₁.setTop (mkF m 54 #[.val (.int q0), .val (.int q1), .val (.int q2), .val (.int q3), .val (.int q4), .val (.long aa), .second, .val (.long bb), .second, .val (.long cc), .second, .unset, .unset, .unset, .unset, .unset, .unset, .unset, .unset, .unset, .unset, .unset, .unset, .unset, .unset, .unset] [(.int (q3 % (8192 : Int32)))])) _
      refine XT.i2l X0.here hx rfl (hb hby at_54) rfl ?_
      show Steps p.tables e below (s₁.setTop (mkF m 55 #[.val (.int q0), .val (.int q1), .val (.int q2), .val (.int q3), .val (.int q4), .val (.long aa), .second, .val (.long bb), .second, .val (.long cc), .second, .unset, .unset, .unset, .unset, .unset, .unset, .unset, .unset, .unset, .unset, .unset, .unset, .unset, .unset, .unset] [(.long ((q3 % (8192 : Int32)).toInt64))])) _
      refine XS.goto X0.here hx rfl (pc0 := 55) (pc' := 60) rfl (hb hby at_55) (by decide) (by decide) ?_
      show Steps p.tables e below (s₁.setTop (mkF m 60 #[.val (.int q0), .val (.int q1), .val (.int q2), .val (.int q3), .val (.int q4), .val (.long aa), .second, .val (.long bb), .second, .val (.long cc), .second, .unset, .unset, .unset, .unset, .unset, .unset, .unset, .unset, .unset, .unset, .unset, .unset, .unset, .unset, .unset] [(.long ((q3 % (8192 : Int32)).toInt64))])) _
      exact k
    · try simp only [if_neg q46_0] at k
      refine XS.ifYes X0.here hx rfl (pc0 := 46) (pc' := 58) rfl (hb hby at_46) rfl (XT.i0_ne_t q46_0) (by decide) (by decide) ?_
      show Steps p.tables e below (s₁.setTop (mkF m 58 #[.val (.int q0), .val (.int q1), .val (.int q2), .val (.int q3), .val (.int q4), .val (.long aa), .second, .val (.long bb), .second, .val (.long cc), .second, .unset, .unset, .unset, .unset, .unset, .unset, .unset, .unset, .unset, .unset, .unset, .unset, .unset, .unset, .unset] [])) _
      refine XS.iloadN X0.here hx rfl (hb hby at_58) rfl ?_
      show Steps p.tables e below (s₁.setTop (mkF m 59 #[.val (.int q0), .val (.int q1), .val (.int q2), .val (.int q3), .val (.int q4), .val (.long aa), .second, .val (.long bb), .second, .val (.long cc), .second, .unset, .unset, .unset, .unset, .unset, .unset, .unset, .unset, .unset, .unset, .unset, .unset, .unset, .unset, .unset] [(.int q3)])) _
      refine XT.i2l X0.here hx rfl (hb hby at_59) rfl ?_
      show Steps p.tables e below (s₁.setTop (mkF m 60 #[.val (.int q0), .val (.int q1), .val (.int q2), .val (.int q3), .val (.int q4), .val (.long aa), .second, .val (.long bb), .second, .val (.long cc), .second, .unset, .unset, .unset, .unset, .unset, .unset, .unset, .unset, .unset, .unset, .unset, .unset, .unset, .unset, .unset] [(.long (q3.toInt64))])) _
      exact k)
  have T1 := t_k htt
  have c6 : ∀ t, Steps p.tables e below (s₁.setTop (mkF m 62 #[.val (.int q0), .val (.int q1), .val (.int q2), .val (.int q3), .val (.int q4), .val (.long aa), .second, .val (.long bb), .second, .val (.long cc), .second, .val (.long tt), .second, .unset, .unset, .unset, .unset, .unset, .unset, .unset, .unset, .unset, .unset, .unset, .unset, .unset] [])) t → Steps p.tables e below (s₁.setTop (entryFrame m #[(.int q0), (.int q1), (.int q2), (.int q3), (.int q4)] maxLocals)) t := fun t k => c5 t (by
    show Steps p.tables e below (s₁.setTop (mkF m 60 #[.val (.int q0), .val (.int q1), .val (.int q2), .val (.int q3), .val (.int q4), .val (.long aa), .second, .val (.long bb), .second, .val (.long cc), .second, .unset, .unset, .unset, .unset, .unset, .unset, .unset, .unset, .unset, .unset, .unset, .unset, .unset, .unset, .unset] [(.long tt)])) _
    refine XT.lstore X0.here hx rfl (hb hby at_60) rfl (l' := #[.val (.int q0), .val (.int q1), .val (.int q2), .val (.int q3), .val (.int q4), .val (.long aa), .second, .val (.long bb), .second, .val (.long cc), .second, .val (.long tt), .second, .unset, .unset, .unset, .unset, .unset, .unset, .unset, .unset, .unset, .unset, .unset, .unset, .unset]) rfl ?_
    show Steps p.tables e below (s₁.setTop (mkF m 62 #[.val (.int q0), .val (.int q1), .val (.int q2), .val (.int q3), .val (.int q4), .val (.long aa), .second, .val (.long bb), .second, .val (.long cc), .second, .val (.long tt), .second, .unset, .unset, .unset, .unset, .unset, .unset, .unset, .unset, .unset, .unset, .unset, .unset, .unset] [])) _
    exact k)
  obtain ⟨T7, h7, X7, e7, E7, A7, D7, -, st7⟩ := newO X0 hx hZ hown (hw _ (List.mem_of_getElem? (i := 1) rfl)) (hw _ (List.mem_of_getElem? (i := 2) rfl)) (hw _ (List.mem_of_getElem? (i := 3) rfl)) e0 (g := (mkF m 62 #[.val (.int q0), .val (.int q1), .val (.int q2), .val (.int q3), .val (.int q4), .val (.long aa), .second, .val (.long bb), .second, .val (.long cc), .second, .val (.long tt), .second, .unset, .unset, .unset, .unset, .unset, .unset, .unset, .unset, .unset, .unset, .unset, .unset, .unset] [])) rfl (hb hby at_62) (by decide) (by decide)
  obtain ⟨ob, g7⟩ : ∃ z, z = h0.size := ⟨_, rfl⟩
  rw [← g7] at A7 D7 st7
  have F8 : Fld Z h7 ob "com/example/foglane/foglane/uncertainty/UncertainQuantity$Triangular" "smallest" "D" (.double (0 : UInt64)) := (D7 (Or.inr (hw _ (List.mem_of_getElem? (i := 26) rfl))) (ty := .double) (by decide))
  have F9 : Fld Z h7 ob "com/example/foglane/foglane/uncertainty/UncertainQuantity$Triangular" "mostPlausible" "D" (.double (0 : UInt64)) := (D7 (Or.inr (hw _ (List.mem_of_getElem? (i := 28) rfl))) (ty := .double) (by decide))
  have F10 : Fld Z h7 ob "com/example/foglane/foglane/uncertainty/UncertainQuantity$Triangular" "largest" "D" (.double (0 : UInt64)) := (D7 (Or.inr (hw _ (List.mem_of_getElem? (i := 30) rfl))) (ty := .double) (by decide))
  have c11 : ∀ t, Steps p.tables e below (T7.setTop (mkF m 65 #[.val (.int q0), .val (.int q1), .val (.int q2), .val (.int q3), .val (.int q4), .val (.long aa), .second, .val (.long bb), .second, .val (.long cc), .second, .val (.long tt), .second, .unset, .unset, .unset, .unset, .unset, .unset, .unset, .unset, .unset, .unset, .unset, .unset, .unset] [(.ref ob)])) t → Steps p.tables e below (s₁.setTop (entryFrame m #[(.int q0), (.int q1), (.int q2), (.int q3), (.int q4)] maxLocals)) t := fun t k => c6 t (st7 _ k)
  obtain ⟨e1, he1⟩ : ∃ v : UInt64, FP.l2d aa = v := ⟨_, rfl⟩
  obtain ⟨t1, ht1⟩ : ∃ v : UInt64, FP.ddiv e1 (4611686018427387904 : UInt64) = v := ⟨_, rfl⟩
  have Dt1 : DS aa.toInt 1 t1 := half_k (by omega) (he1 ▸ ht1)
  obtain ⟨e2, he2⟩ : ∃ v : UInt64, FP.l2d bb = v := ⟨_, rfl⟩
  obtain ⟨t2, ht2⟩ : ∃ v : UInt64, FP.ddiv e2 (4611686018427387904 : UInt64) = v := ⟨_, rfl⟩
  have Dt2 : DS bb.toInt 1 t2 := half_k (by omega) (he2 ▸ ht2)
  obtain ⟨e3, he3⟩ : ∃ v : UInt64, FP.l2d cc = v := ⟨_, rfl⟩
  obtain ⟨t3, ht3⟩ : ∃ v : UInt64, FP.ddiv e3 (4611686018427387904 : UInt64) = v := ⟨_, rfl⟩
  have Dt3 : DS cc.toInt 1 t3 := half_k (by omega) (he3 ▸ ht3)
  have c12 : ∀ t, Steps p.tables e below (T7.setTop (mkF m 87 #[.val (.int q0), .val (.int q1), .val (.int q2), .val (.int q3), .val (.int q4), .val (.long aa), .second, .val (.long bb), .second, .val (.long cc), .second, .val (.long tt), .second, .unset, .unset, .unset, .unset, .unset, .unset, .unset, .unset, .unset, .unset, .unset, .unset, .unset] [(.double t3), (.double t2), (.double t1), (.ref ob), (.ref ob)])) t → Steps p.tables e below (s₁.setTop (entryFrame m #[(.int q0), (.int q1), (.int q2), (.int q3), (.int q4)] maxLocals)) t := fun t k => c11 t (by
    show Steps p.tables e below (T7.setTop (mkF m 65 #[.val (.int q0), .val (.int q1), .val (.int q2), .val (.int q3), .val (.int q4), .val (.long aa), .second, .val (.long bb), .second, .val (.long cc), .second, .val (.long tt), .second, .unset, .unset, .unset, .unset, .unset, .unset, .unset, .unset, .unset, .unset, .unset, .unset, .unset] [(.ref ob)])) _
    refine XS.dup X7.here hx rfl (hb hby at_65) rfl rfl ?_
    show Steps p.tables e below (T7.setTop (mkF m 66 #[.val (.int q0), .val (.int q1), .val (.int q2), .val (.int q3), .val (.int q4), .val (.long aa), .second, .val (.long bb), .second, .val (.long cc), .second, .val (.long tt), .second, .unset, .unset, .unset, .unset, .unset, .unset, .unset, .unset, .unset, .unset, .unset, .unset, .unset] [(.ref ob), (.ref ob)])) _
    refine XT.lload X7.here hx rfl (hb hby at_66) rfl ?_
    show Steps p.tables e below (T7.setTop (mkF m 68 #[.val (.int q0), .val (.int q1), .val (.int q2), .val (.int q3), .val (.int q4), .val (.long aa), .second, .val (.long bb), .second, .val (.long cc), .second, .val (.long tt), .second, .unset, .unset, .unset, .unset, .unset, .unset, .unset, .unset, .unset, .unset, .unset, .unset, .unset] [(.long aa), (.ref ob), (.ref ob)])) _
    refine XS.l2dS X7.here hx rfl (hb hby at_68) rfl he1 ?_
    show Steps p.tables e below (T7.setTop (mkF m 69 #[.val (.int q0), .val (.int q1), .val (.int q2), .val (.int q3), .val (.int q4), .val (.long aa), .second, .val (.long bb), .second, .val (.long cc), .second, .val (.long tt), .second, .unset, .unset, .unset, .unset, .unset, .unset, .unset, .unset, .unset, .unset, .unset, .unset, .unset] [(.double e1), (.ref ob), (.ref ob)])) _
    refine Jvm.Stand.ldc2DoubleC X7 hx hown (mvT hZ (hw _ (List.mem_of_getElem? (i := 4) rfl))) (g := (mkF m 69 #[.val (.int q0), .val (.int q1), .val (.int q2), .val (.int q3), .val (.int q4), .val (.long aa), .second, .val (.long bb), .second, .val (.long cc), .second, .val (.long tt), .second, .unset, .unset, .unset, .unset, .unset, .unset, .unset, .unset, .unset, .unset, .unset, .unset, .unset] [(.double e1), (.ref ob), (.ref ob)])) rfl (hb hby at_69) _ ?_
    show Steps p.tables e below (T7.setTop (mkF m 72 #[.val (.int q0), .val (.int q1), .val (.int q2), .val (.int q3), .val (.int q4), .val (.long aa), .second, .val (.long bb), .second, .val (.long cc), .second, .val (.long tt), .second, .unset, .unset, .unset, .unset, .unset, .unset, .unset, .unset, .unset, .unset, .unset, .unset, .unset] [(.double (4611686018427387904 : UInt64)), (.double e1), (.ref ob), (.ref ob)])) _
    refine XS.ddivS X7.here hx rfl (hb hby at_72) rfl (ht1 ▸ Dt1.noNaN) ht1 ?_
    show Steps p.tables e below (T7.setTop (mkF m 73 #[.val (.int q0), .val (.int q1), .val (.int q2), .val (.int q3), .val (.int q4), .val (.long aa), .second, .val (.long bb), .second, .val (.long cc), .second, .val (.long tt), .second, .unset, .unset, .unset, .unset, .unset, .unset, .unset, .unset, .unset, .unset, .unset, .unset, .unset] [(.double t1), (.ref ob), (.ref ob)])) _
    refine XT.lload X7.here hx rfl (hb hby at_73) rfl ?_
    show Steps p.tables e below (T7.setTop (mkF m 75 #[.val (.int q0), .val (.int q1), .val (.int q2), .val (.int q3), .val (.int q4), .val (.long aa), .second, .val (.long bb), .second, .val (.long cc), .second, .val (.long tt), .second, .unset, .unset, .unset, .unset, .unset, .unset, .unset, .unset, .unset, .unset, .unset, .unset, .unset] [(.long bb), (.double t1), (.ref ob), (.ref ob)])) _
    refine XS.l2dS X7.here hx rfl (hb hby at_75) rfl he2 ?_
    show Steps p.tables e below (T7.setTop (mkF m 76 #[.val (.int q0), .val (.int q1), .val (.int q2), .val (.int q3), .val (.int q4), .val (.long aa), .second, .val (.long bb), .second, .val (.long cc), .second, .val (.long tt), .second, .unset, .unset, .unset, .unset, .unset, .unset, .unset, .unset, .unset, .unset, .unset, .unset, .unset] [(.double e2), (.double t1), (.ref ob), (.ref ob)])) _
    refine Jvm.Stand.ldc2DoubleC X7 hx hown (mvT hZ (hw _ (List.mem_of_getElem? (i := 4) rfl))) (g := (mkF m 76 #[.val (.int q0), .val (.int q1), .val (.int q2), .val (.int q3), .val (.int q4), .val (.long aa), .second, .val (.long bb), .second, .val (.long cc), .second, .val (.long tt), .second, .unset, .unset, .unset, .unset, .unset, .unset, .unset, .unset, .unset, .unset, .unset, .unset, .unset] [(.double e2), (.double t1), (.ref ob), (.ref ob)])) rfl (hb hby at_76) _ ?_
    show Steps p.tables e below (T7.setTop (mkF m 79 #[.val (.int q0), .val (.int q1), .val (.int q2), .val (.int q3), .val (.int q4), .val (.long aa), .second, .val (.long bb), .second, .val (.long cc), .second, .val (.long tt), .second, .unset, .unset, .unset, .unset, .unset, .unset, .unset, .unset, .unset, .unset, .unset, .unset, .unset] [(.double (4611686018427387904 : UInt64)), (.double e2), (.double t1), (.ref ob), (.ref ob)])) _
    refine XS.ddivS X7.here hx rfl (hb hby at_79) rfl (ht2 ▸ Dt2.noNaN) ht2 ?_
    show Steps p.tables e below (T7.setTop (mkF m 80 #[.val (.int q0), .val (.int q1), .val (.int q2), .val (.int q3), .val (.int q4), .val (.long aa), .second, .val (.long bb), .second, .val (.long cc), .second, .val (.long tt), .second, .unset, .unset, .unset, .unset, .unset, .unset, .unset, .unset, .unset, .unset, .unset, .unset, .unset] [(.double t2), (.double t1), (.ref ob), (.ref ob)])) _
    refine XT.lload X7.here hx rfl (hb hby at_80) rfl ?_
    show Steps p.tables e below (T7.setTop (mkF m 82 #[.val (.int q0), .val (.int q1), .val (.int q2), .val (.int q3), .val (.int q4), .val (.long aa), .second, .val (.long bb), .second, .val (.long cc), .second, .val (.long tt), .second, .unset, .unset, .unset, .unset, .unset, .unset, .unset, .unset, .unset, .unset, .unset, .unset, .unset] [(.long cc), (.double t2), (.double t1), (.ref ob), (.ref ob)])) _
    refine XS.l2dS X7.here hx rfl (hb hby at_82) rfl he3 ?_
    show Steps p.tables e below (T7.setTop (mkF m 83 #[.val (.int q0), .val (.int q1), .val (.int q2), .val (.int q3), .val (.int q4), .val (.long aa), .second, .val (.long bb), .second, .val (.long cc), .second, .val (.long tt), .second, .unset, .unset, .unset, .unset, .unset, .unset, .unset, .unset, .unset, .unset, .unset, .unset, .unset] [(.double e3), (.double t2), (.double t1), (.ref ob), (.ref ob)])) _
    refine Jvm.Stand.ldc2DoubleC X7 hx hown (mvT hZ (hw _ (List.mem_of_getElem? (i := 4) rfl))) (g := (mkF m 83 #[.val (.int q0), .val (.int q1), .val (.int q2), .val (.int q3), .val (.int q4), .val (.long aa), .second, .val (.long bb), .second, .val (.long cc), .second, .val (.long tt), .second, .unset, .unset, .unset, .unset, .unset, .unset, .unset, .unset, .unset, .unset, .unset, .unset, .unset] [(.double e3), (.double t2), (.double t1), (.ref ob), (.ref ob)])) rfl (hb hby at_83) _ ?_
    show Steps p.tables e below (T7.setTop (mkF m 86 #[.val (.int q0), .val (.int q1), .val (.int q2), .val (.int q3), .val (.int q4), .val (.long aa), .second, .val (.long bb), .second, .val (.long cc), .second, .val (.long tt), .second, .unset, .unset, .unset, .unset, .unset, .unset, .unset, .unset, .unset, .unset, .unset, .unset, .unset] [(.double (4611686018427387904 : UInt64)), (.double e3), (.double t2), (.double t1), (.ref ob), (.ref ob)])) _
    refine XS.ddivS X7.here hx rfl (hb hby at_86) rfl (ht3 ▸ Dt3.noNaN) ht3 ?_
    show Steps p.tables e below (T7.setTop (mkF m 87 #[.val (.int q0), .val (.int q1), .val (.int q2), .val (.int q3), .val (.int q4), .val (.long aa), .second, .val (.long bb), .second, .val (.long cc), .second, .val (.long tt), .second, .unset, .unset, .unset, .unset, .unset, .unset, .unset, .unset, .unset, .unset, .unset, .unset, .unset] [(.double t3), (.double t2), (.double t1), (.ref ob), (.ref ob)])) _
    exact k)
  obtain ⟨_, _, ⟨T13, L13, k13', n13⟩, -, X13, ⟨Lc13, hQ13, l13, y13, z13⟩, st13⟩ := X7.specialBack hx (y := (⟨"com/example/foglane/foglane/uncertainty/UncertainQuantity$Triangular", "<init>", "(DDD)V"⟩ : MethodName)) rfl hown (mvT hZ (hw _ (List.mem_of_getElem? (i := 5) rfl))) (mvT hZ (hw _ (List.mem_of_getElem? (i := 6) rfl))) (mvT hZ (hw _ (List.mem_of_getElem? (i := 7) rfl))) (by decide) (backOf (W := 1) (rm_1 l Z a0 hw [] ob t1 t2 t3 h7 n0 (Nat.le_trans Z0 E7.1) A7 F8 F9 F10 (Nat.le_trans Z0 (Nat.le_of_eq g7.symm)) Dt1.1 Dt2.1 Dt3.1 (by have := le_of (DS.zero.up 1).le Dt1.ge (by simp; omega); rwa [zv_zero] at this) (le_of Dt1.le Dt2.ge (by omega)) (le_of Dt2.le Dt3.ge (by omega))) hZ (hw _ (List.mem_of_getElem? (i := 7) rfl)) (hw _ (List.mem_of_getElem? (i := 3) rfl)) (by decide) (by decide)) (g := (mkF m 87 #[.val (.int q0), .val (.int q1), .val (.int q2), .val (.int q3), .val (.int q4), .val (.long aa), .second, .val (.long bb), .second, .val (.long cc), .second, .val (.long tt), .second, .unset, .unset, .unset, .unset, .unset, .unset, .unset, .unset, .unset, .unset, .unset, .unset, .unset] [(.double t3), (.double t2), (.double t1), (.ref ob), (.ref ob)])) rfl (by rw [hml]; rfl) (Steps.refl _) (a := ob) (argsL := [(.double t1), (.double t2), (.double t3)]) (rest := [(.ref ob)]) (lenOf pd__DDD_V rfl) rfl (by show 2 * 0 + _ ≤ _; exact Nat.le_of_eq rfl) (hb hby at_87) (fun _ _ => ⟨rfl, e7, (by decide : 1 + 0 ≤ _), (by decide : 3 + 0 ≤ _)⟩)
  dsimp only [Pt.U, Pt.locs, Pt.cells, Pt.slots] at X13 l13 y13 z13 st13 hQ13
  subst l13 y13 z13
  obtain ⟨rfl, N13, K13, G13_0, G13_1, G13_2, G13_3⟩ := hQ13
  have M13 := Fr.app N0 N13
  have F14 : Exa Z T13.heap ob "com/example/foglane/foglane/uncertainty/UncertainQuantity$Triangular" := (A7.keep K13)
  have c15 : ∀ t, Steps p.tables e below (T13.setTop (mkF m 90 #[.val (.int q0), .val (.int q1), .val (.int q2), .val (.int q3), .val (.int q4), .val (.long aa), .second, .val (.long bb), .second, .val (.long cc), .second, .val (.long tt), .second, .unset, .unset, .unset, .unset, .unset, .unset, .unset, .unset, .unset, .unset, .unset, .unset, .unset] [(.ref ob)])) t → Steps p.tables e below (s₁.setTop (entryFrame m #[(.int q0), (.int q1), (.int q2), (.int q3), (.int q4)] maxLocals)) t := fun t k => c12 t (st13.trans k)
  obtain ⟨e4, he4⟩ : ∃ v : UInt64, FP.l2d tt = v := ⟨_, rfl⟩
  obtain ⟨t4, ht4⟩ : ∃ v : UInt64, FP.ddiv e4 (4611686018427387904 : UInt64) = v := ⟨_, rfl⟩
  have Dt4 : DS tt.toInt 1 t4 := half_k (by omega) (he4 ▸ ht4)
  have c16 : ∀ t, Steps p.tables e below (T13.setTop (mkF m 101 #[.val (.int q0), .val (.int q1), .val (.int q2), .val (.int q3), .val (.int q4), .val (.long aa), .second, .val (.long bb), .second, .val (.long cc), .second, .val (.long tt), .second, .val (.ref ob), .unset, .unset, .unset, .unset, .unset, .unset, .unset, .unset, .unset, .unset, .unset, .unset] [(.double t4), (.ref ob)])) t → Steps p.tables e below (s₁.setTop (entryFrame m #[(.int q0), (.int q1), (.int q2), (.int q3), (.int q4)] maxLocals)) t := fun t k => c15 t (by
    show Steps p.tables e below (T13.setTop (mkF m 90 #[.val (.int q0), .val (.int q1), .val (.int q2), .val (.int q3), .val (.int q4), .val (.long aa), .second, .val (.long bb), .second, .val (.long cc), .second, .val (.long tt), .second, .unset, .unset, .unset, .unset, .unset, .unset, .unset, .unset, .unset, .unset, .unset, .unset, .unset] [(.ref ob)])) _
    refine XS.astore X13.here hx rfl (hb hby at_90) rfl rfl (l' := #[.val (.int q0), .val (.int q1), .val (.int q2), .val (.int q3), .val (.int q4), .val (.long aa), .second, .val (.long bb), .second, .val (.long cc), .second, .val (.long tt), .second, .val (.ref ob), .unset, .unset, .unset, .unset, .unset, .unset, .unset, .unset, .unset, .unset, .unset, .unset]) rfl ?_
    show Steps p.tables e below (T13.setTop (mkF m 92 #[.val (.int q0), .val (.int q1), .val (.int q2), .val (.int q3), .val (.int q4), .val (.long aa), .second, .val (.long bb), .second, .val (.long cc), .second, .val (.long tt), .second, .val (.ref ob), .unset, .unset, .unset, .unset, .unset, .unset, .unset, .unset, .unset, .unset, .unset, .unset] [])) _
    refine XS.aload X13.here hx rfl (hb hby at_92) rfl rfl ?_
    show Steps p.tables e below (T13.setTop (mkF m 94 #[.val (.int q0), .val (.int q1), .val (.int q2), .val (.int q3), .val (.int q4), .val (.long aa), .second, .val (.long bb), .second, .val (.long cc), .second, .val (.long tt), .second, .val (.ref ob), .unset, .unset, .unset, .unset, .unset, .unset, .unset, .unset, .unset, .unset, .unset, .unset] [(.ref ob)])) _
    refine XT.lload X13.here hx rfl (hb hby at_94) rfl ?_
    show Steps p.tables e below (T13.setTop (mkF m 96 #[.val (.int q0), .val (.int q1), .val (.int q2), .val (.int q3), .val (.int q4), .val (.long aa), .second, .val (.long bb), .second, .val (.long cc), .second, .val (.long tt), .second, .val (.ref ob), .unset, .unset, .unset, .unset, .unset, .unset, .unset, .unset, .unset, .unset, .unset, .unset] [(.long tt), (.ref ob)])) _
    refine XS.l2dS X13.here hx rfl (hb hby at_96) rfl he4 ?_
    show Steps p.tables e below (T13.setTop (mkF m 97 #[.val (.int q0), .val (.int q1), .val (.int q2), .val (.int q3), .val (.int q4), .val (.long aa), .second, .val (.long bb), .second, .val (.long cc), .second, .val (.long tt), .second, .val (.ref ob), .unset, .unset, .unset, .unset, .unset, .unset, .unset, .unset, .unset, .unset, .unset, .unset] [(.double e4), (.ref ob)])) _
    refine Jvm.Stand.ldc2DoubleC X13 hx hown (mvT hZ (hw _ (List.mem_of_getElem? (i := 4) rfl))) (g := (mkF m 97 #[.val (.int q0), .val (.int q1), .val (.int q2), .val (.int q3), .val (.int q4), .val (.long aa), .second, .val (.long bb), .second, .val (.long cc), .second, .val (.long tt), .second, .val (.ref ob), .unset, .unset, .unset, .unset, .unset, .unset, .unset, .unset, .unset, .unset, .unset, .unset] [(.double e4), (.ref ob)])) rfl (hb hby at_97) _ ?_
    show Steps p.tables e below (T13.setTop (mkF m 100 #[.val (.int q0), .val (.int q1), .val (.int q2), .val (.int q3), .val (.int q4), .val (.long aa), .second, .val (.long bb), .second, .val (.long cc), .second, .val (.long tt), .second, .val (.ref ob), .unset, .unset, .unset, .unset, .unset, .unset, .unset, .unset, .unset, .unset, .unset, .unset] [(.double (4611686018427387904 : UInt64)), (.double e4), (.ref ob)])) _
    refine XS.ddivS X13.here hx rfl (hb hby at_100) rfl (ht4 ▸ Dt4.noNaN) ht4 ?_
    show Steps p.tables e below (T13.setTop (mkF m 101 #[.val (.int q0), .val (.int q1), .val (.int q2), .val (.int q3), .val (.int q4), .val (.long aa), .second, .val (.long bb), .second, .val (.long cc), .second, .val (.long tt), .second, .val (.ref ob), .unset, .unset, .unset, .unset, .unset, .unset, .unset, .unset, .unset, .unset, .unset, .unset] [(.double t4), (.ref ob)])) _
    exact k)
  obtain ⟨cq17, kq17, q17a, q17b, q17c⟩ := isOf hZ rfl G13_0
  obtain ⟨_, _, ⟨T17, L17, k17', n17⟩, -, X17, ⟨Lc17, hQ17, l17, y17, z17⟩, st17⟩ := X13.virtualBack hx (y := (⟨"com/example/foglane/foglane/uncertainty/UncertainQuantity$Triangular", "exceeds", "(D)D"⟩ : MethodName)) (z := (⟨"com/example/foglane/foglane/uncertainty/UncertainQuantity$Triangular", "exceeds", "(D)D"⟩ : MethodName)) hown (mvT hZ (hw _ (List.mem_of_getElem? (i := 31) rfl))) (mvT hZ (hw _ (List.mem_of_getElem? (i := 32) rfl))) (notFace_of_selects (args := #[]) (mvT hZ (hw _ (List.mem_of_getElem? (i := 34) rfl)))) (mvT hZ (hw _ (List.mem_of_getElem? (i := 34) rfl))) (mvT hZ (hw _ (List.mem_of_getElem? (i := 33) rfl))) (by decide) (backOf (W := 0) (rm_6 l Z a0 hw [] ob t4 t1 t2 t3 aa.toInt bb.toInt cc.toInt tt.toInt T13.heap n0 (Nat.le_trans (Nat.le_trans Z0 E7.1) K13.1) G13_1 G13_2 G13_3 Dt1 Dt2 Dt3 Dt4 hb_) hZ (hw _ (List.mem_of_getElem? (i := 35) rfl)) (hw _ (List.mem_of_getElem? (i := 3) rfl)) (by decide) (by decide)) q17a q17c (g := (mkF m 101 #[.val (.int q0), .val (.int q1), .val (.int q2), .val (.int q3), .val (.int q4), .val (.long aa), .second, .val (.long bb), .second, .val (.long cc), .second, .val (.long tt), .second, .val (.ref ob), .unset, .unset, .unset, .unset, .unset, .unset, .unset, .unset, .unset, .unset, .unset, .unset] [(.double t4), (.ref ob)])) rfl (by rw [hml]; rfl) (Steps.refl _) (argsL := [(.double t4)]) (rest := []) (lenOf pd__D_D rfl) rfl (by show 2 * 0 + _ ≤ _; exact Nat.le_of_eq rfl) (hb hby at_101) (fun _ _ => ⟨rfl, rfl, (by decide : 1 + 0 ≤ _), (by decide : 3 + 0 ≤ _)⟩)
  dsimp only [Pt.U, Pt.locs, Pt.cells, Pt.slots] at X17 l17 y17 z17 st17 hQ17
  subst l17 y17 z17
  obtain ⟨⟨rs, rfl, hrs⟩, N17, e17⟩ := hQ17
  have M17 := Fr.app M13 N17
  obtain ⟨fr, gr, lr⟩ := hrs.unit hb_
  have c18 : ∀ t, Steps p.tables e below (T17.setTop (mkF m 104 #[.val (.int q0), .val (.int q1), .val (.int q2), .val (.int q3), .val (.int q4), .val (.long aa), .second, .val (.long bb), .second, .val (.long cc), .second, .val (.long tt), .second, .val (.ref ob), .unset, .unset, .unset, .unset, .unset, .unset, .unset, .unset, .unset, .unset, .unset, .unset] [(.double rs)])) t → Steps p.tables e below (s₁.setTop (entryFrame m #[(.int q0), (.int q1), (.int q2), (.int q3), (.int q4)] maxLocals)) t := fun t k => c16 t (st17.trans k)
  obtain ⟨k109, hk109⟩ : ∃ v : Int32, cmpValue (FP.dcmp rs FP.dconst0) .l = v := ⟨_, rfl⟩
  have v109 : ¬ k109 < 0 := by
    rw [← hk109, cmpV_of (notNan fr) (notNan DS.zero.1)]
    have := le_of DS.zero.le gr (Int.le_refl _)
    rw [if_neg (by omega)]; split <;> decide
  obtain ⟨k116, hk116⟩ : ∃ v : Int32, cmpValue (FP.dcmp rs FP.dconst1) .g = v := ⟨_, rfl⟩
  have v116 : ¬ 0 < k116 := by
    rw [← hk116, cmpV_of (notNan fr) (notNan DS.one.1)]
    have := le_of lr DS.one.ge (Int.le_refl _)
    split
    · decide
    · split
      · decide
      · omega
  have c19 : ∀ t, Steps p.tables e below (T17.setTop (mkF m 127 #[.val (.int q0), .val (.int q1), .val (.int q2), .val (.int q3), .val (.int q4), .val (.long aa), .second, .val (.long bb), .second, .val (.long cc), .second, .val (.long tt), .second, .val (.ref ob), .val (.double rs), .second, .unset, .unset, .unset, .unset, .unset, .unset, .unset, .unset, .unset, .unset] [(.int (XT.cmpL tt aa))])) t → Steps p.tables e below (s₁.setTop (entryFrame m #[(.int q0), (.int q1), (.int q2), (.int q3), (.int q4)] maxLocals)) t := fun t k => c18 t (by
    show Steps p.tables e below (T17.setTop (mkF m 104 #[.val (.int q0), .val (.int q1), .val (.int q2), .val (.int q3), .val (.int q4), .val (.long aa), .second, .val (.long bb), .second, .val (.long cc), .second, .val (.long tt), .second, .val (.ref ob), .unset, .unset, .unset, .unset, .unset, .unset, .unset, .unset, .unset, .unset, .unset, .unset] [(.double rs)])) _
    refine XS.dstore X17.here hx rfl (hb hby at_104) rfl (l' := #[.val (.int q0), .val (.int q1), .val (.int q2), .val (.int q3), .val (.int q4), .val (.long aa), .second, .val (.long bb), .second, .val (.long cc), .second, .val (.long tt), .second, .val (.ref ob), .val (.double rs), .second, .unset, .unset, .unset, .unset, .unset, .unset, .unset, .unset, .unset, .unset]) rfl ?_
    show Steps p.tables e below (T17.setTop (mkF m 106 #[.val (.int q0), .val (.int q1), .val (.int q2), .val (.int q3), .val (.int q4), .val (.long aa), .second, .val (.long bb), .second, .val (.long cc), .second, .val (.long tt), .second, .val (.ref ob), .val (.double rs), .second, .unset, .unset, .unset, .unset, .unset, .unset, .unset, .unset, .unset, .unset] [])) _
    refine XS.dload X17.here hx rfl (hb hby at_106) rfl ?_
    show Steps p.tables e below (T17.setTop (mkF m 108 #[.val (.int q0), .val (.int q1), .val (.int q2), .val (.int q3), .val (.int q4), .val (.long aa), .second, .val (.long bb), .second, .val (.long cc), .second, .val (.long tt), .second, .val (.ref ob), .val (.double rs), .second, .unset, .unset, .unset, .unset, .unset, .unset, .unset, .unset, .unset, .unset] [(.double rs)])) _
    refine XS.dconst0 X17.here hx rfl (hb hby at_108) rfl ?_
    show Steps p.tables e below (T17.setTop (mkF m 109 #[.val (.int q0), .val (.int q1), .val (.int q2), .val (.int q3), .val (.int q4), .val (.long aa), .second, .val (.long bb), .second, .val (.long cc), .second, .val (.long tt), .second, .val (.ref ob), .val (.double rs), .second, .unset, .unset, .unset, .unset, .unset, .unset, .unset, .unset, .unset, .unset] [(.double FP.dconst0), (.double rs)])) _
    refine XS.dcmpS X17.here hx rfl (hb hby at_109) rfl hk109 ?_
    show Steps p.tables e below (T17.setTop (mkF m 110 #[.val (.int q0), .val (.int q1), .val (.int q2), .val (.int q3), .val (.int q4), .val (.long aa), .second, .val (.long bb), .second, .val (.long cc), .second, .val (.long tt), .second, .val (.ref ob), .val (.double rs), .second, .unset, .unset, .unset, .unset, .unset, .unset, .unset, .unset, .unset, .unset] [(.int k109)])) _
    refine XS.ifNo X17.here hx rfl (hb hby at_110) rfl (XT.i0_lt_f v109) ?_
    show Steps p.tables e below (T17.setTop (mkF m 113 #[.val (.int q0), .val (.int q1), .val (.int q2), .val (.int q3), .val (.int q4), .val (.long aa), .second, .val (.long bb), .second, .val (.long cc), .second, .val (.long tt), .second, .val (.ref ob), .val (.double rs), .second, .unset, .unset, .unset, .unset, .unset, .unset, .unset, .unset, .unset, .unset] [])) _
    refine XS.dload X17.here hx rfl (hb hby at_113) rfl ?_
    show Steps p.tables e below (T17.setTop (mkF m 115 #[.val (.int q0), .val (.int q1), .val (.int q2), .val (.int q3), .val (.int q4), .val (.long aa), .second, .val (.long bb), .second, .val (.long cc), .second, .val (.long tt), .second, .val (.ref ob), .val (.double rs), .second, .unset, .unset, .unset, .unset, .unset, .unset, .unset, .unset, .unset, .unset] [(.double rs)])) _
    refine XS.dconst1 X17.here hx rfl (hb hby at_115) rfl ?_
    show Steps p.tables e below (T17.setTop (mkF m 116 #[.val (.int q0), .val (.int q1), .val (.int q2), .val (.int q3), .val (.int q4), .val (.long aa), .second, .val (.long bb), .second, .val (.long cc), .second, .val (.long tt), .second, .val (.ref ob), .val (.double rs), .second, .unset, .unset, .unset, .unset, .unset, .unset, .unset, .unset, .unset, .unset] [(.double FP.dconst1), (.double rs)])) _
    refine XS.dcmpS X17.here hx rfl (hb hby at_116) rfl hk116 ?_
    show Steps p.tables e below (T17.setTop (mkF m 117 #[.val (.int q0), .val (.int q1), .val (.int q2), .val (.int q3), .val (.int q4), .val (.long aa), .second, .val (.long bb), .second, .val (.long cc), .second, .val (.long tt), .second, .val (.ref ob), .val (.double rs), .second, .unset, .unset, .unset, .unset, .unset, .unset, .unset, .unset, .unset, .unset] [(.int k116)])) _
    refine XS.ifYes X17.here hx rfl (pc0 := 117) (pc' := 122) rfl (hb hby at_117) rfl (XT.i0_le_t v116) (by decide) (by decide) ?_
    show Steps p.tables e below (T17.setTop (mkF m 122 #[.val (.int q0), .val (.int q1), .val (.int q2), .val (.int q3), .val (.int q4), .val (.long aa), .second, .val (.long bb), .second, .val (.long cc), .second, .val (.long tt), .second, .val (.ref ob), .val (.double rs), .second, .unset, .unset, .unset, .unset, .unset, .unset, .unset, .unset, .unset, .unset] [])) _
    refine XT.lload X17.here hx rfl (hb hby at_122) rfl ?_
    show Steps p.tables e below (T17.setTop (mkF m 124 #[.val (.int q0), .val (.int q1), .val (.int q2), .val (.int q3), .val (.int q4), .val (.long aa), .second, .val (.long bb), .second, .val (.long cc), .second, .val (.long tt), .second, .val (.ref ob), .val (.double rs), .second, .unset, .unset, .unset, .unset, .unset, .unset, .unset, .unset, .unset, .unset] [(.long tt)])) _
    refine XT.lload X17.here hx rfl (hb hby at_124) rfl ?_
    show Steps p.tables e below (T17.setTop (mkF m 126 #[.val (.int q0), .val (.int q1), .val (.int q2), .val (.int q3), .val (.int q4), .val (.long aa), .second, .val (.long bb), .second, .val (.long cc), .second, .val (.long tt), .second, .val (.ref ob), .val (.double rs), .second, .unset, .unset, .unset, .unset, .unset, .unset, .unset, .unset, .unset, .unset] [(.long aa), (.long tt)])) _
    refine XT.lcmp X17.here hx rfl (hb hby at_126) rfl ?_
    show Steps p.tables e below (T17.setTop (mkF m 127 #[.val (.int q0), .val (.int q1), .val (.int q2), .val (.int q3), .val (.int q4), .val (.long aa), .second, .val (.long bb), .second, .val (.long cc), .second, .val (.long tt), .second, .val (.ref ob), .val (.double rs), .second, .unset, .unset, .unset, .unset, .unset, .unset, .unset, .unset, .unset, .unset] [(.int (XT.cmpL tt aa))])) _
    exact k)
  by_cases q127 : tt < aa
  · skip
    have r127 := lt64.mp q127
    have hr0 : rs = FP.dconst1 := by rcases hrs with ⟨_, q⟩ | ⟨q, _⟩ | ⟨q, _⟩ | ⟨q, _⟩ <;> first | exact q | exact absurd r127 q
    obtain ⟨k133, hk133⟩ : ∃ v : Int32, cmpValue (FP.dcmp rs FP.dconst1) .l = v := ⟨_, rfl⟩
    have e133 : k133 = 0 := by rw [← hk133, hr0]; exact cmp_eq (notNan DS.one.1) (notNan DS.one.1) rfl .l
    have c20 : ∀ t, Steps p.tables e below (T17.setTop (mkF m 142 #[.val (.int q0), .val (.int q1), .val (.int q2), .val (.int q3), .val (.int q4), .val (.long aa), .second, .val (.long bb), .second, .val (.long cc), .second, .val (.long tt), .second, .val (.ref ob), .val (.double rs), .second, .unset, .unset, .unset, .unset, .unset, .unset, .unset, .unset, .unset, .unset] [(.int (1 : Int32))])) t → Steps p.tables e below (s₁.setTop (entryFrame m #[(.int q0), (.int q1), (.int q2), (.int q3), (.int q4)] maxLocals)) t := fun t k => c19 t (by
      show Steps p.tables e below (T17.setTop (mkF m 127 #[.val (.int q0), .val (.int q1), .val (.int q2), .val (.int q3), .val (.int q4), .val (.long aa), .second, .val (.long bb), .second, .val (.long cc), .second, .val (.long tt), .second, .val (.ref ob), .val (.double rs), .second, .unset, .unset, .unset, .unset, .unset, .unset, .unset, .unset, .unset, .unset] [(.int (XT.cmpL tt aa))])) _
      refine XS.ifNo X17.here hx rfl (hb hby at_127) rfl (XT.ll_ge_f q127) ?_
      show Steps p.tables e below (T17.setTop (mkF m 130 #[.val (.int q0), .val (.int q1), .val (.int q2), .val (.int q3), .val (.int q4), .val (.long aa), .second, .val (.long bb), .second, .val (.long cc), .second, .val (.long tt), .second, .val (.ref ob), .val (.double rs), .second, .unset, .unset, .unset, .unset, .unset, .unset, .unset, .unset, .unset, .unset] [])) _
      refine XS.dload X17.here hx rfl (hb hby at_130) rfl ?_
      show Steps p.tables e below (T17.setTop (mkF m 132 #[.val (.int q0), .val (.int q1), .val (.int q2), .val (.int q3), .val (.int q4), .val (.long aa), .second, .val (.long bb), .second, .val (.long cc), .second, .val (.long tt), .second, .val (.ref ob), .val (.double rs), .second, .unset, .unset, .unset, .unset, .unset, .unset, .unset, .unset, .unset, .unset] [(.double rs)])) _
      refine XS.dconst1 X17.here hx rfl (hb hby at_132) rfl ?_
      show Steps p.tables e below (T17.setTop (mkF m 133 #[.val (.int q0), .val (.int q1), .val (.int q2), .val (.int q3), .val (.int q4), .val (.long aa), .second, .val (.long bb), .second, .val (.long cc), .second, .val (.long tt), .second, .val (.ref ob), .val (.double rs), .second, .unset, .unset, .unset, .unset, .unset, .unset, .unset, .unset, .unset, .unset] [(.double FP.dconst1), (.double rs)])) _
      refine XS.dcmpS X17.here hx rfl (hb hby at_133) rfl hk133 ?_
      show Steps p.tables e below (T17.setTop (mkF m 134 #[.val (.int q0), .val (.int q1), .val (.int q2), .val (.int q3), .val (.int q4), .val (.long aa), .second, .val (.long bb), .second, .val (.long cc), .second, .val (.long tt), .second, .val (.ref ob), .val (.double rs), .second, .unset, .unset, .unset, .unset, .unset, .unset, .unset, .unset, .unset, .unset] [(.int k133)])) _
      refine XS.ifNo X17.here hx rfl (hb hby at_134) rfl (XT.i0_ne_f e133) ?_
      show Steps p.tables e below (T17.setTop (mkF m 137 #[.val (.int q0), .val (.int q1), .val (.int q2), .val (.int q3), .val (.int q4), .val (.long aa), .second, .val (.long bb), .second, .val (.long cc), .second, .val (.long tt), .second, .val (.ref ob), .val (.double rs), .second, .unset, .unset, .unset, .unset, .unset, .unset, .unset, .unset, .unset, .unset] [])) _
      refine XS.iconst X17.here hx rfl (hb hby at_137) ?_
      show Steps p.tables e below (T17.setTop (mkF m 138 #[.val (.int q0), .val (.int q1), .val (.int q2), .val (.int q3), .val (.int q4), .val (.long aa), .second, .val (.long bb), .second, .val (.long cc), .second, .val (.long tt), .second, .val (.ref ob), .val (.double rs), .second, .unset, .unset, .unset, .unset, .unset, .unset, .unset, .unset, .unset, .unset] [(.int (1 : Int32))])) _
      refine XS.goto X17.here hx rfl (pc0 := 138) (pc' := 142) rfl (hb hby at_138) (by decide) (by decide) ?_
      show Steps p.tables e below (T17.setTop (mkF m 142 #[.val (.int q0), .val (.int q1), .val (.int q2), .val (.int q3), .val (.int q4), .val (.long aa), .second, .val (.long bb), .second, .val (.long cc), .second, .val (.long tt), .second, .val (.ref ob), .val (.double rs), .second, .unset, .unset, .unset, .unset, .unset, .unset, .unset, .unset, .unset, .unset] [(.int (1 : Int32))])) _
      exact k)
    obtain ⟨fs, hr, hrun, hended, hW, hsame⟩ := X17.leave (v := (some (.int (1 : Int32)))) (fun h => by rw [Bd.returns] at h; cases h)
    refine ⟨_, _, pre0 _ (c20 _ (retN X17 hx (t := .boolean) Bd.returns (by simp) (hb hby at_142) hr)), hrun, hended, _, _, rfl, ?_, ⟨_, rfl⟩, hW, hsame.mono (by decide) (by decide)⟩
    show Q_0 Z q0 q1 q2 q3 q4 h0 n0 _ T17.heap _
    rw [e17]
    exact ⟨rfl, M17⟩
  · skip
    have r127 : ¬ tt.toInt < aa.toInt := fun q => q127 (lt64.mpr q)
    have c21 : ∀ t, Steps p.tables e below (T17.setTop (mkF m 148 #[.val (.int q0), .val (.int q1), .val (.int q2), .val (.int q3), .val (.int q4), .val (.long aa), .second, .val (.long bb), .second, .val (.long cc), .second, .val (.long tt), .second, .val (.ref ob), .val (.double rs), .second, .unset, .unset, .unset, .unset, .unset, .unset, .unset, .unset, .unset, .unset] [(.int (XT.cmpL tt cc))])) t → Steps p.tables e below (s₁.setTop (entryFrame m #[(.int q0), (.int q1), (.int q2), (.int q3), (.int q4)] maxLocals)) t := fun t k => c19 t (by
      show Steps p.tables e below (T17.setTop (mkF m 127 #[.val (.int q0), .val (.int q1), .val (.int q2), .val (.int q3), .val (.int q4), .val (.long aa), .second, .val (.long bb), .second, .val (.long cc), .second, .val (.long tt), .second, .val (.ref ob), .val (.double rs), .second, .unset, .unset, .unset, .unset, .unset, .unset, .unset, .unset, .unset, .unset] [(.int (XT.cmpL tt aa))])) _
      refine XS.ifYes X17.here hx rfl (pc0 := 127) (pc' := 143) rfl (hb hby at_127) rfl (XT.ll_ge_t q127) (by decide) (by decide) ?_
      show Steps p.tables e below (T17.setTop (mkF m 143 #[.val (.int q0), .val (.int q1), .val (.int q2), .val (.int q3), .val (.int q4), .val (.long aa), .second, .val (.long bb), .second, .val (.long cc), .second, .val (.long tt), .second, .val (.ref ob), .val (.double rs), .second, .unset, .unset, .unset, .unset, .unset, .unset, .unset, .unset, .unset, .unset] [])) _
      refine XT.lload X17.here hx rfl (hb hby at_143) rfl ?_
      show Steps p.tables e below (T17.setTop (mkF m 145 #[.val (.int q0), .val (.int q1), .val (.int q2), .val (.int q3), .val (.int q4), .val (.long aa), .second, .val (.long bb), .second, .val (.long cc), .second, .val (.long tt), .second, .val (.ref ob), .val (.double rs), .second, .unset, .unset, .unset, .unset, .unset, .unset, .unset, .unset, .unset, .unset] [(.long tt)])) _
      refine XT.lload X17.here hx rfl (hb hby at_145) rfl ?_
      show Steps p.tables e below (T17.setTop (mkF m 147 #[.val (.int q0), .val (.int q1), .val (.int q2), .val (.int q3), .val (.int q4), .val (.long aa), .second, .val (.long bb), .second, .val (.long cc), .second, .val (.long tt), .second, .val (.ref ob), .val (.double rs), .second, .unset, .unset, .unset, .unset, .unset, .unset, .unset, .unset, .unset, .unset] [(.long cc), (.long tt)])) _
      refine XT.lcmp X17.here hx rfl (hb hby at_147) rfl ?_
      show Steps p.tables e below (T17.setTop (mkF m 148 #[.val (.int q0), .val (.int q1), .val (.int q2), .val (.int q3), .val (.int q4), .val (.long aa), .second, .val (.long bb), .second, .val (.long cc), .second, .val (.long tt), .second, .val (.ref ob), .val (.double rs), .second, .unset, .unset, .unset, .unset, .unset, .unset, .unset, .unset, .unset, .unset] [(.int (XT.cmpL tt cc))])) _
      exact k)
    by_cases q148 : tt < cc
    · skip
      have r148 := lt64.mp q148
      obtain ⟨wd, hwd⟩ : ∃ v : Int64, v = (cc - aa) := ⟨_, rfl⟩
      have c22 : ∀ t, Steps p.tables e below (T17.setTop (mkF m 171 #[.val (.int q0), .val (.int q1), .val (.int q2), .val (.int q3), .val (.int q4), .val (.long aa), .second, .val (.long bb), .second, .val (.long cc), .second, .val (.long tt), .second, .val (.ref ob), .val (.double rs), .second, .val (.long wd), .second, .unset, .unset, .unset, .unset, .unset, .unset, .unset, .unset] [])) t → Steps p.tables e below (s₁.setTop (entryFrame m #[(.int q0), (.int q1), (.int q2), (.int q3), (.int q4)] maxLocals)) t := fun t k => c21 t (by
        rw [hwd] at k
        show Steps p.tables e below (T17.setTop (mkF m 148 #[.val (.int q0), .val (.int q1), .val (.int q2), .val (.int q3), .val (.int q4), .val (.long aa), .second, .val (.long bb), .second, .val (.long cc), .second, .val (.long tt), .second, .val (.ref ob), .val (.double rs), .second, .unset, .unset, .unset, .unset, .unset, .unset, .unset, .unset, .unset, .unset] [(.int (XT.cmpL tt cc))])) _
        refine XS.ifYes X17.here hx rfl (pc0 := 148) (pc' := 164) rfl (hb hby at_148) rfl (XT.ll_lt_t q148) (by decide) (by decide) ?_
        show Steps p.tables e below (T17.setTop (mkF m 164 #[.val (.int q0), .val (.int q1), .val (.int q2), .val (.int q3), .val (.int q4), .val (.long aa), .second, .val (.long bb), .second, .val (.long cc), .second, .val (.long tt), .second, .val (.ref ob), .val (.double rs), .second, .unset, .unset, .unset, .unset, .unset, .unset, .unset, .unset, .unset, .unset] [])) _
        refine XT.lload X17.here hx rfl (hb hby at_164) rfl ?_
        show Steps p.tables e below (T17.setTop (mkF m 166 #[.val (.int q0), .val (.int q1), .val (.int q2), .val (.int q3), .val (.int q4), .val (.long aa), .second, .val (.long bb), .second, .val (.long cc), .second, .val (.long tt), .second, .val (.ref ob), .val (.double rs), .second, .unset, .unset, .unset, .unset, .unset, .unset, .unset, .unset, .unset, .unset] [(.long cc)])) _
        refine XT.lload X17.here hx rfl (hb hby at_166) rfl ?_
        show Steps p.tables e below (T17.setTop (mkF m 168 #[.val (.int q0), .val (.int q1), .val (.int q2), .val (.int q3), .val (.int q4), .val (.long aa), .second, .val (.long bb), .second, .val (.long cc), .second, .val (.long tt), .second, .val (.ref ob), .val (.double rs), .second, .unset, .unset, .unset, .unset, .unset, .unset, .unset, .unset, .unset, .unset] [(.long aa), (.long cc)])) _
        refine XT.lsub X17.here hx rfl (hb hby at_168) rfl ?_
        show Steps p.tables e below (T17.setTop (mkF m 169 #[.val (.int q0), .val (.int q1), .val (.int q2), .val (.int q3), .val (.int q4), .val (.long aa), .second, .val (.long bb), .second, .val (.long cc), .second, .val (.long tt), .second, .val (.ref ob), .val (.double rs), .second, .unset, .unset, .unset, .unset, .unset, .unset, .unset, .unset, .unset, .unset] [(.long (cc - aa))])) _
        refine XT.lstore X17.here hx rfl (hb hby at_169) rfl (l' := #[.val (.int q0), .val (.int q1), .val (.int q2), .val (.int q3), .val (.int q4), .val (.long aa), .second, .val (.long bb), .second, .val (.long cc), .second, .val (.long tt), .second, .val (.ref ob), .val (.double rs), .second, .val (.long (cc - aa)), .second, .unset, .unset, .unset, .unset, .unset, .unset, .unset, .unset]) rfl ?_
        show Steps p.tables e below (T17.setTop (mkF m 171 #[.val (.int q0), .val (.int q1), .val (.int q2), .val (.int q3), .val (.int q4), .val (.long aa), .second, .val (.long bb), .second, .val (.long cc), .second, .val (.long tt), .second, .val (.ref ob), .val (.double rs), .second, .val (.long (cc - aa)), .second, .unset, .unset, .unset, .unset, .unset, .unset, .unset, .unset] [])) _
        exact k)
      have vw : wd.toInt = cc.toInt - aa.toInt := by rw [hwd]; exact Kit.i64_sub (by omega) (by omega)
      have c23 : ∀ t, Steps p.tables e below (T17.setTop (mkF m 176 #[.val (.int q0), .val (.int q1), .val (.int q2), .val (.int q3), .val (.int q4), .val (.long aa), .second, .val (.long bb), .second, .val (.long cc), .second, .val (.long tt), .second, .val (.ref ob), .val (.double rs), .second, .val (.long wd), .second, .unset, .unset, .unset, .unset, .unset, .unset, .unset, .unset] [(.int (XT.cmpL tt bb))])) t → Steps p.tables e below (s₁.setTop (entryFrame m #[(.int q0), (.int q1), (.int q2), (.int q3), (.int q4)] maxLocals)) t := fun t k => c22 t (by
        show Steps p.tables e below (T17.setTop (mkF m 171 #[.val (.int q0), .val (.int q1), .val (.int q2), .val (.int q3), .val (.int q4), .val (.long aa), .second, .val (.long bb), .second, .val (.long cc), .second, .val (.long tt), .second, .val (.ref ob), .val (.double rs), .second, .val (.long wd), .second, .unset, .unset, .unset, .unset, .unset, .unset, .unset, .unset] [])) _
        refine XT.lload X17.here hx rfl (hb hby at_171) rfl ?_
        show Steps p.tables e below (T17.setTop (mkF m 173 #[.val (.int q0), .val (.int q1), .val (.int q2), .val (.int q3), .val (.int q4), .val (.long aa), .second, .val (.long bb), .second, .val (.long cc), .second, .val (.long tt), .second, .val (.ref ob), .val (.double rs), .second, .val (.long wd), .second, .unset, .unset, .unset, .unset, .unset, .unset, .unset, .unset] [(.long tt)])) _
        refine XT.lload X17.here hx rfl (hb hby at_173) rfl ?_
        show Steps p.tables e below (T17.setTop (mkF m 175 #[.val (.int q0), .val (.int q1), .val (.int q2), .val (.int q3), .val (.int q4), .val (.long aa), .second, .val (.long bb), .second, .val (.long cc), .second, .val (.long tt), .second, .val (.ref ob), .val (.double rs), .second, .val (.long wd), .second, .unset, .unset, .unset, .unset, .unset, .unset, .unset, .unset] [(.long bb), (.long tt)])) _
        refine XT.lcmp X17.here hx rfl (hb hby at_175) rfl ?_
        show Steps p.tables e below (T17.setTop (mkF m 176 #[.val (.int q0), .val (.int q1), .val (.int q2), .val (.int q3), .val (.int q4), .val (.long aa), .second, .val (.long bb), .second, .val (.long cc), .second, .val (.long tt), .second, .val (.ref ob), .val (.double rs), .second, .val (.long wd), .second, .unset, .unset, .unset, .unset, .unset, .unset, .unset, .unset] [(.int (XT.cmpL tt bb))])) _
        exact k)
      by_cases q176 : tt < bb
      · skip
        have r176 := lt64.mp q176
        obtain ⟨u1, u2, u3, u4⟩ := rise_b r127 r176 hb_
        obtain ⟨ri, hri⟩ : ∃ v : Int64, v = (tt - aa) := ⟨_, rfl⟩
        have c24 : ∀ t, Steps p.tables e below (T17.setTop (mkF m 186 #[.val (.int q0), .val (.int q1), .val (.int q2), .val (.int q3), .val (.int q4), .val (.long aa), .second, .val (.long bb), .second, .val (.long cc), .second, .val (.long tt), .second, .val (.ref ob), .val (.double rs), .second, .val (.long wd), .second, .val (.long ri), .second, .unset, .unset, .unset, .unset, .unset, .unset] [])) t → Steps p.tables e below (s₁.setTop (entryFrame m #[(.int q0), (.int q1), (.int q2), (.int q3), (.int q4)] maxLocals)) t := fun t k => c23 t (by
          rw [hri] at k
          show Steps p.tables e below (T17.setTop (mkF m 176 #[.val (.int q0), .val (.int q1), .val (.int q2), .val (.int q3), .val (.int q4), .val (.long aa), .second, .val (.long bb), .second, .val (.long cc), .second, .val (.long tt), .second, .val (.ref ob), .val (.double rs), .second, .val (.long wd), .second, .unset, .unset, .unset, .unset, .unset, .unset, .unset, .unset] [(.int (XT.cmpL tt bb))])) _
          refine XS.ifNo X17.here hx rfl (hb hby at_176) rfl (XT.ll_ge_f q176) ?_
          show Steps p.tables e below (T17.setTop (mkF m 179 #[.val (.int q0), .val (.int q1), .val (.int q2), .val (.int q3), .val (.int q4), .val (.long aa), .second, .val (.long bb), .second, .val (.long cc), .second, .val (.long tt), .second, .val (.ref ob), .val (.double rs), .second, .val (.long wd), .second, .unset, .unset, .unset, .unset, .unset, .unset, .unset, .unset] [])) _
          refine XT.lload X17.here hx rfl (hb hby at_179) rfl ?_
          show Steps p.tables e below (T17.setTop (mkF m 181 #[.val (.int q0), .val (.int q1), .val (.int q2), .val (.int q3), .val (.int q4), .val (.long aa), .second, .val (.long bb), .second, .val (.long cc), .second, .val (.long tt), .second, .val (.ref ob), .val (.double rs), .second, .val (.long wd), .second, .unset, .unset, .unset, .unset, .unset, .unset, .unset, .unset] [(.long tt)])) _
          refine XT.lload X17.here hx rfl (hb hby at_181) rfl ?_
          show Steps p.tables e below (T17.setTop (mkF m 183 #[.val (.int q0), .val (.int q1), .val (.int q2), .val (.int q3), .val (.int q4), .val (.long aa), .second, .val (.long bb), .second, .val (.long cc), .second, .val (.long tt), .second, .val (.ref ob), .val (.double rs), .second, .val (.long wd), .second, .unset, .unset, .unset, .unset, .unset, .unset, .unset, .unset] [(.long aa), (.long tt)])) _
          refine XT.lsub X17.here hx rfl (hb hby at_183) rfl ?_
          show Steps p.tables e below (T17.setTop (mkF m 184 #[.val (.int q0), .val (.int q1), .val (.int q2), .val (.int q3), .val (.int q4), .val (.long aa), .second, .val (.long bb), .second, .val (.long cc), .second, .val (.long tt), .second, .val (.ref ob), .val (.double rs), .second, .val (.long wd), .second, .unset, .unset, .unset, .unset, .unset, .unset, .unset, .unset] [(.long (tt - aa))])) _
          refine XT.lstore X17.here hx rfl (hb hby at_184) rfl (l' := #[.val (.int q0), .val (.int q1), .val (.int q2), .val (.int q3), .val (.int q4), .val (.long aa), .second, .val (.long bb), .second, .val (.long cc), .second, .val (.long tt), .second, .val (.ref ob), .val (.double rs), .second, .val (.long wd), .second, .val (.long (tt - aa)), .second, .unset, .unset, .unset, .unset, .unset, .unset]) rfl ?_
          show Steps p.tables e below (T17.setTop (mkF m 186 #[.val (.int q0), .val (.int q1), .val (.int q2), .val (.int q3), .val (.int q4), .val (.long aa), .second, .val (.long bb), .second, .val (.long cc), .second, .val (.long tt), .second, .val (.ref ob), .val (.double rs), .second, .val (.long wd), .second, .val (.long (tt - aa)), .second, .unset, .unset, .unset, .unset, .unset, .unset] [])) _
          exact k)
        have vr : ri.toInt = tt.toInt - aa.toInt := by rw [hri]; exact Kit.i64_sub (by omega) (by omega)
        obtain ⟨de, hde⟩ : ∃ v : Int64, v = (wd * (bb - aa)) := ⟨_, rfl⟩
        have c25 : ∀ t, Steps p.tables e below (T17.setTop (mkF m 196 #[.val (.int q0), .val (.int q1), .val (.int q2), .val (.int q3), .val (.int q4), .val (.long aa), .second, .val (.long bb), .second, .val (.long cc), .second, .val (.long tt), .second, .val (.ref ob), .val (.double rs), .second, .val (.long wd), .second, .val (.long ri), .second, .val (.long de), .second, .unset, .unset, .unset, .unset] [])) t → Steps p.tables e below (s₁.setTop (entryFrame m #[(.int q0), (.int q1), (.int q2), (.int q3), (.int q4)] maxLocals)) t := fun t k => c24 t (by
          rw [hde] at k
          show Steps p.tables e below (T17.setTop (mkF m 186 #[.val (.int q0), .val (.int q1), .val (.int q2), .val (.int q3), .val (.int q4), .val (.long aa), .second, .val (.long bb), .second, .val (.long cc), .second, .val (.long tt), .second, .val (.ref ob), .val (.double rs), .second, .val (.long wd), .second, .val (.long ri), .second, .unset, .unset, .unset, .unset, .unset, .unset] [])) _
          refine XT.lload X17.here hx rfl (hb hby at_186) rfl ?_
          show Steps p.tables e below (T17.setTop (mkF m 188 #[.val (.int q0), .val (.int q1), .val (.int q2), .val (.int q3), .val (.int q4), .val (.long aa), .second, .val (.long bb), .second, .val (.long cc), .second, .val (.long tt), .second, .val (.ref ob), .val (.double rs), .second, .val (.long wd), .second, .val (.long ri), .second, .unset, .unset, .unset, .unset, .unset, .unset] [(.long wd)])) _
          refine XT.lload X17.here hx rfl (hb hby at_188) rfl ?_
          show Steps p.tables e below (T17.setTop (mkF m 190 #[.val (.int q0), .val (.int q1), .val (.int q2), .val (.int q3), .val (.int q4), .val (.long aa), .second, .val (.long bb), .second, .val (.long cc), .second, .val (.long tt), .second, .val (.ref ob), .val (.double rs), .second, .val (.long wd), .second, .val (.long ri), .second, .unset, .unset, .unset, .unset, .unset, .unset] [(.long bb), (.long wd)])) _
          refine XT.lload X17.here hx rfl (hb hby at_190) rfl ?_
          show Steps p.tables e below (T17.setTop (mkF m 192 #[.val (.int q0), .val (.int q1), .val (.int q2), .val (.int q3), .val (.int q4), .val (.long aa), .second, .val (.long bb), .second, .val (.long cc), .second, .val (.long tt), .second, .val (.ref ob), .val (.double rs), .second, .val (.long wd), .second, .val (.long ri), .second, .unset, .unset, .unset, .unset, .unset, .unset] [(.long aa), (.long bb), (.long wd)])) _
          refine XT.lsub X17.here hx rfl (hb hby at_192) rfl ?_
          show Steps p.tables e below (T17.setTop (mkF m 193 #[.val (.int q0), .val (.int q1), .val (.int q2), .val (.int q3), .val (.int q4), .val (.long aa), .second, .val (.long bb), .second, .val (.long cc), .second, .val (.long tt), .second, .val (.ref ob), .val (.double rs), .second, .val (.long wd), .second, .val (.long ri), .second, .unset, .unset, .unset, .unset, .unset, .unset] [(.long (bb - aa)), (.long wd)])) _
          refine XT.lmul X17.here hx rfl (hb hby at_193) rfl ?_
          show Steps p.tables e below (T17.setTop (mkF m 194 #[.val (.int q0), .val (.int q1), .val (.int q2), .val (.int q3), .val (.int q4), .val (.long aa), .second, .val (.long bb), .second, .val (.long cc), .second, .val (.long tt), .second, .val (.ref ob), .val (.double rs), .second, .val (.long wd), .second, .val (.long ri), .second, .unset, .unset, .unset, .unset, .unset, .unset] [(.long (wd * (bb - aa)))])) _
          refine XT.lstore X17.here hx rfl (hb hby at_194) rfl (l' := #[.val (.int q0), .val (.int q1), .val (.int q2), .val (.int q3), .val (.int q4), .val (.long aa), .second, .val (.long bb), .second, .val (.long cc), .second, .val (.long tt), .second, .val (.ref ob), .val (.double rs), .second, .val (.long wd), .second, .val (.long ri), .second, .val (.long (wd * (bb - aa))), .second, .unset, .unset, .unset, .unset]) rfl ?_
          show Steps p.tables e below (T17.setTop (mkF m 196 #[.val (.int q0), .val (.int q1), .val (.int q2), .val (.int q3), .val (.int q4), .val (.long aa), .second, .val (.long bb), .second, .val (.long cc), .second, .val (.long tt), .second, .val (.ref ob), .val (.double rs), .second, .val (.long wd), .second, .val (.long ri), .second, .val (.long (wd * (bb - aa))), .second, .unset, .unset, .unset, .unset] [])) _
          exact k)
        have vd : de.toInt = (cc.toInt - aa.toInt) * (bb.toInt - aa.toInt) := by
          have s1 := Kit.i64_sub (x := bb) (y := aa) (by omega) (by omega)
          rw [hde, Kit.i64_mul (by rw [vw, s1]; omega) (by rw [vw, s1]; omega), vw, s1]
        have vrr : (ri * ri).toInt = (tt.toInt - aa.toInt) * (tt.toInt - aa.toInt) := by rw [Kit.i64_mul (by rw [vr]; omega) (by rw [vr]; omega), vr]
        have vn : (de - ri * ri).toInt = (cc.toInt - aa.toInt) * (bb.toInt - aa.toInt) - (tt.toInt - aa.toInt) * (tt.toInt - aa.toInt) := by rw [Kit.i64_sub (by omega) (by omega), vd, vrr]
        obtain ⟨x_, y_, dx, dy, hr0⟩ : ∃ x y, DS ((tt.toInt - aa.toInt) * (tt.toInt - aa.toInt)) 2 x ∧ DS ((cc.toInt - aa.toInt) * (bb.toInt - aa.toInt)) 2 y ∧ rs = FP.dsub FP.dconst1 (FP.ddiv x y) := by rcases hrs with ⟨q, _⟩ | ⟨_, q, _⟩ | ⟨_, _, _, q⟩ | ⟨_, _, q, _⟩ <;> first | exact absurd q r127 | exact absurd r148 q | exact absurd r176 q | exact q
        obtain ⟨d204, hd204⟩ : ∃ v : UInt64, FP.l2d (de - (ri * ri)) = v := ⟨_, rfl⟩
        have D204 : DS ((cc.toInt - aa.toInt) * (bb.toInt - aa.toInt) - (tt.toInt - aa.toInt) * (tt.toInt - aa.toInt)) 0 d204 := by rw [← hd204, ← vn]; exact DS.l2d (by omega)
        obtain ⟨d207, hd207⟩ : ∃ v : UInt64, FP.l2d de = v := ⟨_, rfl⟩
        have D207 : DS ((cc.toInt - aa.toInt) * (bb.toInt - aa.toInt)) 0 d207 := by rw [← hd207, ← vd]; exact DS.l2d (by omega)
        obtain ⟨c1, c2, c3, c4⟩ := close_k dx dy D204 D207 u1 u2 u3
        rw [← hr0] at c2 c3 c4
        obtain ⟨d208, hd208⟩ : ∃ v : UInt64, FP.ddiv d204 d207 = v := ⟨_, rfl⟩
        rw [hd208] at c1 c2 c3 c4
        obtain ⟨d215, hd215⟩ : ∃ v : UInt64, FP.dsub rs d208 = v := ⟨_, rfl⟩
        rw [hd215] at c2 c3 c4
        obtain ⟨k223, hk223⟩ : ∃ v : Int32, cmpValue (FP.dcmp d215 (4427486594234968593 : UInt64)) .g = v := ⟨_, rfl⟩
        have v223 : ¬ 0 < k223 := hk223 ▸ tol_k c2 c3 .g
        obtain ⟨d229, hd229⟩ : ∃ v : UInt64, FP.dneg d215 = v := ⟨_, rfl⟩
        have c5 : Core.DFin d229 := hd229 ▸ fin_dneg c2
        have c6 : Le d229 1 45 := hd229 ▸ c4.neg
        obtain ⟨k233, hk233⟩ : ∃ v : Int32, cmpValue (FP.dcmp d229 (4427486594234968593 : UInt64)) .g = v := ⟨_, rfl⟩
        have v233 : ¬ 0 < k233 := hk233 ▸ tol_k c5 c6 .g
        have c26 : ∀ t, Steps p.tables e below (T17.setTop (mkF m 242 #[.val (.int q0), .val (.int q1), .val (.int q2), .val (.int q3), .val (.int q4), .val (.long aa), .second, .val (.long bb), .second, .val (.long cc), .second, .val (.long tt), .second, .val (.ref ob), .val (.double rs), .second, .val (.long wd), .second, .val (.long ri), .second, .val (.long de), .second, .val (.double d208), .second, .val (.double d215), .second] [(.int (1 : Int32))])) t → Steps p.tables e below (s₁.setTop (entryFrame m #[(.int q0), (.int q1), (.int q2), (.int q3), (.int q4)] maxLocals)) t := fun t k => c25 t (by
          show Steps p.tables e below (T17.setTop (mkF m 196 #[.val (.int q0), .val (.int q1), .val (.int q2), .val (.int q3), .val (.int q4), .val (.long aa), .second, .val (.long bb), .second, .val (.long cc), .second, .val (.long tt), .second, .val (.ref ob), .val (.double rs), .second, .val (.long wd), .second, .val (.long ri), .second, .val (.long de), .second, .unset, .unset, .unset, .unset] [])) _
          refine XT.lload X17.here hx rfl (hb hby at_196) rfl ?_
          show Steps p.tables e below (T17.setTop (mkF m 198 #[.val (.int q0), .val (.int q1), .val (.int q2), .val (.int q3), .val (.int q4), .val (.long aa), .second, .val (.long bb), .second, .val (.long cc), .second, .val (.long tt), .second, .val (.ref ob), .val (.double rs), .second, .val (.long wd), .second, .val (.long ri), .second, .val (.long de), .second, .unset, .unset, .unset, .unset] [(.long de)])) _
          refine XT.lload X17.here hx rfl (hb hby at_198) rfl ?_
          show Steps p.tables e below (T17.setTop (mkF m 200 #[.val (.int q0), .val (.int q1), .val (.int q2), .val (.int q3), .val (.int q4), .val (.long aa), .second, .val (.long bb), .second, .val (.long cc), .second, .val (.long tt), .second, .val (.ref ob), .val (.double rs), .second, .val (.long wd), .second, .val (.long ri), .second, .val (.long de), .second, .unset, .unset, .unset, .unset] [(.long ri), (.long de)])) _
          refine XT.lload X17.here hx rfl (hb hby at_200) rfl ?_
          show Steps p.tables e below (T17.setTop (mkF m 202 #[.val (.int q0), .val (.int q1), .val (.int q2), .val (.int q3), .val (.int q4), .val (.long aa), .second, .val (.long bb), .second, .val (.long cc), .second, .val (.long tt), .second, .val (.ref ob), .val (.double rs), .second, .val (.long wd), .second, .val (.long ri), .second, .val (.long de), .second, .unset, .unset, .unset, .unset] [(.long ri), (.long ri), (.long de)])) _
          refine XT.lmul X17.here hx rfl (hb hby at_202) rfl ?_
          show Steps p.tables e below (T17.setTop (mkF m 203 #[.val (.int q0), .val (.int q1), .val (.int q2), .val (.int q3), .val (.int q4), .val (.long aa), .second, .val (.long bb), .second, .val (.long cc), .second, .val (.long tt), .second, .val (.ref ob), .val (.double rs), .second, .val (.long wd), .second, .val (.long ri), .second, .val (.long de), .second, .unset, .unset, .unset, .unset] [(.long (ri * ri)), (.long de)])) _
          refine XT.lsub X17.here hx rfl (hb hby at_203) rfl ?_
          show Steps p.tables e below (T17.setTop (mkF m 204 #[.val (.int q0), .val (.int q1), .val (.int q2), .val (.int q3), .val (.int q4), .val (.long aa), .second, .val (.long bb), .second, .val (.long cc), .second, .val (.long tt), .second, .val (.ref ob), .val (.double rs), .second, .val (.long wd), .second, .val (.long ri), .second, .val (.long de), .second, .unset, .unset, .unset, .unset] [(.long (de - (ri * ri)))])) _
          refine XS.l2dS X17.here hx rfl (hb hby at_204) rfl hd204 ?_
          show Steps p.tables e below (T17.setTop (mkF m 205 #[.val (.int q0), .val (.int q1), .val (.int q2), .val (.int q3), .val (.int q4), .val (.long aa), .second, .val (.long bb), .second, .val (.long cc), .second, .val (.long tt), .second, .val (.ref ob), .val (.double rs), .second, .val (.long wd), .second, .val (.long ri), .second, .val (.long de), .second, .unset, .unset, .unset, .unset] [(.double d204)])) _
          refine XT.lload X17.here hx rfl (hb hby at_205) rfl ?_
          show Steps p.tables e below (T17.setTop (mkF m 207 #[.val (.int q0), .val (.int q1), .val (.int q2), .val (.int q3), .val (.int q4), .val (.long aa), .second, .val (.long bb), .second, .val (.long cc), .second, .val (.long tt), .second, .val (.ref ob), .val (.double rs), .second, .val (.long wd), .second, .val (.long ri), .second, .val (.long de), .second, .unset, .unset, .unset, .unset] [(.long de), (.double d204)])) _
          refine XS.l2dS X17.here hx rfl (hb hby at_207) rfl hd207 ?_
          show Steps p.tables e below (T17.setTop (mkF m 208 #[.val (.int q0), .val (.int q1), .val (.int q2), .val (.int q3), .val (.int q4), .val (.long aa), .second, .val (.long bb), .second, .val (.long cc), .second, .val (.long tt), .second, .val (.ref ob), .val (.double rs), .second, .val (.long wd), .second, .val (.long ri), .second, .val (.long de), .second, .unset, .unset, .unset, .unset] [(.double d207), (.double d204)])) _
          refine XS.ddivS X17.here hx rfl (hb hby at_208) rfl (hd208 ▸ noNaN_of (notNan c1)) hd208 ?_
          show Steps p.tables e below (T17.setTop (mkF m 209 #[.val (.int q0), .val (.int q1), .val (.int q2), .val (.int q3), .val (.int q4), .val (.long aa), .second, .val (.long bb), .second, .val (.long cc), .second, .val (.long tt), .second, .val (.ref ob), .val (.double rs), .second, .val (.long wd), .second, .val (.long ri), .second, .val (.long de), .second, .unset, .unset, .unset, .unset] [(.double d208)])) _
          refine XS.dstore X17.here hx rfl (hb hby at_209) rfl (l' := #[.val (.int q0), .val (.int q1), .val (.int q2), .val (.int q3), .val (.int q4), .val (.long aa), .second, .val (.long bb), .second, .val (.long cc), .second, .val (.long tt), .second, .val (.ref ob), .val (.double rs), .second, .val (.long wd), .second, .val (.long ri), .second, .val (.long de), .second, .val (.double d208), .second, .unset, .unset]) rfl ?_
          show Steps p.tables e below (T17.setTop (mkF m 211 #[.val (.int q0), .val (.int q1), .val (.int q2), .val (.int q3), .val (.int q4), .val (.long aa), .second, .val (.long bb), .second, .val (.long cc), .second, .val (.long tt), .second, .val (.ref ob), .val (.double rs), .second, .val (.long wd), .second, .val (.long ri), .second, .val (.long de), .second, .val (.double d208), .second, .unset, .unset] [])) _
          refine XS.dload X17.here hx rfl (hb hby at_211) rfl ?_
          show Steps p.tables e below (T17.setTop (mkF m 213 #[.val (.int q0), .val (.int q1), .val (.int q2), .val (.int q3), .val (.int q4), .val (.long aa), .second, .val (.long bb), .second, .val (.long cc), .second, .val (.long tt), .second, .val (.ref ob), .val (.double rs), .second, .val (.long wd), .second, .val (.long ri), .second, .val (.long de), .second, .val (.double d208), .second, .unset, .unset] [(.double rs)])) _
          refine XS.dload X17.here hx rfl (hb hby at_213) rfl ?_
          show Steps p.tables e below (T17.setTop (mkF m 215 #[.val (.int q0), .val (.int q1), .val (.int q2), .val (.int q3), .val (.int q4), .val (.long aa), .second, .val (.long bb), .second, .val (.long cc), .second, .val (.long tt), .second, .val (.ref ob), .val (.double rs), .second, .val (.long wd), .second, .val (.long ri), .second, .val (.long de), .second, .val (.double d208), .second, .unset, .unset] [(.double d208), (.double rs)])) _
          refine XS.dsubS X17.here hx rfl (hb hby at_215) rfl (hd215 ▸ noNaN_of (notNan c2)) hd215 ?_
          show Steps p.tables e below (T17.setTop (mkF m 216 #[.val (.int q0), .val (.int q1), .val (.int q2), .val (.int q3), .val (.int q4), .val (.long aa), .second, .val (.long bb), .second, .val (.long cc), .second, .val (.long tt), .second, .val (.ref ob), .val (.double rs), .second, .val (.long wd), .second, .val (.long ri), .second, .val (.long de), .second, .val (.double d208), .second, .unset, .unset] [(.double d215)])) _
          refine XS.dstore X17.here hx rfl (hb hby at_216) rfl (l' := #[.val (.int q0), .val (.int q1), .val (.int q2), .val (.int q3), .val (.int q4), .val (.long aa), .second, .val (.long bb), .second, .val (.long cc), .second, .val (.long tt), .second, .val (.ref ob), .val (.double rs), .second, .val (.long wd), .second, .val (.long ri), .second, .val (.long de), .second, .val (.double d208), .second, .val (.double d215), .second]) rfl ?_
          show Steps p.tables e below (T17.setTop (mkF m 218 #[.val (.int q0), .val (.int q1), .val (.int q2), .val (.int q3), .val (.int q4), .val (.long aa), .second, .val (.long bb), .second, .val (.long cc), .second, .val (.long tt), .second, .val (.ref ob), .val (.double rs), .second, .val (.long wd), .second, .val (.long ri), .second, .val (.long de), .second, .val (.double d208), .second, .val (.double d215), .second] [])) _
          refine XS.dload X17.here hx rfl (hb hby at_218) rfl ?_
          show Steps p.tables e below (T17.setTop (mkF m 220 #[.val (.int q0), .val (.int q1), .val (.int q2), .val (.int q3), .val (.int q4), .val (.long aa), .second, .val (.long bb), .second, .val (.long cc), .second, .val (.long tt), .second, .val (.ref ob), .val (.double rs), .second, .val (.long wd), .second, .val (.long ri), .second, .val (.long de), .second, .val (.double d208), .second, .val (.double d215), .second] [(.double d215)])) _
          refine Jvm.Stand.ldc2DoubleC X17 hx hown (mvT hZ (hw _ (List.mem_of_getElem? (i := 36) rfl))) (g := (mkF m 220 #[.val (.int q0), .val (.int q1), .val (.int q2), .val (.int q3), .val (.int q4), .val (.long aa), .second, .val (.long bb), .second, .val (.long cc), .second, .val (.long tt), .second, .val (.ref ob), .val (.double rs), .second, .val (.long wd), .second, .val (.long ri), .second, .val (.long de), .second, .val (.double d208), .second, .val (.double d215), .second] [(.double d215)])) rfl (hb hby at_220) _ ?_
          show Steps p.tables e below (T17.setTop (mkF m 223 #[.val (.int q0), .val (.int q1), .val (.int q2), .val (.int q3), .val (.int q4), .val (.long aa), .second, .val (.long bb), .second, .val (.long cc), .second, .val (.long tt), .second, .val (.ref ob), .val (.double rs), .second, .val (.long wd), .second, .val (.long ri), .second, .val (.long de), .second, .val (.double d208), .second, .val (.double d215), .second] [(.double (4427486594234968593 : UInt64)), (.double d215)])) _
          refine XS.dcmpS X17.here hx rfl (hb hby at_223) rfl hk223 ?_
          show Steps p.tables e below (T17.setTop (mkF m 224 #[.val (.int q0), .val (.int q1), .val (.int q2), .val (.int q3), .val (.int q4), .val (.long aa), .second, .val (.long bb), .second, .val (.long cc), .second, .val (.long tt), .second, .val (.ref ob), .val (.double rs), .second, .val (.long wd), .second, .val (.long ri), .second, .val (.long de), .second, .val (.double d208), .second, .val (.double d215), .second] [(.int k223)])) _
          refine XS.ifNo X17.here hx rfl (hb hby at_224) rfl (XT.i0_gt_f v223) ?_
          show Steps p.tables e below (T17.setTop (mkF m 227 #[.val (.int q0), .val (.int q1), .val (.int q2), .val (.int q3), .val (.int q4), .val (.long aa), .second, .val (.long bb), .second, .val (.long cc), .second, .val (.long tt), .second, .val (.ref ob), .val (.double rs), .second, .val (.long wd), .second, .val (.long ri), .second, .val (.long de), .second, .val (.double d208), .second, .val (.double d215), .second] [])) _
          refine XS.dload X17.here hx rfl (hb hby at_227) rfl ?_
          show Steps p.tables e below (T17.setTop (mkF m 229 #[.val (.int q0), .val (.int q1), .val (.int q2), .val (.int q3), .val (.int q4), .val (.long aa), .second, .val (.long bb), .second, .val (.long cc), .second, .val (.long tt), .second, .val (.ref ob), .val (.double rs), .second, .val (.long wd), .second, .val (.long ri), .second, .val (.long de), .second, .val (.double d208), .second, .val (.double d215), .second] [(.double d215)])) _
          refine XS.dnegS X17.here hx rfl (hb hby at_229) rfl hd229 ?_
          show Steps p.tables e below (T17.setTop (mkF m 230 #[.val (.int q0), .val (.int q1), .val (.int q2), .val (.int q3), .val (.int q4), .val (.long aa), .second, .val (.long bb), .second, .val (.long cc), .second, .val (.long tt), .second, .val (.ref ob), .val (.double rs), .second, .val (.long wd), .second, .val (.long ri), .second, .val (.long de), .second, .val (.double d208), .second, .val (.double d215), .second] [(.double d229)])) _
          refine Jvm.Stand.ldc2DoubleC X17 hx hown (mvT hZ (hw _ (List.mem_of_getElem? (i := 36) rfl))) (g := (mkF m 230 #[.val (.int q0), .val (.int q1), .val (.int q2), .val (.int q3), .val (.int q4), .val (.long aa), .second, .val (.long bb), .second, .val (.long cc), .second, .val (.long tt), .second, .val (.ref ob), .val (.double rs), .second, .val (.long wd), .second, .val (.long ri), .second, .val (.long de), .second, .val (.double d208), .second, .val (.double d215), .second] [(.double d229)])) rfl (hb hby at_230) _ ?_
          show Steps p.tables e below (T17.setTop (mkF m 233 #[.val (.int q0), .val (.int q1), .val (.int q2), .val (.int q3), .val (.int q4), .val (.long aa), .second, .val (.long bb), .second, .val (.long cc), .second, .val (.long tt), .second, .val (.ref ob), .val (.double rs), .second, .val (.long wd), .second, .val (.long ri), .second, .val (.long de), .second, .val (.double d208), .second, .val (.double d215), .second] [(.double (4427486594234968593 : UInt64)), (.double d229)])) _
          refine XS.dcmpS X17.here hx rfl (hb hby at_233) rfl hk233 ?_
          show Steps p.tables e below (T17.setTop (mkF m 234 #[.val (.int q0), .val (.int q1), .val (.int q2), .val (.int q3), .val (.int q4), .val (.long aa), .second, .val (.long bb), .second, .val (.long cc), .second, .val (.long tt), .second, .val (.ref ob), .val (.double rs), .second, .val (.long wd), .second, .val (.long ri), .second, .val (.long de), .second, .val (.double d208), .second, .val (.double d215), .second] [(.int k233)])) _
          refine XS.ifNo X17.here hx rfl (hb hby at_234) rfl (XT.i0_gt_f v233) ?_
          show Steps p.tables e below (T17.setTop (mkF m 237 #[.val (.int q0), .val (.int q1), .val (.int q2), .val (.int q3), .val (.int q4), .val (.long aa), .second, .val (.long bb), .second, .val (.long cc), .second, .val (.long tt), .second, .val (.ref ob), .val (.double rs), .second, .val (.long wd), .second, .val (.long ri), .second, .val (.long de), .second, .val (.double d208), .second, .val (.double d215), .second] [])) _
          refine XS.iconst X17.here hx rfl (hb hby at_237) ?_
          show Steps p.tables e below (T17.setTop (mkF m 238 #[.val (.int q0), .val (.int q1), .val (.int q2), .val (.int q3), .val (.int q4), .val (.long aa), .second, .val (.long bb), .second, .val (.long cc), .second, .val (.long tt), .second, .val (.ref ob), .val (.double rs), .second, .val (.long wd), .second, .val (.long ri), .second, .val (.long de), .second, .val (.double d208), .second, .val (.double d215), .second] [(.int (1 : Int32))])) _
          refine XS.goto X17.here hx rfl (pc0 := 238) (pc' := 242) rfl (hb hby at_238) (by decide) (by decide) ?_
          show Steps p.tables e below (T17.setTop (mkF m 242 #[.val (.int q0), .val (.int q1), .val (.int q2), .val (.int q3), .val (.int q4), .val (.long aa), .second, .val (.long bb), .second, .val (.long cc), .second, .val (.long tt), .second, .val (.ref ob), .val (.double rs), .second, .val (.long wd), .second, .val (.long ri), .second, .val (.long de), .second, .val (.double d208), .second, .val (.double d215), .second] [(.int (1 : Int32))])) _
          exact k)
        obtain ⟨fs, hr, hrun, hended, hW, hsame⟩ := X17.leave (v := (some (.int (1 : Int32)))) (fun h => by rw [Bd.returns] at h; cases h)
        refine ⟨_, _, pre0 _ (c26 _ (retN X17 hx (t := .boolean) Bd.returns (by simp) (hb hby at_242) hr)), hrun, hended, _, _, rfl, ?_, ⟨_, rfl⟩, hW, hsame.mono (by decide) (by decide)⟩
        show Q_0 Z q0 q1 q2 q3 q4 h0 n0 _ T17.heap _
        rw [e17]
        exact ⟨rfl, M17⟩
      · skip
        have r176 : ¬ tt.toInt < bb.toInt := fun q => q176 (lt64.mpr q)
        obtain ⟨u1, u2, u3⟩ := fall_b r148 r176 hb_
        obtain ⟨fa, hfa⟩ : ∃ v : Int64, v = (cc - tt) := ⟨_, rfl⟩
        have c27 : ∀ t, Steps p.tables e below (T17.setTop (mkF m 250 #[.val (.int q0), .val (.int q1), .val (.int q2), .val (.int q3), .val (.int q4), .val (.long aa), .second, .val (.long bb), .second, .val (.long cc), .second, .val (.long tt), .second, .val (.ref ob), .val (.double rs), .second, .val (.long wd), .second, .val (.long fa), .second, .unset, .unset, .unset, .unset, .unset, .unset] [])) t → Steps p.tables e below (s₁.setTop (entryFrame m #[(.int q0), (.int q1), (.int q2), (.int q3), (.int q4)] maxLocals)) t := fun t k => c23 t (by
          rw [hfa] at k
          show Steps p.tables e below (T17.setTop (mkF m 176 #[.val (.int q0), .val (.int q1), .val (.int q2), .val (.int q3), .val (.int q4), .val (.long aa), .second, .val (.long bb), .second, .val (.long cc), .second, .val (.long tt), .second, .val (.ref ob), .val (.double rs), .second, .val (.long wd), .second, .unset, .unset, .unset, .unset, .unset, .unset, .unset, .unset] [(.int (XT.cmpL tt bb))])) _
          refine XS.ifYes X17.here hx rfl (pc0 := 176) (pc' := 243) rfl (hb hby at_176) rfl (XT.ll_ge_t q176) (by decide) (by decide) ?_
          show Steps p.tables e below (T17.setTop (mkF m 243 #[.val (.int q0), .val (.int q1), .val (.int q2), .val (.int q3), .val (.int q4), .val (.long aa), .second, .val (.long bb), .second, .val (.long cc), .second, .val (.long tt), .second, .val (.ref ob), .val (.double rs), .second, .val (.long wd), .second, .unset, .unset, .unset, .unset, .unset, .unset, .unset, .unset] [])) _
          refine XT.lload X17.here hx rfl (hb hby at_243) rfl ?_
          show Steps p.tables e below (T17.setTop (mkF m 245 #[.val (.int q0), .val (.int q1), .val (.int q2), .val (.int q3), .val (.int q4), .val (.long aa), .second, .val (.long bb), .second, .val (.long cc), .second, .val (.long tt), .second, .val (.ref ob), .val (.double rs), .second, .val (.long wd), .second, .unset, .unset, .unset, .unset, .unset, .unset, .unset, .unset] [(.long cc)])) _
          refine XT.lload X17.here hx rfl (hb hby at_245) rfl ?_
          show Steps p.tables e below (T17.setTop (mkF m 247 #[.val (.int q0), .val (.int q1), .val (.int q2), .val (.int q3), .val (.int q4), .val (.long aa), .second, .val (.long bb), .second, .val (.long cc), .second, .val (.long tt), .second, .val (.ref ob), .val (.double rs), .second, .val (.long wd), .second, .unset, .unset, .unset, .unset, .unset, .unset, .unset, .unset] [(.long tt), (.long cc)])) _
          refine XT.lsub X17.here hx rfl (hb hby at_247) rfl ?_
          show Steps p.tables e below (T17.setTop (mkF m 248 #[.val (.int q0), .val (.int q1), .val (.int q2), .val (.int q3), .val (.int q4), .val (.long aa), .second, .val (.long bb), .second, .val (.long cc), .second, .val (.long tt), .second, .val (.ref ob), .val (.double rs), .second, .val (.long wd), .second, .unset, .unset, .unset, .unset, .unset, .unset, .unset, .unset] [(.long (cc - tt))])) _
          refine XT.lstore X17.here hx rfl (hb hby at_248) rfl (l' := #[.val (.int q0), .val (.int q1), .val (.int q2), .val (.int q3), .val (.int q4), .val (.long aa), .second, .val (.long bb), .second, .val (.long cc), .second, .val (.long tt), .second, .val (.ref ob), .val (.double rs), .second, .val (.long wd), .second, .val (.long (cc - tt)), .second, .unset, .unset, .unset, .unset, .unset, .unset]) rfl ?_
          show Steps p.tables e below (T17.setTop (mkF m 250 #[.val (.int q0), .val (.int q1), .val (.int q2), .val (.int q3), .val (.int q4), .val (.long aa), .second, .val (.long bb), .second, .val (.long cc), .second, .val (.long tt), .second, .val (.ref ob), .val (.double rs), .second, .val (.long wd), .second, .val (.long (cc - tt)), .second, .unset, .unset, .unset, .unset, .unset, .unset] [])) _
          exact k)
        have vf : fa.toInt = cc.toInt - tt.toInt := by rw [hfa]; exact Kit.i64_sub (by omega) (by omega)
        have vff : (fa * fa).toInt = (cc.toInt - tt.toInt) * (cc.toInt - tt.toInt) := by rw [Kit.i64_mul (by rw [vf]; omega) (by rw [vf]; omega), vf]
        have vd : (wd * (cc - bb)).toInt = (cc.toInt - aa.toInt) * (cc.toInt - bb.toInt) := by
          have s1 := Kit.i64_sub (x := cc) (y := bb) (by omega) (by omega)
          rw [Kit.i64_mul (by rw [vw, s1]; omega) (by rw [vw, s1]; omega), vw, s1]
        obtain ⟨x_, y_, dx, dy, hr0⟩ : ∃ x y, DS ((cc.toInt - tt.toInt) * (cc.toInt - tt.toInt)) 2 x ∧ DS ((cc.toInt - aa.toInt) * (cc.toInt - bb.toInt)) 2 y ∧ rs = FP.ddiv x y := by rcases hrs with ⟨q, _⟩ | ⟨_, q, _⟩ | ⟨_, _, q, _⟩ | ⟨_, _, _, q⟩ <;> first | exact absurd q r127 | exact absurd r148 q | exact absurd q r176 | exact q
        obtain ⟨d257, hd257⟩ : ∃ v : UInt64, FP.l2d (fa * fa) = v := ⟨_, rfl⟩
        have D257 : DS ((cc.toInt - tt.toInt) * (cc.toInt - tt.toInt)) 0 d257 := by rw [← hd257, ← vff]; exact DS.l2d (by omega)
        obtain ⟨d266, hd266⟩ : ∃ v : UInt64, FP.l2d (wd * (cc - bb)) = v := ⟨_, rfl⟩
        have D266 : DS ((cc.toInt - aa.toInt) * (cc.toInt - bb.toInt)) 0 d266 := by rw [← hd266, ← vd]; exact DS.l2d (by omega)
        obtain ⟨d267, hd267⟩ : ∃ v : UInt64, FP.ddiv d257 d266 = v := ⟨_, rfl⟩
        have same : rs = d267 := by rw [hr0, ← hd267]; exact DS.div_scale dx D257 dy D266 u1 (by omega)
        obtain ⟨k268, hk268⟩ : ∃ v : Int32, cmpValue (FP.dcmp rs d267) .l = v := ⟨_, rfl⟩
        have e268 : k268 = 0 := by rw [← hk268, ← same]; exact cmp_eq (notNan fr) (notNan fr) rfl .l
        have c28 : ∀ t, Steps p.tables e below (T17.setTop (mkF m 277 #[.val (.int q0), .val (.int q1), .val (.int q2), .val (.int q3), .val (.int q4), .val (.long aa), .second, .val (.long bb), .second, .val (.long cc), .second, .val (.long tt), .second, .val (.ref ob), .val (.double rs), .second, .val (.long wd), .second, .val (.long fa), .second, .unset, .unset, .unset, .unset, .unset, .unset] [(.int (1 : Int32))])) t → Steps p.tables e below (s₁.setTop (entryFrame m #[(.int q0), (.int q1), (.int q2), (.int q3), (.int q4)] maxLocals)) t := fun t k => c27 t (by
          show Steps p.tables e below (T17.setTop (mkF m 250 #[.val (.int q0), .val (.int q1), .val (.int q2), .val (.int q3), .val (.int q4), .val (.long aa), .second, .val (.long bb), .second, .val (.long cc), .second, .val (.long tt), .second, .val (.ref ob), .val (.double rs), .second, .val (.long wd), .second, .val (.long fa), .second, .unset, .unset, .unset, .unset, .unset, .unset] [])) _
          refine XS.dload X17.here hx rfl (hb hby at_250) rfl ?_
          show Steps p.tables e below (T17.setTop (mkF m 252 #[.val (.int q0), .val (.int q1), .val (.int q2), .val (.int q3), .val (.int q4), .val (.long aa), .second, .val (.long bb), .second, .val (.long cc), .second, .val (.long tt), .second, .val (.ref ob), .val (.double rs), .second, .val (.long wd), .second, .val (.long fa), .second, .unset, .unset, .unset, .unset, .unset, .unset] [(.double rs)])) _
          refine XT.lload X17.here hx rfl (hb hby at_252) rfl ?_
          show Steps p.tables e below (T17.setTop (mkF m 254 #[.val (.int q0), .val (.int q1), .val (.int q2), .val (.int q3), .val (.int q4), .val (.long aa), .second, .val (.long bb), .second, .val (.long cc), .second, .val (.long tt), .second, .val (.ref ob), .val (.double rs), .second, .val (.long wd), .second, .val (.long fa), .second, .unset, .unset, .unset, .unset, .unset, .unset] [(.long fa), (.double rs)])) _
          refine XT.lload X17.here hx rfl (hb hby at_254) rfl ?_
          show Steps p.tables e below (T17.setTop (mkF m 256 #[.val (.int q0), .val (.int q1), .val (.int q2), .val (.int q3), .val (.int q4), .val (.long aa), .second, .val (.long bb), .second, .val (.long cc), .second, .val (.long tt), .second, .val (.ref ob), .val (.double rs), .second, .val (.long wd), .second, .val (.long fa), .second, .unset, .unset, .unset, .unset, .unset, .unset] [(.long fa), (.long fa), (.double rs)])) _
          refine XT.lmul X17.here hx rfl (hb hby at_256) rfl ?_
          show Steps p.tables e below (T17.setTop (mkF m 257 #[.val (.int q0), .val (.int q1), .val (.int q2), .val (.int q3), .val (.int q4), .val (.long aa), .second, .val (.long bb), .second, .val (.long cc), .second, .val (.long tt), .second, .val (.ref ob), .val (.double rs), .second, .val (.long wd), .second, .val (.long fa), .second, .unset, .unset, .unset, .unset, .unset, .unset] [(.long (fa * fa)), (.double rs)])) _
          refine XS.l2dS X17.here hx rfl (hb hby at_257) rfl hd257 ?_
          show Steps p.tables e below (T17.setTop (mkF m 258 #[.val (.int q0), .val (.int q1), .val (.int q2), .val (.int q3), .val (.int q4), .val (.long aa), .second, .val (.long bb), .second, .val (.long cc), .second, .val (.long tt), .second, .val (.ref ob), .val (.double rs), .second, .val (.long wd), .second, .val (.long fa), .second, .unset, .unset, .unset, .unset, .unset, .unset] [(.double d257), (.double rs)])) _
          refine XT.lload X17.here hx rfl (hb hby at_258) rfl ?_
          show Steps p.tables e below (T17.setTop (mkF m 260 #[.val (.int q0), .val (.int q1), .val (.int q2), .val (.int q3), .val (.int q4), .val (.long aa), .second, .val (.long bb), .second, .val (.long cc), .second, .val (.long tt), .second, .val (.ref ob), .val (.double rs), .second, .val (.long wd), .second, .val (.long fa), .second, .unset, .unset, .unset, .unset, .unset, .unset] [(.long wd), (.double d257), (.double rs)])) _
          refine XT.lload X17.here hx rfl (hb hby at_260) rfl ?_
          show Steps p.tables e below (T17.setTop (mkF m 262 #[.val (.int q0), .val (.int q1), .val (.int q2), .val (.int q3), .val (.int q4), .val (.long aa), .second, .val (.long bb), .second, .val (.long cc), .second, .val (.long tt), .second, .val (.ref ob), .val (.double rs), .second, .val (.long wd), .second, .val (.long fa), .second, .unset, .unset, .unset, .unset, .unset, .unset] [(.long cc), (.long wd), (.double d257), (.double rs)])) _
          refine XT.lload X17.here hx rfl (hb hby at_262) rfl ?_
          show Steps p.tables e below (T17.setTop (mkF m 264 #[.val (.int q0), .val (.int q1), .val (.int q2), .val (.int q3), .val (.int q4), .val (.long aa), .second, .val (.long bb), .second, .val (.long cc), .second, .val (.long tt), .second, .val (.ref ob), .val (.double rs), .second, .val (.long wd), .second, .val (.long fa), .second, .unset, .unset, .unset, .unset, .unset, .unset] [(.long bb), (.long cc), (.long wd), (.double d257), (.double rs)])) _
          refine XT.lsub X17.here hx rfl (hb hby at_264) rfl ?_
          show Steps p.tables e below (T17.setTop (mkF m 265 #[.val (.int q0), .val (.int q1), .val (.int q2), .val (.int q3), .val (.int q4), .val (.long aa), .second, .val (.long bb), .second, .val (.long cc), .second, .val (.long tt), .second, .val (.ref ob), .val (.double rs), .second, .val (.long wd), .second, .val (.long fa), .second, .unset, .unset, .unset, .unset, .unset, .unset] [(.long (cc - bb)), (.long wd), (.double d257), (.double rs)])) _
          refine XT.lmul X17.here hx rfl (hb hby at_265) rfl ?_
          show Steps p.tables e below (T17.setTop (mkF m 266 #[.val (.int q0), .val (.int q1), .val (.int q2), .val (.int q3), .val (.int q4), .val (.long aa), .second, .val (.long bb), .second, .val (.long cc), .second, .val (.long tt), .second, .val (.ref ob), .val (.double rs), .second, .val (.long wd), .second, .val (.long fa), .second, .unset, .unset, .unset, .unset, .unset, .unset] [(.long (wd * (cc - bb))), (.double d257), (.double rs)])) _
          refine XS.l2dS X17.here hx rfl (hb hby at_266) rfl hd266 ?_
          show Steps p.tables e below (T17.setTop (mkF m 267 #[.val (.int q0), .val (.int q1), .val (.int q2), .val (.int q3), .val (.int q4), .val (.long aa), .second, .val (.long bb), .second, .val (.long cc), .second, .val (.long tt), .second, .val (.ref ob), .val (.double rs), .second, .val (.long wd), .second, .val (.long fa), .second, .unset, .unset, .unset, .unset, .unset, .unset] [(.double d266), (.double d257), (.double rs)])) _
          refine XS.ddivS X17.here hx rfl (hb hby at_267) rfl (hd267 ▸ same ▸ noNaN_of (notNan fr)) hd267 ?_
          show Steps p.tables e below (T17.setTop (mkF m 268 #[.val (.int q0), .val (.int q1), .val (.int q2), .val (.int q3), .val (.int q4), .val (.long aa), .second, .val (.long bb), .second, .val (.long cc), .second, .val (.long tt), .second, .val (.ref ob), .val (.double rs), .second, .val (.long wd), .second, .val (.long fa), .second, .unset, .unset, .unset, .unset, .unset, .unset] [(.double d267), (.double rs)])) _
          refine XS.dcmpS X17.here hx rfl (hb hby at_268) rfl hk268 ?_
          show Steps p.tables e below (T17.setTop (mkF m 269 #[.val (.int q0), .val (.int q1), .val (.int q2), .val (.int q3), .val (.int q4), .val (.long aa), .second, .val (.long bb), .second, .val (.long cc), .second, .val (.long tt), .second, .val (.ref ob), .val (.double rs), .second, .val (.long wd), .second, .val (.long fa), .second, .unset, .unset, .unset, .unset, .unset, .unset] [(.int k268)])) _
          refine XS.ifNo X17.here hx rfl (hb hby at_269) rfl (XT.i0_ne_f e268) ?_
          show Steps p.tables e below (T17.setTop (mkF m 272 #[.val (.int q0), .val (.int q1), .val (.int q2), .val (.int q3), .val (.int q4), .val (.long aa), .second, .val (.long bb), .second, .val (.long cc), .second, .val (.long tt), .second, .val (.ref ob), .val (.double rs), .second, .val (.long wd), .second, .val (.long fa), .second, .unset, .unset, .unset, .unset, .unset, .unset] [])) _
          refine XS.iconst X17.here hx rfl (hb hby at_272) ?_
          show Steps p.tables e below (T17.setTop (mkF m 273 #[.val (.int q0), .val (.int q1), .val (.int q2), .val (.int q3), .val (.int q4), .val (.long aa), .second, .val (.long bb), .second, .val (.long cc), .second, .val (.long tt), .second, .val (.ref ob), .val (.double rs), .second, .val (.long wd), .second, .val (.long fa), .second, .unset, .unset, .unset, .unset, .unset, .unset] [(.int (1 : Int32))])) _
          refine XS.goto X17.here hx rfl (pc0 := 273) (pc' := 277) rfl (hb hby at_273) (by decide) (by decide) ?_
          show Steps p.tables e below (T17.setTop (mkF m 277 #[.val (.int q0), .val (.int q1), .val (.int q2), .val (.int q3), .val (.int q4), .val (.long aa), .second, .val (.long bb), .second, .val (.long cc), .second, .val (.long tt), .second, .val (.ref ob), .val (.double rs), .second, .val (.long wd), .second, .val (.long fa), .second, .unset, .unset, .unset, .unset, .unset, .unset] [(.int (1 : Int32))])) _
          exact k)
        obtain ⟨fs, hr, hrun, hended, hW, hsame⟩ := X17.leave (v := (some (.int (1 : Int32)))) (fun h => by rw [Bd.returns] at h; cases h)
        refine ⟨_, _, pre0 _ (c28 _ (retN X17 hx (t := .boolean) Bd.returns (by simp) (hb hby at_277) hr)), hrun, hended, _, _, rfl, ?_, ⟨_, rfl⟩, hW, hsame.mono (by decide) (by decide)⟩
        show Q_0 Z q0 q1 q2 q3 q4 h0 n0 _ T17.heap _
        rw [e17]
        exact ⟨rfl, M17⟩
    · skip
      have r148 : ¬ tt.toInt < cc.toInt := fun q => q148 (lt64.mpr q)
      have hr0 : rs = FP.dconst0 := by rcases hrs with ⟨q, _⟩ | ⟨_, _, q⟩ | ⟨_, q, _⟩ | ⟨_, q, _⟩ <;> first | exact absurd q r127 | exact absurd q r148 | exact q
      obtain ⟨k154, hk154⟩ : ∃ v : Int32, cmpValue (FP.dcmp rs FP.dconst0) .l = v := ⟨_, rfl⟩
      have e154 : k154 = 0 := by rw [← hk154, hr0]; exact cmp_eq (notNan DS.zero.1) (notNan DS.zero.1) rfl .l
      have c29 : ∀ t, Steps p.tables e below (T17.setTop (mkF m 163 #[.val (.int q0), .val (.int q1), .val (.int q2), .val (.int q3), .val (.int q4), .val (.long aa), .second, .val (.long bb), .second, .val (.long cc), .second, .val (.long tt), .second, .val (.ref ob), .val (.double rs), .second, .unset, .unset, .unset, .unset, .unset, .unset, .unset, .unset, .unset, .unset] [(.int (1 : Int32))])) t → Steps p.tables e below (s₁.setTop (entryFrame m #[(.int q0), (.int q1), (.int q2), (.int q3), (.int q4)] maxLocals)) t := fun t k => c21 t (by
        show Steps p.tables e below (T17.setTop (mkF m 148 #[.val (.int q0), .val (.int q1), .val (.int q2), .val (.int q3), .val (.int q4), .val (.long aa), .second, .val (.long bb), .second, .val (.long cc), .second, .val (.long tt), .second, .val (.ref ob), .val (.double rs), .second, .unset, .unset, .unset, .unset, .unset, .unset, .unset, .unset, .unset, .unset] [(.int (XT.cmpL tt cc))])) _
        refine XS.ifNo X17.here hx rfl (hb hby at_148) rfl (XT.ll_lt_f q148) ?_
        show Steps p.tables e below (T17.setTop (mkF m 151 #[.val (.int q0), .val (.int q1), .val (.int q2), .val (.int q3), .val (.int q4), .val (.long aa), .second, .val (.long bb), .second, .val (.long cc), .second, .val (.long tt), .second, .val (.ref ob), .val (.double rs), .second, .unset, .unset, .unset, .unset, .unset, .unset, .unset, .unset, .unset, .unset] [])) _
        refine XS.dload X17.here hx rfl (hb hby at_151) rfl ?_
        show Steps p.tables e below (T17.setTop (mkF m 153 #[.val (.int q0), .val (.int q1), .val (.int q2), .val (.int q3), .val (.int q4), .val (.long aa), .second, .val (.long bb), .second, .val (.long cc), .second, .val (.long tt), .second, .val (.ref ob), .val (.double rs), .second, .unset, .unset, .unset, .unset, .unset, .unset, .unset, .unset, .unset, .unset] [(.double rs)])) _
        refine XS.dconst0 X17.here hx rfl (hb hby at_153) rfl ?_
        show Steps p.tables e below (T17.setTop (mkF m 154 #[.val (.int q0), .val (.int q1), .val (.int q2), .val (.int q3), .val (.int q4), .val (.long aa), .second, .val (.long bb), .second, .val (.long cc), .second, .val (.long tt), .second, .val (.ref ob), .val (.double rs), .second, .unset, .unset, .unset, .unset, .unset, .unset, .unset, .unset, .unset, .unset] [(.double FP.dconst0), (.double rs)])) _
        refine XS.dcmpS X17.here hx rfl (hb hby at_154) rfl hk154 ?_
        show Steps p.tables e below (T17.setTop (mkF m 155 #[.val (.int q0), .val (.int q1), .val (.int q2), .val (.int q3), .val (.int q4), .val (.long aa), .second, .val (.long bb), .second, .val (.long cc), .second, .val (.long tt), .second, .val (.ref ob), .val (.double rs), .second, .unset, .unset, .unset, .unset, .unset, .unset, .unset, .unset, .unset, .unset] [(.int k154)])) _
        refine XS.ifNo X17.here hx rfl (hb hby at_155) rfl (XT.i0_ne_f e154) ?_
        show Steps p.tables e below (T17.setTop (mkF m 158 #[.val (.int q0), .val (.int q1), .val (.int q2), .val (.int q3), .val (.int q4), .val (.long aa), .second, .val (.long bb), .second, .val (.long cc), .second, .val (.long tt), .second, .val (.ref ob), .val (.double rs), .second, .unset, .unset, .unset, .unset, .unset, .unset, .unset, .unset, .unset, .unset] [])) _
        refine XS.iconst X17.here hx rfl (hb hby at_158) ?_
        show Steps p.tables e below (T17.setTop (mkF m 159 #[.val (.int q0), .val (.int q1), .val (.int q2), .val (.int q3), .val (.int q4), .val (.long aa), .second, .val (.long bb), .second, .val (.long cc), .second, .val (.long tt), .second, .val (.ref ob), .val (.double rs), .second, .unset, .unset, .unset, .unset, .unset, .unset, .unset, .unset, .unset, .unset] [(.int (1 : Int32))])) _
        refine XS.goto X17.here hx rfl (pc0 := 159) (pc' := 163) rfl (hb hby at_159) (by decide) (by decide) ?_
        show Steps p.tables e below (T17.setTop (mkF m 163 #[.val (.int q0), .val (.int q1), .val (.int q2), .val (.int q3), .val (.int q4), .val (.long aa), .second, .val (.long bb), .second, .val (.long cc), .second, .val (.long tt), .second, .val (.ref ob), .val (.double rs), .second, .unset, .unset, .unset, .unset, .unset, .unset, .unset, .unset, .unset, .unset] [(.int (1 : Int32))])) _
        exact k)
      obtain ⟨fs, hr, hrun, hended, hW, hsame⟩ := X17.leave (v := (some (.int (1 : Int32)))) (fun h => by rw [Bd.returns] at h; cases h)
      refine ⟨_, _, pre0 _ (c29 _ (retN X17 hx (t := .boolean) Bd.returns (by simp) (hb hby at_163) hr)), hrun, hended, _, _, rfl, ?_, ⟨_, rfl⟩, hW, hsame.mono (by decide) (by decide)⟩
      show Q_0 Z q0 q1 q2 q3 q4 h0 n0 _ T17.heap _
      rw [e17]
      exact ⟨rfl, M17⟩
set_option maxRecDepth 65536 in
set_option maxHeartbeats 40000000 in
theorem comes_1 {Post : Tables → Env → Array Value → State → Outcome → State → Prop} (hpost : ∀ tb e args s v u, (limb_1_1.after args s (.returned v) u = true ∧ limb_1_2.after args s (.returned v) u = true ∧ True) → FrameEnd s (.returned v) u (Jvm.fieldLocs frame_1_writes args s ++ Jvm.arrayLocs frame_1_arrays args s ++ Jvm.staticLocs frame_1_statics s) 16 128 → Post tb e args s (.returned v) u) :
    ArmFor flags0 classFile x code maxLocals ret World_1 tables_1 room_1 Calls_1 rest_1 Pre_1 Post := by
  intro l hfl _ _ p e ha hc hk s m args below hf hA hF happ hP
  obtain ⟨hcalls, hrest, hpre⟩ := hP
  obtain ⟨-, -, -, hnamed, -, -, -, hat⟩ := (Spec.applies_iff hf).mp happ
  obtain ⟨hg, hn⟩ := and_e (Cond.before_iff.mp (show (Jvm.Cond.and given_1 narrow_1).before args s = true from hpre))
  obtain ⟨g0, r0⟩ := and_e hg
  obtain ⟨g1, r1⟩ := and_e r0
  obtain ⟨g2, r2⟩ := and_e r1
  obtain ⟨g3, r3⟩ := and_e r2
  obtain ⟨g4, r4⟩ := and_e r3
  obtain ⟨w0, w1, w2, w3, w4, rfl⟩ : ∃ w0 w1 w2 w3 w4 : Value, args = #[w0, w1, w2, w3, w4] := by
    have hs : args.size = 5 := by simpa [Cond.value, given_1] using g0
    obtain ⟨L⟩ := args
    match L, hs with
    | [w0, w1, w2, w3, w4], _ => exact ⟨w0, w1, w2, w3, w4, rfl⟩
  have hw := fun d (hd : d ∈ tables_1) => atoms_spec (ws := Jvm.Cond.code x code maxLocals ret :: tables_1) hat d (List.mem_cons_of_mem _ hd)
  obtain ⟨i0, e0⟩ := is_v g1
  obtain rfl : w0 = (.int i0) := Option.some.inj e0
  obtain ⟨i1, e1⟩ := is_v g2
  obtain rfl : w1 = (.int i1) := Option.some.inj e1
  obtain ⟨i2, e2⟩ := is_v g3
  obtain rfl : w2 = (.int i2) := Option.some.inj e2
  obtain ⟨i3, e3⟩ := is_v g4
  obtain rfl : w3 = (.int i3) := Option.some.inj e3
  obtain ⟨i4, e4⟩ := is_v r4
  obtain rfl : w4 = (.int i4) := Option.some.inj e4
  obtain ⟨n, o, h1, h2, h3, _, L, rfl, ⟨rfl, N⟩, hq⟩ := rm_0 l s _ hw tables_1 i0 i1 i2 i3 i4 s.heap s.heap.size (Nat.le_refl _)  p e ha hc hk s m _ below hf ((Spec.applies_iff_loose hf).mp happ).1 ⟨rfl, State.Warmed39.refl s, rfl⟩ trivial
  refine ⟨n, _, h1, h2, h3, hpost _ _ _ _ _ _ ⟨Cond.after_iff.mpr rfl, Cond.after_iff.mpr (eq_i res_at (Term.int_eval (1)) rfl), trivial⟩ ⟨hq.1, hq.2.1, (hq.2.2.sift fun y hy => Or.inr (N y hy)).mono (by decide) (by decide)⟩⟩
theorem main_1_1 : Claimed_1_1 := comes_1 fun _ _ _ _ _ _ h hF => ⟨h.1, hF⟩
theorem main_1_2 : Claimed_1_2 := comes_1 fun _ _ _ _ _ _ h hF => ⟨h.2.1, hF⟩
end Jvm.Pilot.@@N@@
namespace Jvm.Pilot.@@N@@
open Jvm Jvm.ClassFile Sem Op Lib Jvm.Free Jvm.Stand Jvm.Pilot.@@N@@.Jvm.D
/-! MADE BY PROGRAM (witnessworld.py) out of the Statement's table words and the real class files: 17 classes; the members and pool entries that the words name. The judged class is class 1, her method 1. -/
namespace start1
open Jvm.ClassFile
def u (s : String) : CpInfo := .utf8 (stringToUtf16 s)
/-- a pool by its gaps: so many unusable entries, then the entry; so many at the end -/
def gap : Nat → List CpInfo → List CpInfo
  | 0, r => r
  | n + 1, r => .unusable :: gap n r
def poolList (es : List (Nat × CpInfo)) (last : Nat) : List CpInfo := es.foldr (fun e r => gap e.1 (e.2 :: r)) (gap last [])
def pool (es : List (Nat × CpInfo)) (last : Nat) : Array CpInfo := ⟨poolList es last⟩
def fileOf (pool : Array CpInfo) (this : Nat) (attrs : Array Attribute := #[]) (ms : Array MethodInfo := #[]) (fl : Nat := 33) (sup : Nat := 0) (ifs : Array Nat := #[]) (fds : Array FieldInfo := #[]) : ClassFile where
  minorVersion := 0
  majorVersion := 65
  constantPool := pool
  accessFlags := fl
  thisClass := this
  superClass := sup
  interfaces := ifs
  fields := fds
  methods := ms
  attributes := attrs
def plain (name : String) (sup : Option ClassId) : Class where
  name := name
  kind := .ordinary
  loader := none
  accessFlags := 33
  super := sup
  interfaces := #[]
  cf := none
  fields := #[]
  methods := #[]
  instanceTypes := #[]
  staticTypes := #[]
  resolved := #[]
  callSites := []
  init := .initialized
  statics := none
  mirror := none

def pool0 : Array CpInfo := pool [(5, u "<init>"), (0, u "()V"), (1, .class_ 10), (1, u "java/lang/Object")] 113

def k0c0 : Code := { maxStack := 0, maxLocals := 1, code := object_method_1_code, exceptionTable := #[], attributes := #[] }
def k0m0 : Method := { name := "<init>", desc := "()V", sig := { parameters := [], returnType := none }, accessFlags := 1, code := some k0c0 }
/-- java/lang/Object -/
def k0 : Class := { plain "java/lang/Object" none with
  accessFlags := 33
  interfaces := #[]
  cf := some (fileOf pool0 8 #[] #[{ accessFlags := 1, nameIndex := 5, descriptorIndex := 6, attributes := #[] }] 33 0 #[] #[])
  fields := #[]
  methods := #[k0m0]
  instanceTypes := #[]
  staticTypes := #[]
  resolved := Array.replicate 124 none
  statics := none }

def pool1 : Array CpInfo := pool [(2, .class_ 4), (1, u "java/lang/Object"), (0, u "<init>"), (0, u "()V"), (0, .long 2), (1, .class_ 10), (0, u "com/example/foglane/foglane/uncertainty/UncertainQuantity$Triangular"), (0, .double 4611686018427387904), (1, .methodref 9 14), (0, .nameAndType 5 15), (0, u "(DDD)V"), (0, .methodref 9 17), (0, .nameAndType 18 19), (0, u "exceeds"), (0, u "(D)D"), (0, .double 4427486594234968593), (1, .class_ 23), (0, u "com/example/foglane/foglane/uncertainty/TriangularExceedsPinLaw"), (2, u "law"), (0, u "(IIIII)Z")] 7

def k1m0 : Method := { name := "<init>", desc := "()V", sig := { parameters := [], returnType := none }, accessFlags := 2, code := none }
def k1c1 : Code := { maxStack := 10, maxLocals := 26, code := code, exceptionTable := #[], attributes := #[] }
def k1m1 : Method := { name := "law", desc := "(IIIII)Z", sig := { parameters := [.int, .int, .int, .int, .int], returnType := some .boolean }, accessFlags := 9, code := some k1c1 }
/-- com/example/foglane/foglane/uncertainty/TriangularExceedsPinLaw -/
def k1 : Class := { plain "com/example/foglane/foglane/uncertainty/TriangularExceedsPinLaw" (some 0) with
  accessFlags := 49
  interfaces := #[]
  cf := some (fileOf pool1 22 #[] #[{ accessFlags := 2, nameIndex := 5, descriptorIndex := 6, attributes := #[] }, { accessFlags := 9, nameIndex := 26, descriptorIndex := 27, attributes := #[] }] 49 2 #[] #[])
  fields := #[]
  methods := #[k1m0, k1m1]
  instanceTypes := #[]
  staticTypes := #[]
  resolved := Array.replicate 35 none
  statics := none }

def pool2 : Array CpInfo := pool [(1, .methodref 2 3), (0, .class_ 4), (0, .nameAndType 5 6), (0, u "java/lang/Object"), (0, u "<init>"), (0, u "()V"), (0, .class_ 8), (0, u "java/lang/Record")] 13

def k2c0 : Code := { maxStack := 1, maxLocals := 1, code := jdk_30_method_1_code, exceptionTable := #[], attributes := #[] }
def k2m0 : Method := { name := "<init>", desc := "()V", sig := { parameters := [], returnType := none }, accessFlags := 4, code := some k2c0 }
/-- java/lang/Record -/
def k2 : Class := { plain "java/lang/Record" (some 0) with
  accessFlags := 1057
  interfaces := #[]
  cf := some (fileOf pool2 7 #[] #[{ accessFlags := 4, nameIndex := 5, descriptorIndex := 6, attributes := #[] }] 1057 2 #[] #[])
  fields := #[]
  methods := #[k2m0]
  instanceTypes := #[]
  staticTypes := #[]
  resolved := Array.replicate 22 none
  statics := none }

def pool3 : Array CpInfo := pool [(17, .class_ 18), (0, u "com/example/foglane/foglane/uncertainty/UncertainQuantity$Known"), (9, .class_ 29), (0, u "com/example/foglane/foglane/uncertainty/UncertainQuantity$Lognormal"), (11, .class_ 42), (0, u "com/example/foglane/foglane/uncertainty/UncertainQuantity$Triangular"), (3, .class_ 47), (0, u "com/example/foglane/foglane/uncertainty/UncertainQuantity"), (0, .class_ 49), (0, u "java/lang/Object")] 36

/-- com/example/foglane/foglane/uncertainty/UncertainQuantity -/
def k3 : Class := { plain "com/example/foglane/foglane/uncertainty/UncertainQuantity" (some 0) with
  accessFlags := 1537
  interfaces := #[]
  cf := some (fileOf pool3 46 #[.nestMembers #[41, 28, 17]] #[] 1537 48 #[] #[])
  fields := #[]
  methods := #[]
  instanceTypes := #[]
  staticTypes := #[]
  resolved := Array.replicate 86 none
  statics := none }

def pool4 : Array CpInfo := pool [(1, .methodref 2 3), (0, .class_ 4), (0, .nameAndType 5 6), (0, u "java/lang/Record"), (0, u "<init>"), (0, u "()V"), (0, .methodref 8 9), (0, .class_ 10), (0, .nameAndType 11 12), (0, u "java/lang/Double"), (0, u "isInfinite"), (0, u "(D)Z"), (9, .fieldref 23 24), (0, .class_ 25), (0, .nameAndType 26 27), (0, u "com/example/foglane/foglane/uncertainty/UncertainQuantity$Triangular"), (0, u "smallest"), (0, u "D"), (0, .fieldref 23 29), (0, .nameAndType 30 27), (0, u "mostPlausible"), (0, .fieldref 23 32), (0, .nameAndType 33 27), (0, u "largest"), (11, u "(D)D"), (28, .class_ 75), (0, u "com/example/foglane/foglane/uncertainty/UncertainQuantity"), (0, u "(DDD)V"), (7, u "exceeds")] 36

def k4c0 : Code := { maxStack := 8, maxLocals := 7, code := prog_102_method_1_code, exceptionTable := #[], attributes := #[] }
def k4m0 : Method := { name := "<init>", desc := "(DDD)V", sig := { parameters := [.double, .double, .double], returnType := none }, accessFlags := 1, code := some k4c0 }
def k4c1 : Code := { maxStack := 10, maxLocals := 7, code := prog_102_method_5_code, exceptionTable := #[], attributes := #[] }
def k4m1 : Method := { name := "exceeds", desc := "(D)D", sig := { parameters := [.double], returnType := some .double }, accessFlags := 1, code := some k4c1 }
/-- com/example/foglane/foglane/uncertainty/UncertainQuantity$Triangular -/
def k4 : Class := { plain "com/example/foglane/foglane/uncertainty/UncertainQuantity$Triangular" (some 2) with
  accessFlags := 49
  interfaces := #[3]
  cf := some (fileOf pool4 23 #[.nestHost 74] #[{ accessFlags := 1, nameIndex := 5, descriptorIndex := 76, attributes := #[] }, { accessFlags := 1, nameIndex := 84, descriptorIndex := 45, attributes := #[] }] 49 2 #[74] #[{ accessFlags := 18, nameIndex := 26, descriptorIndex := 27, attributes := #[] }, { accessFlags := 18, nameIndex := 30, descriptorIndex := 27, attributes := #[] }, { accessFlags := 18, nameIndex := 33, descriptorIndex := 27, attributes := #[] }])
  fields := #[{ name := "smallest", type := .double, accessFlags := 18, slot := 0, constantValue := 0 }, { name := "mostPlausible", type := .double, accessFlags := 18, slot := 1, constantValue := 0 }, { name := "largest", type := .double, accessFlags := 18, slot := 2, constantValue := 0 }]
  methods := #[k4m0, k4m1]
  instanceTypes := #[.double, .double, .double]
  staticTypes := #[]
  resolved := Array.replicate 121 none
  statics := none }

def pool5 : Array CpInfo := pool [(1, .class_ 2), (0, u "java/io/Serializable"), (0, .class_ 4), (0, u "java/lang/Object")] 2

/-- java/io/Serializable -/
def k5 : Class := { plain "java/io/Serializable" (some 0) with
  accessFlags := 1537
  interfaces := #[]
  cf := some (fileOf pool5 1 #[] #[] 1537 3 #[] #[])
  fields := #[]
  methods := #[]
  instanceTypes := #[]
  staticTypes := #[]
  resolved := Array.replicate 7 none
  statics := none }

def pool6 : Array CpInfo := pool [(2, .class_ 4), (1, u "java/lang/Object"), (0, u "<init>"), (0, u "()V"), (1, .class_ 10), (1, u "java/lang/Number"), (2, .class_ 14), (0, u "java/io/Serializable"), (0, u "serialVersionUID"), (0, u "J")] 20

def k6m0 : Method := { name := "<init>", desc := "()V", sig := { parameters := [], returnType := none }, accessFlags := 1, code := none }
/-- java/lang/Number -/
def k6 : Class := { plain "java/lang/Number" (some 0) with
  accessFlags := 1057
  interfaces := #[5]
  cf := some (fileOf pool6 8 #[] #[{ accessFlags := 1, nameIndex := 5, descriptorIndex := 6, attributes := #[] }] 1057 2 #[13] #[{ accessFlags := 26, nameIndex := 15, descriptorIndex := 16, attributes := #[] }])
  fields := #[{ name := "serialVersionUID", type := .long, accessFlags := 26, slot := 0, constantValue := 0 }]
  methods := #[k6m0]
  instanceTypes := #[]
  staticTypes := #[.long]
  resolved := Array.replicate 37 none
  statics := none }

def pool7 : Array CpInfo := pool [(1, .class_ 2), (0, u "java/lang/Comparable"), (0, .class_ 4), (0, u "java/lang/Object")] 7

/-- java/lang/Comparable -/
def k7 : Class := { plain "java/lang/Comparable" (some 0) with
  accessFlags := 1537
  interfaces := #[]
  cf := some (fileOf pool7 1 #[] #[] 1537 3 #[] #[])
  fields := #[]
  methods := #[]
  instanceTypes := #[]
  staticTypes := #[]
  resolved := Array.replicate 12 none
  statics := none }

def pool8 : Array CpInfo := pool [(1, .class_ 2), (0, u "java/lang/constant/Constable"), (0, .class_ 4), (0, u "java/lang/Object")] 6

/-- java/lang/constant/Constable -/
def k8 : Class := { plain "java/lang/constant/Constable" (some 0) with
  accessFlags := 1537
  interfaces := #[]
  cf := some (fileOf pool8 1 #[] #[] 1537 3 #[] #[])
  fields := #[]
  methods := #[]
  instanceTypes := #[]
  staticTypes := #[]
  resolved := Array.replicate 11 none
  statics := none }

def pool9 : Array CpInfo := pool [(1, .class_ 2), (0, u "java/lang/constant/ConstantDesc"), (0, .class_ 4), (0, u "java/lang/Object")] 32

/-- java/lang/constant/ConstantDesc -/
def k9 : Class := { plain "java/lang/constant/ConstantDesc" (some 0) with
  accessFlags := 1537
  interfaces := #[]
  cf := some (fileOf pool9 1 #[] #[] 1537 3 #[] #[])
  fields := #[]
  methods := #[]
  instanceTypes := #[]
  staticTypes := #[]
  resolved := Array.replicate 37 none
  statics := none }

def pool10 : Array CpInfo := pool [(1, .class_ 2), (0, u "java/lang/Double"), (11, u "(D)Z"), (8, .class_ 25), (1, u "java/lang/Math"), (12, .methodref 23 39), (0, .nameAndType 40 41), (0, u "abs"), (0, u "(D)D"), (69, .double 9218868437227405311), (2, .class_ 116), (1, u "java/lang/Number"), (3, u "value"), (0, u "D"), (5, u "isInfinite"), (45, u "TYPE"), (0, u "Ljava/lang/Class;"), (0, .class_ 176), (0, u "java/lang/Comparable"), (0, .class_ 178), (0, u "java/lang/constant/Constable"), (0, .class_ 180), (0, u "java/lang/constant/ConstantDesc"), (0, u "POSITIVE_INFINITY"), (3, u "NEGATIVE_INFINITY"), (2, u "NaN"), (2, u "MAX_VALUE"), (0, u "MIN_NORMAL"), (0, u "MIN_VALUE"), (2, u "SIZE"), (0, u "I"), (1, u "PRECISION"), (1, u "MAX_EXPONENT"), (1, u "MIN_EXPONENT"), (1, u "BYTES"), (3, u "serialVersionUID"), (0, u "J")] 79

def k10c0 : Code := { maxStack := 4, maxLocals := 2, code := jdk_117_method_7_code, exceptionTable := #[], attributes := #[] }
def k10m0 : Method := { name := "isInfinite", desc := "(D)Z", sig := { parameters := [.double], returnType := some .boolean }, accessFlags := 9, code := some k10c0 }
/-- java/lang/Double -/
def k10 : Class := { plain "java/lang/Double" (some 6) with
  accessFlags := 49
  interfaces := #[7, 8, 9]
  cf := some (fileOf pool10 1 #[] #[{ accessFlags := 9, nameIndex := 127, descriptorIndex := 14, attributes := #[] }] 49 114 #[175, 177, 179] #[{ accessFlags := 25, nameIndex := 181, descriptorIndex := 121, attributes := #[] }, { accessFlags := 25, nameIndex := 185, descriptorIndex := 121, attributes := #[] }, { accessFlags := 25, nameIndex := 188, descriptorIndex := 121, attributes := #[] }, { accessFlags := 25, nameIndex := 191, descriptorIndex := 121, attributes := #[] }, { accessFlags := 25, nameIndex := 192, descriptorIndex := 121, attributes := #[] }, { accessFlags := 25, nameIndex := 193, descriptorIndex := 121, attributes := #[] }, { accessFlags := 25, nameIndex := 196, descriptorIndex := 197, attributes := #[] }, { accessFlags := 25, nameIndex := 199, descriptorIndex := 197, attributes := #[] }, { accessFlags := 25, nameIndex := 201, descriptorIndex := 197, attributes := #[] }, { accessFlags := 25, nameIndex := 203, descriptorIndex := 197, attributes := #[] }, { accessFlags := 25, nameIndex := 205, descriptorIndex := 197, attributes := #[] }, { accessFlags := 25, nameIndex := 173, descriptorIndex := 174, attributes := #[] }, { accessFlags := 18, nameIndex := 120, descriptorIndex := 121, attributes := #[] }, { accessFlags := 26, nameIndex := 209, descriptorIndex := 210, attributes := #[] }])
  fields := #[{ name := "POSITIVE_INFINITY", type := .double, accessFlags := 25, slot := 0, constantValue := 0 }, { name := "NEGATIVE_INFINITY", type := .double, accessFlags := 25, slot := 1, constantValue := 0 }, { name := "NaN", type := .double, accessFlags := 25, slot := 2, constantValue := 0 }, { name := "MAX_VALUE", type := .double, accessFlags := 25, slot := 3, constantValue := 0 }, { name := "MIN_NORMAL", type := .double, accessFlags := 25, slot := 4, constantValue := 0 }, { name := "MIN_VALUE", type := .double, accessFlags := 25, slot := 5, constantValue := 0 }, { name := "SIZE", type := .int, accessFlags := 25, slot := 6, constantValue := 0 }, { name := "PRECISION", type := .int, accessFlags := 25, slot := 7, constantValue := 0 }, { name := "MAX_EXPONENT", type := .int, accessFlags := 25, slot := 8, constantValue := 0 }, { name := "MIN_EXPONENT", type := .int, accessFlags := 25, slot := 9, constantValue := 0 }, { name := "BYTES", type := .int, accessFlags := 25, slot := 10, constantValue := 0 }, { name := "TYPE", type := (.object "java/lang/Class"), accessFlags := 25, slot := 11, constantValue := 0 }, { name := "value", type := .double, accessFlags := 18, slot := 0, constantValue := 0 }, { name := "serialVersionUID", type := .long, accessFlags := 26, slot := 12, constantValue := 0 }]
  methods := #[k10m0]
  instanceTypes := #[.double]
  staticTypes := #[.double, .double, .double, .double, .double, .double, .int, .int, .int, .int, .int, (.object "java/lang/Class"), .long]
  resolved := Array.replicate 290 none
  statics := none }

def pool11 : Array CpInfo := pool [(1, .class_ 2), (0, u "java/lang/Math"), (1, .class_ 6), (1, u "java/lang/Object"), (0, u "<init>"), (0, u "()V"), (5, u "(D)D"), (83, .class_ 100), (1, u "java/lang/Math$RandomNumberGeneratorHolder"), (23, u "abs"), (47, u "negativeZeroFloatBits"), (0, u "J"), (2, u "negativeZeroDoubleBits"), (68, u "$assertionsDisabled"), (0, u "Z"), (91, u "twoToTheDoubleScaleDown"), (0, u "D"), (4, u "twoToTheDoubleScaleUp"), (9, u "E"), (3, u "PI"), (2, u "TAU"), (2, u "DEGREES_TO_RADIANS"), (0, u "RADIANS_TO_DEGREES")] 94

def k11m0 : Method := { name := "<init>", desc := "()V", sig := { parameters := [], returnType := none }, accessFlags := 2, code := none }
def k11c1 : Code := { maxStack := 4, maxLocals := 2, code := jdk_29_method_64_code, exceptionTable := #[], attributes := #[] }
def k11m1 : Method := { name := "abs", desc := "(D)D", sig := { parameters := [.double], returnType := some .double }, accessFlags := 9, code := some k11c1 }
/-- java/lang/Math -/
def k11 : Class := { plain "java/lang/Math" (some 0) with
  accessFlags := 49
  interfaces := #[]
  cf := some (fileOf pool11 1 #[.nestMembers #[98]] #[{ accessFlags := 2, nameIndex := 7, descriptorIndex := 8, attributes := #[] }, { accessFlags := 9, nameIndex := 124, descriptorIndex := 14, attributes := #[] }] 49 4 #[] #[{ accessFlags := 25, nameIndex := 354, descriptorIndex := 339, attributes := #[] }, { accessFlags := 25, nameIndex := 358, descriptorIndex := 339, attributes := #[] }, { accessFlags := 25, nameIndex := 361, descriptorIndex := 339, attributes := #[] }, { accessFlags := 26, nameIndex := 364, descriptorIndex := 339, attributes := #[] }, { accessFlags := 26, nameIndex := 365, descriptorIndex := 339, attributes := #[] }, { accessFlags := 26, nameIndex := 172, descriptorIndex := 173, attributes := #[] }, { accessFlags := 26, nameIndex := 176, descriptorIndex := 173, attributes := #[] }, { accessFlags := 8, nameIndex := 344, descriptorIndex := 339, attributes := #[] }, { accessFlags := 8, nameIndex := 338, descriptorIndex := 339, attributes := #[] }, { accessFlags := 4120, nameIndex := 245, descriptorIndex := 246, attributes := #[] }])
  fields := #[{ name := "E", type := .double, accessFlags := 25, slot := 0, constantValue := 0 }, { name := "PI", type := .double, accessFlags := 25, slot := 1, constantValue := 0 }, { name := "TAU", type := .double, accessFlags := 25, slot := 2, constantValue := 0 }, { name := "DEGREES_TO_RADIANS", type := .double, accessFlags := 26, slot := 3, constantValue := 0 }, { name := "RADIANS_TO_DEGREES", type := .double, accessFlags := 26, slot := 4, constantValue := 0 }, { name := "negativeZeroFloatBits", type := .long, accessFlags := 26, slot := 5, constantValue := 0 }, { name := "negativeZeroDoubleBits", type := .long, accessFlags := 26, slot := 6, constantValue := 0 }, { name := "twoToTheDoubleScaleUp", type := .double, accessFlags := 8, slot := 7, constantValue := 0 }, { name := "twoToTheDoubleScaleDown", type := .double, accessFlags := 8, slot := 8, constantValue := 0 }, { name := "$assertionsDisabled", type := .boolean, accessFlags := 4120, slot := 9, constantValue := 0 }]
  methods := #[k11m0, k11m1]
  instanceTypes := #[]
  staticTypes := #[.double, .double, .double, .double, .double, .long, .long, .double, .double, .boolean]
  resolved := Array.replicate 460 none
  statics := none }

def pool12 : Array CpInfo := pool [(1, u "java/lang/Cloneable"), (0, .class_ 1), (0, u "java/lang/Object"), (0, .class_ 3)] 3

/-- java/lang/Cloneable -/
def k12 : Class := { plain "java/lang/Cloneable" (some 0) with
  accessFlags := 1537
  interfaces := #[]
  cf := some (fileOf pool12 2 #[] #[] 1537 4 #[] #[])
  fields := #[]
  methods := #[]
  instanceTypes := #[]
  staticTypes := #[]
  resolved := Array.replicate 8 none
  statics := none }

/-- the primitive byte -/
def k13 : Class := { plain "byte" none with kind := .primitive 'B', accessFlags := 0x411 }
/-- [B -/
def k14 : Class := { plain "[B" (some 0) with kind := .array 13 .byte, interfaces := #[12, 5], accessFlags := 1041 }

/-- the primitive int -/
def k15 : Class := { plain "int" none with kind := .primitive 'I', accessFlags := 0x411 }
/-- [I -/
def k16 : Class := { plain "[I" (some 0) with kind := .array 15 .int, interfaces := #[12, 5], accessFlags := 1041 }

def heap : Heap := #[]
def classes : Array Class := #[k0, k1, k2, k3, k4, k5, k6, k7, k8, k9, k10, k11, k12, k13, k14, k15, k16]
def interned : List (Array UInt16 × Addr) := []
def slotsUsed : Nat := 0
def theMethod : MethodId := ⟨1, 1⟩
def args0 : Array Value := #[.int 3, .int 3, .int 3, .int 3, .int 3]
def aboutOver (below : List Frame) : State where
  vm := { classes := classes, interned := interned.toArray }
  heap := heap
  slotsUsed := slotsUsed
  threads := #[{ frames := .invoking theMethod args0 :: below }]
def below0 : List Frame := [.native { method := ⟨0, 0⟩, args := #[] }]
def about1 : State := aboutOver below0
def p0 : Program := .bare "" "" ""
def e0 : Env := launch0.env 0 0 0
theorem w_frames : about1.frames = Frame.invoking theMethod args0 :: below0 := rfl
set_option maxRecDepth 65536 in
theorem w_args : argsFit about1.vm theMethod args0 = true := by decide +kernel
set_option maxRecDepth 65536 in
theorem w_heap : heapFits about1 = true := by decide +kernel
set_option maxRecDepth 65536 in
theorem w_runnable : about1.curStatus? = some .runnable := by decide +kernel
set_option maxRecDepth 65536 in
theorem w_alone : about1.alone = true := by decide +kernel
set_option maxRecDepth 65536 in
theorem w_named : about1.methodNamed? x = some theMethod := by decide +kernel
set_option maxRecDepth 65536 in
theorem w_hears : about1.hears theMethod below0 = true := by decide +kernel
set_option maxRecDepth 65536 in
theorem w_ripe : about1.ripe theMethod args0 below0 = true := by decide +kernel
theorem w_running : about1.status = .running := rfl
set_option maxRecDepth 65536 in
theorem w_room : about1.hasRoom e0.platform room_1 = true :=
  launch0.hasRoom_least _ room_1 (by decide +kernel) (by decide +kernel) (by decide +kernel) (by decide +kernel) (by decide +kernel) (by decide +kernel)
theorem allAtoms_all (ts : List Jvm.Cond) (a : Array Jvm.Value) (st : Jvm.State) : (allAtoms ts).before a st = ts.all (fun c => c.before a st) := by
  induction ts with
  | nil => rfl
  | cons c t ih =>
    show (Jvm.Cond.and c (allAtoms t)).before a st = _
    rw [Jvm.Cond.before_and, ih, List.all_cons]
def words1 : List Jvm.Cond := Jvm.Cond.code x code maxLocals ret :: tables_1
/-- a 'code' word, met by the world's own term for the bytes: nothing is compared byte by byte -/
theorem code_word {y : MethodName} {bytes : ByteArray} {mx : Nat} {rt : Option FieldType} {a : Array Value} {s : State} {m : MethodId} {meth : Method} {c : Code} (h1 : s.methodNamed? y = some m) (h2 : s.vm.method? m = some meth) (h3 : meth.code = some c) (h4 : c.code = bytes)
    (h5 : (c.maxLocals == mx && c.exceptionTable.isEmpty && decide (c.maxStack ≤ mostOperands) && decide (meth.sig.returnType = rt) && !meth.locks && decide (parseMethodDescriptor y.desc = some meth.sig)) = true) : (Jvm.Cond.code y bytes mx rt).before a s = true := by
  simp only [Bool.and_eq_true, beq_iff_eq, Bool.not_eq_true', decide_eq_true_eq] at h5
  obtain ⟨⟨⟨⟨⟨g1, g2⟩, g3⟩, g4⟩, g5⟩, g6⟩ := h5
  simp [Cond.before, Cond.holds, Cond.value, h1, h2, h3, h4, g1, g2, g3, g4, g5, g6]
def isCode : Jvm.Cond → Bool
  | .code _ _ _ _ => true
  | _ => false
theorem all_split {L : List Jvm.Cond} {P : Jvm.Cond → Bool} (h1 : L.all (fun c => isCode c || P c) = true) (h2 : ∀ c ∈ L.filter isCode, P c = true) : L.all P = true := by
  refine List.all_eq_true.mpr fun c hc => ?_
  have h := List.all_eq_true.mp h1 c hc
  rcases Bool.eq_false_or_eq_true (isCode c) with hi | hi
  · exact h2 c (List.mem_filter.mpr ⟨hc, hi⟩)
  · simpa [hi] using h
set_option maxRecDepth 65536 in
theorem w_c0 : (Jvm.Cond.code x code maxLocals ret).before args0 about1 = true := code_word (m := ⟨1, 1⟩) (meth := k1m1) (c := k1c1) (by decide +kernel) rfl rfl rfl (by decide +kernel)
set_option maxRecDepth 65536 in
theorem w_c1 : (Jvm.Cond.code ({ cls := "com/example/foglane/foglane/uncertainty/UncertainQuantity$Triangular", name := "<init>", desc := "(DDD)V" } : Jvm.MethodName) prog_102_method_1_code (7 : Nat) (Option.none : Option Jvm.ClassFile.FieldType)).before args0 about1 = true := code_word (m := ⟨4, 0⟩) (meth := k4m0) (c := k4c0) (by decide +kernel) rfl rfl rfl (by decide +kernel)
set_option maxRecDepth 65536 in
theorem w_c2 : (Jvm.Cond.code ({ cls := "java/lang/Record", name := "<init>", desc := "()V" } : Jvm.MethodName) jdk_30_method_1_code (1 : Nat) (Option.none : Option Jvm.ClassFile.FieldType)).before args0 about1 = true := code_word (m := ⟨2, 0⟩) (meth := k2m0) (c := k2c0) (by decide +kernel) rfl rfl rfl (by decide +kernel)
set_option maxRecDepth 65536 in
theorem w_c3 : (Jvm.Cond.code ({ cls := "java/lang/Object", name := "<init>", desc := "()V" } : Jvm.MethodName) object_method_1_code (1 : Nat) (Option.none : Option Jvm.ClassFile.FieldType)).before args0 about1 = true := code_word (m := ⟨0, 0⟩) (meth := k0m0) (c := k0c0) (by decide +kernel) rfl rfl rfl (by decide +kernel)
set_option maxRecDepth 65536 in
theorem w_c4 : (Jvm.Cond.code ({ cls := "java/lang/Double", name := "isInfinite", desc := "(D)Z" } : Jvm.MethodName) jdk_117_method_7_code (2 : Nat) (Option.some Jvm.ClassFile.FieldType.boolean)).before args0 about1 = true := code_word (m := ⟨10, 0⟩) (meth := k10m0) (c := k10c0) (by decide +kernel) rfl rfl rfl (by decide +kernel)
set_option maxRecDepth 65536 in
theorem w_c5 : (Jvm.Cond.code ({ cls := "java/lang/Math", name := "abs", desc := "(D)D" } : Jvm.MethodName) jdk_29_method_64_code (2 : Nat) (Option.some Jvm.ClassFile.FieldType.double)).before args0 about1 = true := code_word (m := ⟨11, 1⟩) (meth := k11m1) (c := k11c1) (by decide +kernel) rfl rfl rfl (by decide +kernel)
set_option maxRecDepth 65536 in
theorem w_c6 : (Jvm.Cond.code ({ cls := "com/example/foglane/foglane/uncertainty/UncertainQuantity$Triangular", name := "exceeds", desc := "(D)D" } : Jvm.MethodName) prog_102_method_5_code (7 : Nat) (Option.some Jvm.ClassFile.FieldType.double)).before args0 about1 = true := code_word (m := ⟨4, 1⟩) (meth := k4m1) (c := k4c1) (by decide +kernel) rfl rfl rfl (by decide +kernel)
def codes1 : List Jvm.Cond := [Jvm.Cond.code x code maxLocals ret, Jvm.Cond.code ({ cls := "com/example/foglane/foglane/uncertainty/UncertainQuantity$Triangular", name := "<init>", desc := "(DDD)V" } : Jvm.MethodName) prog_102_method_1_code (7 : Nat) (Option.none : Option Jvm.ClassFile.FieldType), Jvm.Cond.code ({ cls := "java/lang/Record", name := "<init>", desc := "()V" } : Jvm.MethodName) jdk_30_method_1_code (1 : Nat) (Option.none : Option Jvm.ClassFile.FieldType), Jvm.Cond.code ({ cls := "java/lang/Object", name := "<init>", desc := "()V" } : Jvm.MethodName) object_method_1_code (1 : Nat) (Option.none : Option Jvm.ClassFile.FieldType), Jvm.Cond.code ({ cls := "java/lang/Double", name := "isInfinite", desc := "(D)Z" } : Jvm.MethodName) jdk_117_method_7_code (2 : Nat) (Option.some Jvm.ClassFile.FieldType.boolean), Jvm.Cond.code ({ cls := "java/lang/Math", name := "abs", desc := "(D)D" } : Jvm.MethodName) jdk_29_method_64_code (2 : Nat) (Option.some Jvm.ClassFile.FieldType.double), Jvm.Cond.code ({ cls := "com/example/foglane/foglane/uncertainty/UncertainQuantity$Triangular", name := "exceeds", desc := "(D)D" } : Jvm.MethodName) prog_102_method_5_code (7 : Nat) (Option.some Jvm.ClassFile.FieldType.double)]
set_option maxRecDepth 65536 in
theorem codes_eq : words1.filter isCode = codes1 := rfl
theorem w_codes : ∀ c ∈ words1.filter isCode, c.before args0 about1 = true := by
  rw [codes_eq]
  intro c hc
  simp only [codes1, List.mem_cons, List.not_mem_nil, or_false] at hc
  rcases hc with rfl | rfl | rfl | rfl | rfl | rfl | rfl
  · exact w_c0
  · exact w_c1
  · exact w_c2
  · exact w_c3
  · exact w_c4
  · exact w_c5
  · exact w_c6
set_option maxRecDepth 65536 in
theorem w_t1 : (words1.take 24).all (fun c => isCode c || c.before args0 about1) = true := by decide +kernel
set_option maxRecDepth 65536 in
theorem w_t2 : (words1.drop 24).all (fun c => isCode c || c.before args0 about1) = true := by decide +kernel
theorem w_tables : (allAtoms (Jvm.Cond.code x code maxLocals ret :: tables_1)).before args0 about1 = true := by
  rw [allAtoms_all]
  show words1.all (fun c => c.before args0 about1) = true
  refine all_split ?_ w_codes
  rw [← List.take_append_drop 24 words1, List.all_append, w_t1, w_t2]
  rfl
set_option maxRecDepth 65536 in
theorem w_case : (Jvm.Cond.and given_1 narrow_1).before args0 about1 = true := by decide +kernel
theorem w_applies : (headSpec (Jvm.Cond.code x code maxLocals ret :: tables_1) room_1).applies x e0.platform about1 = true :=
  (Spec.applies_iff w_frames).mpr ⟨w_running, w_runnable, w_alone, w_named, w_hears, w_ripe, w_room, w_tables⟩
theorem atStart : AtStart classFile x code maxLocals ret World_1 tables_1 room_1 Calls_1 rest_1 Pre_1 launch0 p0 e0 about1 theMethod args0 below0 :=
  ⟨lists_1, trivial, launch0.admits_env _ _ _, launch0.least_env, fairChoices_fair.cas, fairChoices_fair.clock, w_frames, w_args, w_heap, w_applies, trivial, trivial, w_case⟩
end start1
theorem witness_1 : WitnessClaimed_1 := ⟨start1.p0, start1.e0, start1.about1, start1.theMethod, start1.args0, start1.below0, start1.atStart⟩
end Jvm.Pilot.@@N@@
