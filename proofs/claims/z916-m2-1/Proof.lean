import JvmDerived
import JvmDerived.Pilot.@@N@@Statement
import JvmDerived.Pilot.@@N@@Code
set_option linter.unusedVariables false
set_option linter.unusedSimpArgs false
@@BLOCK:NumsL.lean.txt@@
namespace Jvm.RoadKit
open Sem ClassFile Op Lib Jvm.Stand Jvm.Free Jvm.LawKit
section New
variable {p : Program} {l : Launch} {e : Env} {R : Room} {s : State} {m : MethodId} {args : Array Value} {below : List Frame} {meth : Method} {c : Code} {T : State} {locs : List Loc} {cells slots : Nat}
theorem retI (X : Stand p l e R s m args below meth c T locs cells slots) (hx : p.tables.exec = Jvm.exec) {pc : Nat} {Ls : Array Slot} {z : Int32} {rest : List Value} (hret : meth.sig.returnType = some .int) (hd : decode c.code pc = .ok (.ireturn, 1)) {fs : List Frame}
    (hl : ∀ (f : JFrame) (acts : List Action), f.method = m → f.locked = none → f.entered = [] → (doReturn e (T.setTop f) acts (some (.int z))).1 = T.setFrames fs) : Steps p.tables e below (T.setTop (mkF m pc Ls (.int z :: rest))) (T.setFrames fs) := by
  have hm' : T.vm.method? m = some meth := X.method'
  have hn : narrow .int (.int z) = .int z := rfl
  show Steps p.tables e below (T.setTop { method := m, pc := pc, locals := Ls, stack := _ :: rest, locked := none }) _
  jvm_step X.here [X.here.top, hx, hd, hm', hret, hn]
  first | (intro acts; rw [hl _ acts rfl rfl rfl]) | rw [hl _ _ rfl rfl rfl]
  exact Steps.refl _
end New
end Jvm.RoadKit
namespace Jvm.OwnFP
open Jvm.FP
/-- a double's value in units of 2^-1074 -/
def zv (a : UInt64) : Int := Core.zval Core.b64 (Core.val64 a)
/-- how many units make one -/
def U : Int := (Core.one64 : Int)
theorem U_pos : 0 < U := by have := Core.one64_pos; unfold U; omega
theorem U_pow (k : Nat) (h : k ≤ 1074) : U = 2 ^ (1074 - k) * 2 ^ k := by
  have e : (2 : Int) ^ (1074 - k) * 2 ^ k = 2 ^ 1074 := by rw [← Int.pow_add]; congr 1; omega
  rw [e]; unfold U Core.one64; rw [Int.natCast_pow]; rfl
theorem pow_pos (k : Nat) : (0 : Int) < 2 ^ k := Int.pow_pos (by decide)
theorem notNan {a : UInt64} (h : Core.DFin a) : Core.val64 a ≠ .nan := by obtain ⟨s, c, q, h⟩ := h; rw [h]; exact Core.Datum.noConfusion
theorem fin_parts {a : UInt64} (h : Core.DFin a) : ∃ (s : Bool) (c i : Nat), Core.val64 a = .fin s c ((i : Int) - 1074) ∧ Core.fits Core.b64 (.fin s c ((i : Int) - 1074)) ∧ zv a = Core.signed s (c * 2 ^ i) := by
  obtain ⟨s, c, q, h⟩ := h
  have hf := Core.val64_fits a
  rw [h] at hf
  have hq : -1074 ≤ q := by have := hf.2.1; rw [Core.qmin_b64] at this; exact this
  obtain ⟨i, hi⟩ : ∃ i : Nat, q = (i : Int) - 1074 := ⟨(q + 1074).toNat, by omega⟩
  subst hi
  refine ⟨s, c, i, h, hf, ?_⟩
  unfold zv Core.zval; rw [h]
  show Core.signed s (c * 2 ^ ((i : Int) - 1074 - Core.b64.qmin).toNat) = _
  rw [Core.qmin_b64, show ((i : Int) - 1074 - -1074).toNat = i by omega]
/-- rounding a quotient is monotone: at most a number of the format -/
theorem ratio_le {s : Bool} {A B : Nat} {e e0 : Int} {V : Core.Datum} (hB : 0 < B) (hV : Core.fits Core.b64 V) (hn : V ≠ .nan) (h0 : e0 ≤ Core.b64.qmin) (h0e : e0 ≤ e)
    (h : Core.signed s (Core.inUnits A e e0) ≤ Core.zval Core.b64 V * ((2 ^ (Core.b64.qmin - e0).toNat * B : Nat) : Int)) :
    Core.zval Core.b64 (Core.roundRatio Core.b64 s A B e) ≤ Core.zval Core.b64 V := by
  have hle := Core.zmag_roundRatio_le Core.good_b64 (s := s) (A := A) hB hV hn h0 h0e
  have hge := Core.zmag_roundRatio_ge Core.good_b64 (s := s) (A := A) hB hV h0 h0e
  have hP : 0 < 2 ^ (Core.b64.qmin - e0).toNat * B := Nat.mul_pos (Nat.two_pow_pos _) hB
  rw [Nat.mul_assoc] at hle hge
  unfold Core.zval at h ⊢
  rw [Core.sgn_roundRatio]
  rw [← Core.signed_mul] at h
  have hz : Core.zmag Core.b64 V * (2 ^ (Core.b64.qmin - e0).toNat * B) = 0 → Core.zmag Core.b64 V = 0 := fun q => by
    rcases Nat.mul_eq_zero.mp q with q | q
    · exact q
    · omega
  generalize Core.zmag Core.b64 V * (2 ^ (Core.b64.qmin - e0).toNat * B) = vP at *
  generalize Core.sgn V = t at *
  generalize Core.zmag Core.b64 V = z at *
  generalize Core.zmag Core.b64 (Core.roundRatio Core.b64 s A B e) = r at *
  generalize Core.inUnits A e e0 = x at *
  cases s <;> cases t <;> simp only [Core.signed, if_true, Bool.false_eq_true, if_false] at h ⊢
  · have := hle (by omega); omega
  · have := hle (by omega); have := hz (by omega); omega
  · omega
  · have := hge (by omega); omega
theorem ratio_ge {s : Bool} {A B : Nat} {e e0 : Int} {V : Core.Datum} (hB : 0 < B) (hV : Core.fits Core.b64 V) (hn : V ≠ .nan) (h0 : e0 ≤ Core.b64.qmin) (h0e : e0 ≤ e)
    (h : Core.zval Core.b64 V * ((2 ^ (Core.b64.qmin - e0).toNat * B : Nat) : Int) ≤ Core.signed s (Core.inUnits A e e0)) :
    Core.zval Core.b64 V ≤ Core.zval Core.b64 (Core.roundRatio Core.b64 s A B e) := by
  have h1 := ratio_le (s := !s) (V := Core.negate V) hB (Core.negate_fits hV) (Core.negate_ne_nan hn) h0 h0e (by
    rw [Core.zval_negate, Int.neg_mul, Core.signed_not]; exact Int.neg_le_neg h)
  rw [Core.zval_negate, ← Core.negate_roundRatio, Core.zval_negate] at h1
  omega
theorem signed_pos_parts {t : Bool} {n : Nat} (h : 0 < Core.signed t n) : t = false ∧ 0 < n := by
  cases t <;> simp [Core.signed] at h ⊢ <;> omega
/-- the quotient as a rounded ratio -/
theorem ddiv_parts {a b : UInt64} (ha : Core.DFin a) (hb : Core.DFin b) (pb : 0 < zv b) :
    ∃ (s : Bool) (c d i j : Nat), zv a = Core.signed s (c * 2 ^ i) ∧ zv b = ((d * 2 ^ j : Nat) : Int) ∧ 0 < d ∧ Core.val64 (FP.ddiv a b) = Core.roundRatio Core.b64 s c d ((i : Int) - (j : Int)) := by
  obtain ⟨s, c, i, h1, f1, z1⟩ := fin_parts ha
  obtain ⟨t, d, j, h2, f2, z2⟩ := fin_parts hb
  rw [z2] at pb
  obtain ⟨rfl, hd⟩ := signed_pos_parts pb
  have hd' : 0 < d := Nat.pos_of_mul_pos_right hd
  refine ⟨s, c, d, i, j, z1, z2, hd', ?_⟩
  show Core.val64 (Core.ddiv a b) = _
  rw [Core.val64_ddiv, h1, h2]
  show (if d = 0 then _ else Core.roundRatio Core.b64 (s != false) c d ((i : Int) - 1074 - ((j : Int) - 1074))) = _
  rw [if_neg (by omega), show ((i : Int) - 1074 - ((j : Int) - 1074)) = (i : Int) - j by omega]
  cases s <;> rfl
theorem div_key {s : Bool} {c d i j : Nat} : Core.signed s (Core.inUnits c ((i : Int) - j) (-1074 - (j : Int))) = Core.signed s (c * 2 ^ i) * U ∧ ((2 ^ (Core.b64.qmin - (-1074 - (j : Int))).toNat * d : Nat) : Int) = ((d * 2 ^ j : Nat) : Int) := by
  constructor
  · unfold Core.inUnits
    rw [show ((i : Int) - j - (-1074 - (j : Int))).toNat = i + 1074 by omega, Nat.pow_add, ← Nat.mul_assoc, Core.signed_mul]
    rfl
  · rw [Core.qmin_b64, show (-1074 - (-1074 - (j : Int))).toNat = j by omega, Nat.mul_comm]
theorem ddiv_le {a b V : UInt64} (ha : Core.DFin a) (hb : Core.DFin b) (pb : 0 < zv b) (hV : Core.val64 V ≠ .nan) (h : zv a * U ≤ zv V * zv b) : zv (FP.ddiv a b) ≤ zv V := by
  obtain ⟨s, c, d, i, j, z1, z2, hd, hr⟩ := ddiv_parts ha hb pb
  have e : zv (FP.ddiv a b) = Core.zval Core.b64 (Core.roundRatio Core.b64 s c d ((i : Int) - (j : Int))) := by unfold zv; rw [hr]
  rw [e]
  refine ratio_le (e0 := -1074 - (j : Int)) hd (Core.val64_fits V) hV (by rw [Core.qmin_b64]; omega) (by omega) ?_
  rw [(div_key (d := d)).1, (div_key (s := s) (c := c) (i := i)).2, ← z1, ← z2]; exact h
theorem ddiv_ge {a b V : UInt64} (ha : Core.DFin a) (hb : Core.DFin b) (pb : 0 < zv b) (hV : Core.val64 V ≠ .nan) (h : zv V * zv b ≤ zv a * U) : zv V ≤ zv (FP.ddiv a b) := by
  obtain ⟨s, c, d, i, j, z1, z2, hd, hr⟩ := ddiv_parts ha hb pb
  have e : zv (FP.ddiv a b) = Core.zval Core.b64 (Core.roundRatio Core.b64 s c d ((i : Int) - (j : Int))) := by unfold zv; rw [hr]
  rw [e]
  refine ratio_ge (e0 := -1074 - (j : Int)) hd (Core.val64_fits V) hV (by rw [Core.qmin_b64]; omega) (by omega) ?_
  rw [(div_key (d := d)).1, (div_key (s := s) (c := c) (i := i)).2, ← z1, ← z2]; exact h
theorem ddiv_nn {a b : UInt64} (ha : Core.DFin a) (hb : Core.DFin b) (pb : 0 < zv b) : Core.val64 (FP.ddiv a b) ≠ .nan := by
  obtain ⟨s, c, d, i, j, z1, z2, hd, hr⟩ := ddiv_parts ha hb pb
  rw [hr]; exact Core.roundRatio_ne_nan _ _ _ _ _
/-- two quotients of one value -/
theorem ddiv_congr {a b a' b' : UInt64} (ha : Core.DFin a) (hb : Core.DFin b) (pb : 0 < zv b) (ha' : Core.DFin a') (hb' : Core.DFin b') (pb' : 0 < zv b') (hs : Core.sgn (Core.val64 a) = Core.sgn (Core.val64 a')) (h : zv a * zv b' = zv a' * zv b) : FP.ddiv a b = FP.ddiv a' b' := by
  obtain ⟨s, c, i, h1, f1, z1⟩ := fin_parts ha
  obtain ⟨s', c', i', h1', f1', z1'⟩ := fin_parts ha'
  obtain ⟨t, d, j, h2, f2, z2⟩ := fin_parts hb
  obtain ⟨t', d', j', h2', f2', z2'⟩ := fin_parts hb'
  rw [z2] at pb; rw [z2'] at pb'
  obtain ⟨rfl, hd⟩ := signed_pos_parts pb
  obtain ⟨rfl, hd'⟩ := signed_pos_parts pb'
  have hd1 : 0 < d := Nat.pos_of_mul_pos_right hd
  have hd1' : 0 < d' := Nat.pos_of_mul_pos_right hd'
  have es : s = s' := by rw [h1, h1'] at hs; exact hs
  subst es
  show Core.of64 (Core.quotient Core.b64 (Core.val64 a) (Core.val64 b)) = Core.of64 (Core.quotient Core.b64 (Core.val64 a') (Core.val64 b'))
  congr 1
  rw [h1, h2, h1', h2']
  show (if d = 0 then _ else Core.roundRatio Core.b64 (s != false) c d ((i : Int) - 1074 - ((j : Int) - 1074))) = (if d' = 0 then _ else Core.roundRatio Core.b64 (s != false) c' d' ((i' : Int) - 1074 - ((j' : Int) - 1074)))
  rw [if_neg (by omega), if_neg (by omega)]
  apply Core.roundRatio_congr hd1 hd1'
  have hn : (c * 2 ^ i) * (d' * 2 ^ j') = (c' * 2 ^ i') * (d * 2 ^ j) := by
    rw [z1, z1', z2, z2'] at h
    have : ∀ n : Nat, Core.signed false n = (n : Int) := fun _ => rfl
    rw [this, this, ← Core.signed_mul, ← Core.signed_mul] at h
    have := congrArg Int.natAbs h
    rwa [Core.natAbs_signed, Core.natAbs_signed] at this
  generalize hE : (i : Int) - 1074 - ((j : Int) - 1074) = E
  generalize hE' : (i' : Int) - 1074 - ((j' : Int) - 1074) = E'
  have k1 : c * d' * 2 ^ (i + j') = c' * d * 2 ^ (i' + j) := by
    rw [Nat.pow_add, Nat.pow_add]
    calc c * d' * (2 ^ i * 2 ^ j') = (c * 2 ^ i) * (d' * 2 ^ j') := by ac_rfl
      _ = (c' * 2 ^ i') * (d * 2 ^ j) := hn
      _ = c' * d * (2 ^ i' * 2 ^ j) := by ac_rfl
  by_cases hle : i' + j ≤ i + j'
  · have e1 : (E - E').toNat = i + j' - (i' + j) := by omega
    have e2 : (E' - E).toNat = 0 := by omega
    rw [e1, e2]
    have : 2 ^ (i + j') = 2 ^ (i + j' - (i' + j)) * 2 ^ (i' + j) := by rw [← Nat.pow_add]; congr 1; omega
    rw [this, ← Nat.mul_assoc] at k1
    simpa using Nat.eq_of_mul_eq_mul_right (Nat.two_pow_pos _) k1
  · have e1 : (E - E').toNat = 0 := by omega
    have e2 : (E' - E).toNat = i' + j - (i + j') := by omega
    rw [e1, e2]
    have : 2 ^ (i' + j) = 2 ^ (i' + j - (i + j')) * 2 ^ (i + j') := by rw [← Nat.pow_add]; congr 1; omega
    rw [this, ← Nat.mul_assoc] at k1
    simpa using Nat.eq_of_mul_eq_mul_right (Nat.two_pow_pos _) k1
theorem dmul_parts {a b : UInt64} (ha : Core.DFin a) (hb : Core.DFin b) :
    ∃ (s : Bool) (n : Nat) (e : Int), Core.val64 (FP.dmul a b) = Core.round Core.b64 (.fin s n e) ∧ -2148 ≤ e ∧ Core.signed s (Core.inUnits n e (-2148)) = zv a * zv b := by
  obtain ⟨s, c, i, h1, f1, z1⟩ := fin_parts ha
  obtain ⟨t, d, j, h2, f2, z2⟩ := fin_parts hb
  obtain ⟨p1, p2, p3⟩ := Core.product_units f1 f2
  refine ⟨s != t, c * d, (i : Int) - 1074 + ((j : Int) - 1074), ?_, by omega, ?_⟩
  · show Core.val64 (Core.dmul a b) = _
    rw [Core.val64_dmul, h1, h2, p1]
  · rw [z1, z2]
    unfold Core.inUnits
    rw [show ((i : Int) - 1074 + ((j : Int) - 1074) - (-2148)).toNat = i + j by omega, Nat.pow_add,
      show c * d * (2 ^ i * 2 ^ j) = (c * 2 ^ i) * (d * 2 ^ j) by ac_rfl, Core.signed_xor]
theorem mul_key : ((2 ^ (Core.b64.qmin - (-2148 : Int)).toNat : Nat) : Int) = U := by
  rw [Core.qmin_b64]; rfl
theorem dmul_le {a b V : UInt64} (ha : Core.DFin a) (hb : Core.DFin b) (hV : Core.val64 V ≠ .nan) (h : zv a * zv b ≤ zv V * U) : zv (FP.dmul a b) ≤ zv V := by
  obtain ⟨s, n, e, h1, h2, h3⟩ := dmul_parts ha hb
  have e1 : zv (FP.dmul a b) = Core.zval Core.b64 (Core.round Core.b64 (.fin s n e)) := by unfold zv; rw [h1]
  rw [e1]
  refine Core.zval_round_le Core.good_b64 (e0 := -2148) (Core.val64_fits V) hV (by rw [Core.qmin_b64]; decide) h2 ?_
  rw [h3, mul_key]; exact h
theorem dmul_ge {a b V : UInt64} (ha : Core.DFin a) (hb : Core.DFin b) (hV : Core.val64 V ≠ .nan) (h : zv V * U ≤ zv a * zv b) : zv V ≤ zv (FP.dmul a b) := by
  obtain ⟨s, n, e, h1, h2, h3⟩ := dmul_parts ha hb
  have e1 : zv (FP.dmul a b) = Core.zval Core.b64 (Core.round Core.b64 (.fin s n e)) := by unfold zv; rw [h1]
  rw [e1]
  refine Core.zval_round_ge Core.good_b64 (e0 := -2148) (Core.val64_fits V) hV (by rw [Core.qmin_b64]; decide) h2 ?_
  rw [h3, mul_key]; exact h
theorem dmul_nn {a b : UInt64} (ha : Core.DFin a) (hb : Core.DFin b) : Core.val64 (FP.dmul a b) ≠ .nan := by
  obtain ⟨s, n, e, h1, h2, h3⟩ := dmul_parts ha hb
  rw [h1]; exact Core.roundRatio_ne_nan _ _ _ _ _
theorem dadd_le {a b V : UInt64} (ha : Core.DFin a) (hb : Core.DFin b) (hV : Core.val64 V ≠ .nan) (h : zv a + zv b ≤ zv V) : zv (FP.dadd a b) ≤ zv V := by
  have := Core.sum_le Core.good_b64 ha hb (Core.val64_fits a) (Core.val64_fits b) (Core.val64_fits V) hV h
  unfold zv; show Core.zval Core.b64 (Core.val64 (Core.dadd a b)) ≤ _
  rw [Core.val64_dadd]; exact this
theorem dadd_ge {a b V : UInt64} (ha : Core.DFin a) (hb : Core.DFin b) (hV : Core.val64 V ≠ .nan) (h : zv V ≤ zv a + zv b) : zv V ≤ zv (FP.dadd a b) := by
  have := Core.sum_ge Core.good_b64 ha hb (Core.val64_fits a) (Core.val64_fits b) (Core.val64_fits V) hV h
  unfold zv; show _ ≤ Core.zval Core.b64 (Core.val64 (Core.dadd a b))
  rw [Core.val64_dadd]; exact this
theorem dadd_nn {a b : UInt64} (ha : Core.DFin a) (hb : Core.DFin b) : Core.val64 (FP.dadd a b) ≠ .nan := by
  have := Core.dadd_out (notNaN_of ha) hb
  exact (Core.notNaN_iff _).mp this
where notNaN_of {a : UInt64} (h : Core.DFin a) : Core.dIsNaN a = false := (Core.notNaN_iff a).mpr (notNan h)
theorem zv_dneg (a : UInt64) : zv (FP.dneg a) = - zv a := by
  unfold zv; rw [FP.val64_dneg, Core.zval_negate]
theorem fin_dneg {a : UInt64} (h : Core.DFin a) : Core.DFin (FP.dneg a) := by
  obtain ⟨s, c, q, h⟩ := h
  refine ⟨!s, c, q, ?_⟩
  rw [FP.val64_dneg, h]; rfl
theorem dsub_dadd {a b : UInt64} (hb : Core.DFin b) : FP.dsub a b = FP.dadd a (FP.dneg b) := by
  have h1 : FP.dneg b = Core.dneg b := FP.dneg_core ((Core.notNaN_iff b).mpr (notNan hb))
  rw [h1]; exact Core.dsub_eq a b
theorem dsub_le {a b V : UInt64} (ha : Core.DFin a) (hb : Core.DFin b) (hV : Core.val64 V ≠ .nan) (h : zv a - zv b ≤ zv V) : zv (FP.dsub a b) ≤ zv V := by
  rw [dsub_dadd hb]; exact dadd_le ha (fin_dneg hb) hV (by rw [zv_dneg]; omega)
theorem dsub_ge {a b V : UInt64} (ha : Core.DFin a) (hb : Core.DFin b) (hV : Core.val64 V ≠ .nan) (h : zv V ≤ zv a - zv b) : zv V ≤ zv (FP.dsub a b) := by
  rw [dsub_dadd hb]; exact dadd_ge ha (fin_dneg hb) hV (by rw [zv_dneg]; omega)
theorem dsub_nn {a b : UInt64} (ha : Core.DFin a) (hb : Core.DFin b) : Core.val64 (FP.dsub a b) ≠ .nan := by
  rw [dsub_dadd hb]; exact dadd_nn ha (fin_dneg hb)
/-- finite, if it lies between two finite ones -/
theorem fin_between {a V W : UInt64} (n : Core.val64 a ≠ .nan) (hV : Core.DFin V) (hW : Core.DFin W) (h1 : zv V ≤ zv a) (h2 : zv a ≤ zv W) : Core.DFin a := by
  have hv := hV.zval_lt; have hw := hW.zval_lt
  unfold zv Core.zval at h1 h2
  cases e : Core.val64 a with
  | nan => exact absurd e n
  | fin s c q => exact ⟨s, c, q, e⟩
  | inf s =>
    exfalso
    rw [e] at h1 h2
    have t : Core.zmag Core.b64 (.inf s) = Core.b64.tails * 2 ^ (Core.b64.exps - 2) := rfl
    rw [t] at h1 h2
    generalize Core.b64.tails * 2 ^ (Core.b64.exps - 2) = top at *
    generalize Core.zmag Core.b64 (Core.val64 V) = v at *
    generalize Core.zmag Core.b64 (Core.val64 W) = w at *
    generalize Core.sgn (Core.val64 V) = sv at *
    generalize Core.sgn (Core.val64 W) = sw at *
    cases s <;> cases sv <;> cases sw <;> simp [Core.signed, Core.sgn] at h1 h2 <;> omega
theorem signed_of (n : Int) : Core.signed (decide (n < 0)) n.natAbs = n := by
  unfold Core.signed
  by_cases q : n < 0
  · simp [q]; omega
  · simp [q]; omega
/-- n * 2^E units are a double -/
theorem repE (n : Int) (E : Nat) (hn : n.natAbs < 2 ^ 53) (hE : E ≤ 2045) : ∃ V, Core.DFin V ∧ zv V = n * 2 ^ E := by
  have hq : Core.b64.qmax = 971 := by decide
  obtain ⟨c', q', h1, h2⟩ := Core.round_exact Core.good_b64 (decide (n < 0)) (c := n.natAbs) (q := (E : Int) - 1074) hn (by rw [Core.qmin_b64]; omega) (by rw [hq]; omega)
  have h3 : Core.val64 (Core.of64 (Core.round Core.b64 (.fin (decide (n < 0)) n.natAbs ((E : Int) - 1074)))) = .fin (decide (n < 0)) c' q' := by
    rw [Core.val64_of64 (Core.round_fits Core.good_b64 _), h1]
  refine ⟨_, ⟨_, _, _, h3⟩, ?_⟩
  unfold zv Core.zval
  rw [h3]
  show Core.signed (decide (n < 0)) (Core.inUnits c' q' Core.b64.qmin) = _
  rw [h2]
  unfold Core.inUnits
  rw [Core.qmin_b64, show ((E : Int) - 1074 - -1074).toNat = E by omega, Core.signed_mul, signed_of, Int.natCast_pow]
  rfl
/-- n / 2^k is a double -/
theorem rep (n : Int) (k : Nat) (hn : n.natAbs ≤ 2 ^ 53) (hk : k ≤ 1000) : ∃ V, Core.DFin V ∧ zv V * 2 ^ k = n * U := by
  by_cases h : n.natAbs < 2 ^ 53
  · obtain ⟨V, fV, zV⟩ := repE n (1074 - k) h (by omega)
    exact ⟨V, fV, by rw [zV, U_pow k (by omega), Int.mul_assoc]⟩
  · by_cases hs : n < 0
    · obtain ⟨V, fV, zV⟩ := repE (-1) (53 + (1074 - k)) (by decide) (by omega)
      exact ⟨V, fV, by rw [zV, U_pow k (by omega), show n = -1 * 2 ^ 53 by omega, Int.pow_add]; ac_rfl⟩
    · obtain ⟨V, fV, zV⟩ := repE 1 (53 + (1074 - k)) (by decide) (by omega)
      exact ⟨V, fV, by rw [zV, U_pow k (by omega), show n = 1 * 2 ^ 53 by omega, Int.pow_add]; ac_rfl⟩
/-- and so are, with the infinities, the numbers up to 2^53 * 2^E -/
theorem repI (n : Int) (E : Nat) (hn : n.natAbs ≤ 2 ^ 53) (hE : E ≤ 2045) : ∃ V, Core.val64 V ≠ .nan ∧ zv V = n * 2 ^ E := by
  by_cases h : n.natAbs < 2 ^ 53
  · obtain ⟨V, fV, zV⟩ := repE n E h hE; exact ⟨V, notNan fV, zV⟩
  · by_cases hE2 : E + 53 ≤ 2045
    · by_cases hs : n < 0
      · obtain ⟨V, fV, zV⟩ := repE (-1) (53 + E) (by decide) (by omega)
        exact ⟨V, notNan fV, by rw [zV, show n = -1 * 2 ^ 53 by omega, Int.pow_add, Int.mul_assoc]⟩
      · obtain ⟨V, fV, zV⟩ := repE 1 (53 + E) (by decide) (by omega)
        exact ⟨V, notNan fV, by rw [zV, show n = 1 * 2 ^ 53 by omega, Int.pow_add, Int.mul_assoc]⟩
    · by_cases hE3 : E = 2045
      · subst hE3
        have v1 : Core.val64 9218868437227405312 = .inf false := by decide +kernel
        have v2 : Core.val64 18442240474082181120 = .inf true := by decide +kernel
        have z1 : Core.zmag Core.b64 (.inf false) = 2 ^ 53 * 2 ^ 2045 := by decide +kernel
        by_cases hs : n < 0
        · refine ⟨18442240474082181120, by rw [v2]; exact Core.Datum.noConfusion, ?_⟩
          unfold zv Core.zval; rw [v2]
          show Core.signed true (Core.zmag Core.b64 (.inf false)) = _
          rw [z1, Core.signed_mul, show n = -2 ^ 53 by omega, Int.natCast_pow]; rfl
        · refine ⟨9218868437227405312, by rw [v1]; exact Core.Datum.noConfusion, ?_⟩
          unfold zv Core.zval; rw [v1]
          show Core.signed false (Core.zmag Core.b64 (.inf false)) = _
          rw [z1, Core.signed_mul, show n = 2 ^ 53 by omega, Int.natCast_pow]; rfl
      · by_cases hs : n < 0
        · obtain ⟨V, fV, zV⟩ := repE (-2 ^ 52) (1 + E) (by decide) (by omega)
          exact ⟨V, notNan fV, by rw [zV, show n = -2 ^ 52 * 2 ^ 1 by omega, Int.pow_add, Int.mul_assoc]⟩
        · obtain ⟨V, fV, zV⟩ := repE (2 ^ 52) (1 + E) (by decide) (by omega)
          exact ⟨V, notNan fV, by rw [zV, show n = 2 ^ 52 * 2 ^ 1 by omega, Int.pow_add, Int.mul_assoc]⟩
theorem dmul_eq {a b V : UInt64} (ha : Core.DFin a) (hb : Core.DFin b) (hV : Core.val64 V ≠ .nan) (h : zv a * zv b = zv V * U) : zv (FP.dmul a b) = zv V := by
  have := dmul_le ha hb hV (Int.le_of_eq h); have := dmul_ge ha hb hV (Int.le_of_eq h.symm); omega
/-! ## values n / 2^k -/
/-- finite, and worth n / 2^k -/
def DS (n : Int) (k : Nat) (a : UInt64) : Prop := Core.DFin a ∧ zv a * 2 ^ k = n * U
def Le (a : UInt64) (n : Int) (k : Nat) : Prop := zv a * 2 ^ k ≤ n * U
def Ge (a : UInt64) (n : Int) (k : Nat) : Prop := n * U ≤ zv a * 2 ^ k
theorem DS.le {n : Int} {k : Nat} {a : UInt64} (h : DS n k a) : Le a n k := Int.le_of_eq h.2
theorem DS.ge {n : Int} {k : Nat} {a : UInt64} (h : DS n k a) : Ge a n k := Int.le_of_eq h.2.symm
theorem DS.int {i : Int} {a : UInt64} (h : Core.DInt i a) : DS i 0 a := by
  refine ⟨?_, ?_⟩
  · unfold Core.DInt at h
    cases e : Core.val64 a with
    | nan => rw [e] at h; exact h.elim
    | inf => rw [e] at h; exact h.elim
    | fin s c q => exact ⟨s, c, q, e⟩
  · show zv a * 2 ^ 0 = i * U
    rw [Int.pow_zero, Int.mul_one]; exact Core.DInt_zval h
theorem DS.i2d (x : Int32) : DS x.toInt 0 (FP.i2d x) := DS.int (Core.i2d_int x)
theorem DS.l2d {x : Int64} (h : x.toInt.natAbs ≤ 2 ^ 53) : DS x.toInt 0 (FP.l2d x) := DS.int (Core.l2d_int h)
theorem mul_cancel {a b c : Int} (hc : 0 < c) (h : a * c = b * c) : a = b := Int.eq_of_mul_eq_mul_right (by omega) h
theorem le_cancel {a b c : Int} (hc : 0 < c) (h : a * c ≤ b * c) : a ≤ b := Int.le_of_mul_le_mul_right h hc
theorem DS.up {n : Int} {k : Nat} {a : UInt64} (h : DS n k a) (j : Nat) : DS (n * 2 ^ j) (k + j) a := ⟨h.1, by
  rw [Int.pow_add, ← Int.mul_assoc, h.2]; grind⟩
theorem Le.up {n : Int} {k : Nat} {a : UInt64} (h : Le a n k) (j : Nat) : Le a (n * 2 ^ j) (k + j) := by
  unfold Le at *
  have := Int.mul_le_mul_of_nonneg_right h (Int.le_of_lt (pow_pos j))
  rw [Int.pow_add]; grind
theorem Ge.up {n : Int} {k : Nat} {a : UInt64} (h : Ge a n k) (j : Nat) : Ge a (n * 2 ^ j) (k + j) := by
  unfold Ge at *
  have := Int.mul_le_mul_of_nonneg_right h (Int.le_of_lt (pow_pos j))
  rw [Int.pow_add]; grind
/-- what lies between two bounds n / 2^k is finite -/
theorem fin_of {a : UInt64} {n m : Int} {k j : Nat} (nn : Core.val64 a ≠ .nan) (h1 : Ge a n k) (h2 : Le a m j) (bn : n.natAbs ≤ 2 ^ 53) (bm : m.natAbs ≤ 2 ^ 53) (hk : k ≤ 1000) (hj : j ≤ 1000) : Core.DFin a := by
  obtain ⟨V, fV, zV⟩ := rep n k bn hk
  obtain ⟨W, fW, zW⟩ := rep m j bm hj
  refine fin_between nn fV fW ?_ ?_
  · exact le_cancel (pow_pos k) (by unfold Ge at h1; omega)
  · exact le_cancel (pow_pos j) (by unfold Le at h2; omega)
theorem DS.of {a : UInt64} {n : Int} {k : Nat} (nn : Core.val64 a ≠ .nan) (h1 : Ge a n k) (h2 : Le a n k) (bn : n.natAbs ≤ 2 ^ 53) (hk : k ≤ 1000) : DS n k a :=
  ⟨fin_of nn h1 h2 bn bn hk hk, by unfold Ge at h1; unfold Le at h2; omega⟩
/-! the operations against bounds -/
theorem add_Le {a b : UInt64} {n m q : Int} {k : Nat} (fa : Core.DFin a) (fb : Core.DFin b) (ha : Le a n k) (hb : Le b m k) (h : n + m ≤ q) (bq : q.natAbs ≤ 2 ^ 53) (hk : k ≤ 1000) : Le (FP.dadd a b) q k := by
  obtain ⟨V, fV, zV⟩ := rep q k bq hk
  have h1 : zv (FP.dadd a b) ≤ zv V := dadd_le fa fb (notNan fV) (le_cancel (pow_pos k) (by
    unfold Le at ha hb
    rw [Int.add_mul, zV]
    have := Int.mul_le_mul_of_nonneg_right h (Int.le_of_lt U_pos)
    rw [Int.add_mul] at this; omega))
  unfold Le; rw [← zV]; exact Int.mul_le_mul_of_nonneg_right h1 (Int.le_of_lt (pow_pos k))
theorem add_Ge {a b : UInt64} {n m q : Int} {k : Nat} (fa : Core.DFin a) (fb : Core.DFin b) (ha : Ge a n k) (hb : Ge b m k) (h : q ≤ n + m) (bq : q.natAbs ≤ 2 ^ 53) (hk : k ≤ 1000) : Ge (FP.dadd a b) q k := by
  obtain ⟨V, fV, zV⟩ := rep q k bq hk
  have h1 : zv V ≤ zv (FP.dadd a b) := dadd_ge fa fb (notNan fV) (le_cancel (pow_pos k) (by
    unfold Ge at ha hb
    rw [Int.add_mul, zV]
    have := Int.mul_le_mul_of_nonneg_right h (Int.le_of_lt U_pos)
    rw [Int.add_mul] at this; omega))
  unfold Ge; rw [← zV]; exact Int.mul_le_mul_of_nonneg_right h1 (Int.le_of_lt (pow_pos k))
theorem DS.add {a b : UInt64} {n m : Int} {k : Nat} (ha : DS n k a) (hb : DS m k b) (bq : (n + m).natAbs ≤ 2 ^ 53) (hk : k ≤ 1000) : DS (n + m) k (FP.dadd a b) :=
  DS.of (dadd_nn ha.1 hb.1) (add_Ge ha.1 hb.1 ha.ge hb.ge (Int.le_refl _) bq hk) (add_Le ha.1 hb.1 ha.le hb.le (Int.le_refl _) bq hk) bq hk
theorem DS.neg {a : UInt64} {n : Int} {k : Nat} (ha : DS n k a) : DS (-n) k (FP.dneg a) := ⟨fin_dneg ha.1, by rw [zv_dneg, Int.neg_mul, ha.2, Int.neg_mul]⟩
theorem DS.sub {a b : UInt64} {n m : Int} {k : Nat} (ha : DS n k a) (hb : DS m k b) (bq : (n - m).natAbs ≤ 2 ^ 53) (hk : k ≤ 1000) : DS (n - m) k (FP.dsub a b) := by
  rw [dsub_dadd hb.1, show n - m = n + -m by omega]; exact ha.add hb.neg (by rw [← Int.sub_eq_add_neg]; exact bq) hk
theorem DS.mul {a b : UInt64} {n m : Int} {k j : Nat} (ha : DS n k a) (hb : DS m j b) (bq : (n * m).natAbs ≤ 2 ^ 53) (hk : k + j ≤ 1000) : DS (n * m) (k + j) (FP.dmul a b) := by
  obtain ⟨V, fV, zV⟩ := rep (n * m) (k + j) bq hk
  have e : zv a * zv b = zv V * U := by
    have h1 := ha.2; have h2 := hb.2
    refine mul_cancel (pow_pos (k + j)) ?_
    calc zv a * zv b * 2 ^ (k + j) = (zv a * 2 ^ k) * (zv b * 2 ^ j) := by rw [Int.pow_add]; grind
      _ = (n * U) * (m * U) := by rw [h1, h2]
      _ = (n * m * U) * U := by grind
      _ = zv V * U * 2 ^ (k + j) := by rw [← zV]; grind
  have g1 := dmul_le ha.1 hb.1 (notNan fV) (Int.le_of_eq e)
  have g2 := dmul_ge ha.1 hb.1 (notNan fV) (Int.le_of_eq e.symm)
  have g : zv (FP.dmul a b) = zv V := by omega
  exact ⟨fin_between (dmul_nn ha.1 hb.1) fV fV (by omega) (by omega), by rw [g, zV]⟩
theorem DS.pos {b : UInt64} {m : Int} {j : Nat} (hb : DS m j b) (hm : 0 < m) : 0 < zv b := by
  have h1 : 0 < zv b * 2 ^ j := by rw [hb.2]; exact Int.mul_pos hm U_pos
  exact Int.pos_of_mul_pos_left h1 (pow_pos j)
/-- a quotient against a bound q / 2^l -/
theorem div_Le {a b : UInt64} {n m q : Int} {k j l : Nat} (ha : DS n k a) (hb : DS m j b) (hm : 0 < m) (h : n * 2 ^ j * 2 ^ l ≤ q * m * 2 ^ k) (bq : q.natAbs ≤ 2 ^ 53) (hl : l ≤ 1000) : Le (FP.ddiv a b) q l := by
  obtain ⟨V, fV, zV⟩ := rep q l bq hl
  have h1 : zv (FP.ddiv a b) ≤ zv V := ddiv_le ha.1 hb.1 (hb.pos hm) (notNan fV) (by
    refine le_cancel (pow_pos (k + j + l)) ?_
    have e1 : zv a * U * 2 ^ (k + j + l) = (n * 2 ^ j * 2 ^ l) * (U * U) := by
      calc zv a * U * 2 ^ (k + j + l) = (zv a * 2 ^ k) * U * 2 ^ j * 2 ^ l := by rw [Int.pow_add, Int.pow_add]; grind
        _ = _ := by rw [ha.2]; grind
    have e2 : zv V * zv b * 2 ^ (k + j + l) = (q * m * 2 ^ k) * (U * U) := by
      calc zv V * zv b * 2 ^ (k + j + l) = (zv V * 2 ^ l) * (zv b * 2 ^ j) * 2 ^ k := by rw [Int.pow_add, Int.pow_add]; grind
        _ = _ := by rw [zV, hb.2]; grind
    rw [e1, e2]
    exact Int.mul_le_mul_of_nonneg_right h (Int.le_of_lt (Int.mul_pos U_pos U_pos)))
  unfold Le; rw [← zV]; exact Int.mul_le_mul_of_nonneg_right h1 (Int.le_of_lt (pow_pos l))
theorem div_Ge {a b : UInt64} {n m q : Int} {k j l : Nat} (ha : DS n k a) (hb : DS m j b) (hm : 0 < m) (h : q * m * 2 ^ k ≤ n * 2 ^ j * 2 ^ l) (bq : q.natAbs ≤ 2 ^ 53) (hl : l ≤ 1000) : Ge (FP.ddiv a b) q l := by
  obtain ⟨V, fV, zV⟩ := rep q l bq hl
  have h1 : zv V ≤ zv (FP.ddiv a b) := ddiv_ge ha.1 hb.1 (hb.pos hm) (notNan fV) (by
    refine le_cancel (pow_pos (k + j + l)) ?_
    have e1 : zv a * U * 2 ^ (k + j + l) = (n * 2 ^ j * 2 ^ l) * (U * U) := by
      calc zv a * U * 2 ^ (k + j + l) = (zv a * 2 ^ k) * U * 2 ^ j * 2 ^ l := by rw [Int.pow_add, Int.pow_add]; grind
        _ = _ := by rw [ha.2]; grind
    have e2 : zv V * zv b * 2 ^ (k + j + l) = (q * m * 2 ^ k) * (U * U) := by
      calc zv V * zv b * 2 ^ (k + j + l) = (zv V * 2 ^ l) * (zv b * 2 ^ j) * 2 ^ k := by rw [Int.pow_add, Int.pow_add]; grind
        _ = _ := by rw [zV, hb.2]; grind
    rw [e1, e2]
    exact Int.mul_le_mul_of_nonneg_right h (Int.le_of_lt (Int.mul_pos U_pos U_pos)))
  unfold Ge; rw [← zV]; exact Int.mul_le_mul_of_nonneg_right h1 (Int.le_of_lt (pow_pos l))
theorem DS.div {a b : UInt64} {n m q : Int} {k j l : Nat} (ha : DS n k a) (hb : DS m j b) (hm : 0 < m) (h : n * 2 ^ j * 2 ^ l = q * m * 2 ^ k) (bq : q.natAbs ≤ 2 ^ 53) (hl : l ≤ 1000) : DS q l (FP.ddiv a b) :=
  DS.of (ddiv_nn ha.1 hb.1 (hb.pos hm)) (div_Ge ha hb hm (Int.le_of_eq h.symm) bq hl) (div_Le ha hb hm (Int.le_of_eq h) bq hl) bq hl
/-! comparisons -/
theorem cmp_zv {a b : UInt64} (ha : Core.val64 a ≠ .nan) (hb : Core.val64 b ≠ .nan) : FP.dcmp a b = some (compare (zv a) (zv b)) := Core.dcmp_zval ha hb
theorem cmpV_of {a b : UInt64} (ha : Core.val64 a ≠ .nan) (hb : Core.val64 b ≠ .nan) (o : ClassFile.CmpOp) : Op.cmpValue (FP.dcmp a b) o = if zv a < zv b then -1 else if zv a = zv b then 0 else 1 := by
  rw [cmp_zv ha hb, Core.compare_ite]
  split
  · rfl
  · split <;> rfl
theorem cmp_gt {a b : UInt64} (ha : Core.val64 a ≠ .nan) (hb : Core.val64 b ≠ .nan) (h : zv b < zv a) (o : ClassFile.CmpOp) : Op.cmpValue (FP.dcmp a b) o = 1 := by
  rw [cmpV_of ha hb, if_neg (by omega), if_neg (by omega)]
theorem cmp_lt {a b : UInt64} (ha : Core.val64 a ≠ .nan) (hb : Core.val64 b ≠ .nan) (h : zv a < zv b) (o : ClassFile.CmpOp) : Op.cmpValue (FP.dcmp a b) o = -1 := by
  rw [cmpV_of ha hb, if_pos h]
theorem cmp_eq {a b : UInt64} (ha : Core.val64 a ≠ .nan) (hb : Core.val64 b ≠ .nan) (h : zv a = zv b) (o : ClassFile.CmpOp) : Op.cmpValue (FP.dcmp a b) o = 0 := by
  rw [cmpV_of ha hb, if_neg (by omega), if_pos h]
theorem zv_zero : zv FP.dconst0 = 0 := Core.zval64_zero
theorem cmp_neg {a b : UInt64} {k : Int32} {o : ClassFile.CmpOp} (h : Op.cmpValue (FP.dcmp a b) o = k) (ha : Core.val64 a ≠ .nan) (hb : Core.val64 b ≠ .nan) : k < 0 ↔ zv a < zv b := by
  rw [← h, cmpV_of ha hb]; split
  · exact ⟨fun _ => by assumption, fun _ => by decide⟩
  · split
    · exact ⟨fun h => absurd h (by decide), fun h => absurd h (by assumption)⟩
    · exact ⟨fun h => absurd h (by decide), fun h => absurd h (by assumption)⟩
theorem cmp_pos {a b : UInt64} {k : Int32} {o : ClassFile.CmpOp} (h : Op.cmpValue (FP.dcmp a b) o = k) (ha : Core.val64 a ≠ .nan) (hb : Core.val64 b ≠ .nan) : 0 < k ↔ zv b < zv a := by
  rw [← h, cmpV_of ha hb]; split
  · exact ⟨fun h => absurd h (by decide), fun h => by omega⟩
  · split
    · exact ⟨fun h => absurd h (by decide), fun h => by omega⟩
    · exact ⟨fun h => by omega, fun _ => by decide⟩
theorem cmp_nul {a b : UInt64} {k : Int32} {o : ClassFile.CmpOp} (h : Op.cmpValue (FP.dcmp a b) o = k) (ha : Core.val64 a ≠ .nan) (hb : Core.val64 b ≠ .nan) : k = 0 ↔ zv a = zv b := by
  rw [← h, cmpV_of ha hb]; split
  · exact ⟨fun h => absurd h (by decide), fun h => by omega⟩
  · split
    · exact ⟨fun _ => by assumption, fun _ => rfl⟩
    · exact ⟨fun h => absurd h (by decide), fun h => by omega⟩
theorem lt_of {a b : UInt64} {n m : Int} {k : Nat} (h1 : Le a n k) (h2 : Ge b m k) (h : n < m) : zv a < zv b := by
  unfold Le at h1; unfold Ge at h2
  have : n * U < m * U := Int.mul_lt_mul_of_pos_right h U_pos
  exact Int.lt_of_mul_lt_mul_right (a := 2 ^ k) (by omega) (Int.le_of_lt (pow_pos k))
theorem le_of {a b : UInt64} {n m : Int} {k : Nat} (h1 : Le a n k) (h2 : Ge b m k) (h : n ≤ m) : zv a ≤ zv b := by
  unfold Le at h1; unfold Ge at h2
  have : n * U ≤ m * U := Int.mul_le_mul_of_nonneg_right h (Int.le_of_lt U_pos)
  exact Int.le_of_mul_le_mul_right (a := 2 ^ k) (by omega) (pow_pos k)
theorem DS.cmp {a b : UInt64} {n m : Int} {k : Nat} (ha : DS n k a) (hb : DS m k b) (o : ClassFile.CmpOp) : Op.cmpValue (FP.dcmp a b) o = if n < m then -1 else if n = m then 0 else 1 := by
  rw [cmpV_of (notNan ha.1) (notNan hb.1)]
  by_cases h1 : n < m
  · rw [if_pos h1, if_pos (lt_of ha.le hb.ge h1)]
  · by_cases h2 : n = m
    · have e : zv a = zv b := by
        subst h2; have := le_of ha.le hb.ge (Int.le_refl _); have := le_of hb.le ha.ge (Int.le_refl _); omega
      rw [if_neg h1, if_pos h2, if_neg (by omega), if_pos e]
    · have := lt_of hb.le ha.ge (show m < n by omega)
      rw [if_neg h1, if_neg h2, if_neg (by omega), if_neg (by omega)]
theorem DS.zero : DS 0 0 FP.dconst0 := ⟨⟨false, 0, _, Core.val64_dconst0⟩, by
  have : zv FP.dconst0 = 0 := Core.zval64_zero
  rw [this]; simp⟩
theorem DS.one : DS 1 0 FP.dconst1 := DS.int Core.dint_one
theorem zv_one : zv FP.dconst1 = U := by have := DS.one.2; rwa [Int.pow_zero, Int.mul_one, Int.one_mul] at this
theorem DS.noNaN {n : Int} {k : Nat} {a : UInt64} (h : DS n k a) : Jvm.Free.Fl.NoNaN64 a := (Jvm.Free.Fl.fin64_core.mpr h.1).noNaN
theorem noNaN_of {a : UInt64} (h : Core.val64 a ≠ .nan) : Jvm.Free.Fl.NoNaN64 a := Jvm.Free.Fl.noNaN64_no.mpr ((Core.notNaN_iff a).mpr h)
end Jvm.OwnFP
namespace Jvm.OwnFP
open Jvm.FP
theorem sgn_pos {a : UInt64} (h : 0 < zv a) : Core.sgn (Core.val64 a) = false := by
  unfold zv Core.zval at h
  cases e : Core.sgn (Core.val64 a) with
  | false => rfl
  | true => rw [e] at h; simp only [Core.signed, if_true] at h; omega
/-- one quotient by two roads -/
theorem DS.div_same {a a' b b' : UInt64} {n d : Int} {k j : Nat} (ha : DS n k a) (ha' : DS n k a') (hb : DS d j b) (hb' : DS d j b') (hn : 0 < n) (hd : 0 < d) : FP.ddiv a b = FP.ddiv a' b' := by
  have e1 : zv a = zv a' := mul_cancel (pow_pos k) (by rw [ha.2, ha'.2])
  have e2 : zv b = zv b' := mul_cancel (pow_pos j) (by rw [hb.2, hb'.2])
  refine ddiv_congr ha.1 hb.1 (hb.pos hd) ha'.1 hb'.1 (hb'.pos hd) ?_ (by rw [e1, e2])
  rw [sgn_pos (ha.pos hn), sgn_pos (ha'.pos hn)]
end Jvm.OwnFP
namespace Jvm.OwnFP
open Jvm.FP
theorem Le.neg {a : UInt64} {n : Int} {k : Nat} (h : Le a n k) : Ge (FP.dneg a) (-n) k := by unfold Le at h; unfold Ge; rw [zv_dneg, Int.neg_mul, Int.neg_mul]; omega
theorem Ge.neg {a : UInt64} {n : Int} {k : Nat} (h : Ge a n k) : Le (FP.dneg a) (-n) k := by unfold Ge at h; unfold Le; rw [zv_dneg, Int.neg_mul, Int.neg_mul]; omega
theorem sub_Le {a b : UInt64} {n m q : Int} {k : Nat} (fa : Core.DFin a) (fb : Core.DFin b) (ha : Le a n k) (hb : Ge b m k) (h : n - m ≤ q) (bq : q.natAbs ≤ 2 ^ 53) (hk : k ≤ 1000) : Le (FP.dsub a b) q k := by
  rw [dsub_dadd fb]; exact add_Le fa (fin_dneg fb) ha hb.neg (by omega) bq hk
theorem sub_Ge {a b : UInt64} {n m q : Int} {k : Nat} (fa : Core.DFin a) (fb : Core.DFin b) (ha : Ge a n k) (hb : Le b m k) (h : q ≤ n - m) (bq : q.natAbs ≤ 2 ^ 53) (hk : k ≤ 1000) : Ge (FP.dsub a b) q k := by
  rw [dsub_dadd fb]; exact add_Ge fa (fin_dneg fb) ha hb.neg (by omega) bq hk
/-- one quotient at two scales -/
theorem DS.div_scale {a a' b b' : UInt64} {n d : Int} {k k' : Nat} (ha : DS n k a) (ha' : DS n k' a') (hb : DS d k b) (hb' : DS d k' b') (hn : 0 < n) (hd : 0 < d) : FP.ddiv a b = FP.ddiv a' b' := by
  refine ddiv_congr ha.1 hb.1 (hb.pos hd) ha'.1 hb'.1 (hb'.pos hd) ?_ ?_
  · rw [sgn_pos (ha.pos hn), sgn_pos (ha'.pos hn)]
  · refine mul_cancel (pow_pos (k + k')) ?_
    calc zv a * zv b' * 2 ^ (k + k') = (zv a * 2 ^ k) * (zv b' * 2 ^ k') := by rw [Int.pow_add]; ac_rfl
      _ = (zv a' * 2 ^ k') * (zv b * 2 ^ k) := by rw [ha.2, hb'.2, ha'.2, hb.2]
      _ = zv a' * zv b * 2 ^ (k + k') := by rw [Int.pow_add]; ac_rfl
end Jvm.OwnFP
namespace Jvm.Pilot.@@N@@
open Jvm Jvm.ClassFile Sem Op Lib Jvm.Free Jvm.Stand Jvm.LawKit Jvm.RoadKit Bundle Jvm.Pilot.@@N@@.Jvm.D
open Jvm.OwnFP Jvm.FP
theorem pn_com_example_foglane_foglane_uncertainty_TermMembershipPinLaw : plainName "com/example/foglane/foglane/uncertainty/TermMembershipPinLaw" = true := by first | (simp [plainName, overriddenIn]; done) | decide +kernel
theorem pn_com_example_foglane_foglane_uncertainty_FuzzyRuleBase_Term : plainName "com/example/foglane/foglane/uncertainty/FuzzyRuleBase$Term" = true := by first | (simp [plainName, overriddenIn]; done) | decide +kernel
theorem pn_java_lang_Record : plainName "java/lang/Record" = true := by first | (simp [plainName, overriddenIn]; done) | decide +kernel
theorem pn_java_lang_Double : plainName "java/lang/Double" = true := by first | (simp [plainName, overriddenIn]; done) | decide +kernel
theorem pd___V : parseMethodDescriptor "()V" = some ⟨[], none⟩ := by decide +kernel
theorem pd__DDD_V : parseMethodDescriptor "(DDD)V" = some ⟨[.double, .double, .double], none⟩ := by decide +kernel
theorem pd__D_Z : parseMethodDescriptor "(D)Z" = some ⟨[.double], some .boolean⟩ := by decide +kernel
theorem pd__D_D : parseMethodDescriptor "(D)D" = some ⟨[.double], some .double⟩ := by decide +kernel
theorem abs_le_max {a : UInt64} (h : Core.DFin a) (o : CmpOp) : ¬ 0 < cmpValue (FP.dcmp (a &&& 0x7fffffffffffffff) (9218868437227405311 : UInt64)) o := by
  have f : Core.DFin (a &&& 0x7fffffffffffffff) := by
    rw [Core.fin_bits, Core.mask_toNat, Nat.mod_mod]; exact (Core.fin_bits a).mp h
  have m : Core.val64 9218868437227405311 ≠ .nan := by decide +kernel
  have z : zv (a &&& 0x7fffffffffffffff) ≤ zv 9218868437227405311 := by
    have h1 : Core.zmag Core.b64 (Core.val64 (a &&& 0x7fffffffffffffff)) ≤ Core.zmag Core.b64 (Core.val64 9218868437227405311) := by
      rw [Core.zmag_bits (notNan f), Core.zmag_bits m, Core.unitsOf_le_iff, Core.mask_toNat, Nat.mod_mod]
      have := (Core.fin_bits a).mp h
      show a.toNat % 2 ^ 63 ≤ 9218868437227405311 % 2 ^ 63
      omega
    have h2 : zv (a &&& 0x7fffffffffffffff) ≤ ((Core.zmag Core.b64 (Core.val64 (a &&& 0x7fffffffffffffff)) : Nat) : Int) := by
      unfold zv Core.zval Core.signed; split <;> omega
    have h3 : zv 9218868437227405311 = ((Core.zmag Core.b64 (Core.val64 9218868437227405311) : Nat) : Int) := by
      have : Core.sgn (Core.val64 9218868437227405311) = false := by decide +kernel
      unfold zv Core.zval; rw [this]; rfl
    omega
  rw [cmpV_of (notNan f) m]
  split
  · decide
  · split
    · decide
    · omega
theorem d2_0 : decode jdk_30_method_1_code 0 = .ok (.aload_n 0, 1) := by decide +kernel
theorem d2_1 : decode jdk_30_method_1_code 1 = .ok (.invokespecial 1, 3) := by decide +kernel
theorem d2_4 : decode jdk_30_method_1_code 4 = .ok (.return_, 1) := by decide +kernel
theorem ef_2 (m : MethodId) (a1 : Addr) : entryFrame m #[(.ref a1)] 1 = (mkF m 0 #[.val (.ref a1)] []) := by first | (simp [entryFrame, mkF, argsToLocals, Value.category]; done) | rfl
def Q_2 (Z : State) (a1 : Addr) (h0 : Heap) (n0 : Nat) (v : Option Value) (h : Heap) (L : List Loc) : Prop := v = none ∧ Fr n0 L ∧ h = h0
set_option maxRecDepth 65536 in
set_option maxHeartbeats 2000000 in
theorem rm_2 (l : Launch) (Z : State) (a0 : Array Value) (hw : ∀ d ∈ tables_1, d.before a0 Z = true) (ws : List Jvm.Cond) (a1 : Addr) (h0 : Heap) (n0 : Nat) (Z0 : n0 ≤ h0.size)  :
    MetFree l (⟨"java/lang/Record", "<init>", "()V"⟩ : MethodName) (head1 (Jvm.Cond.code (⟨"java/lang/Record", "<init>", "()V"⟩ : MethodName) jdk_30_method_1_code 1 none :: ws) ({ frames := 1, cells := 0, slots := 0, locals := 12 } : Room)) (fun aa UU => aa = #[(.ref a1)] ∧ Z.Warmed39 UU.vm ∧ UU.heap = h0) (fun _ _ _ _ _ => True) (fun _ UU oo UU' => ∃ v L, oo = .returned v ∧ Q_2 Z a1 h0 n0 v UU'.heap L ∧ FrameEnd UU oo UU' L ({ frames := 1, cells := 0, slots := 0, locals := 12 } : Room).cells ({ frames := 1, cells := 0, slots := 0, locals := 12 } : Room).slots) := by
  refine MetFree.of_bodySF (plainFor_of_name pn_java_lang_Record) hisR ?_
  intro p e s m args below meth c s₁ Bd hml0 hP hK
  obtain ⟨rfl, hZ, hh⟩ := hP
  have hx := Bd.exec
  have hby := Bd.bytes
  have hml : c.maxLocals = 1 := hml0
  have hown : s.vm.findClass "java/lang/Record" = some m.cls := findClass_of_methodNamed Bd.named
  have hnaM := (name_of_methodNamed Bd.named Bd.method).1
  have X0 : Stand p l e ({ frames := 1, cells := 0, slots := 0, locals := 12 } : Room) s m #[(.ref a1)] below meth c s₁ [] 0 0 := Stand.of_body Bd
  have e0 : s₁.heap = h0 := by rw [← hh, Bd.state]; rfl
  have N0 := Fr.nil n0
  have pre0 : ∀ t, Steps p.tables e below (s₁.setTop (entryFrame m #[(.ref a1)] 1)) t → Steps p.tables e below (s₁.setTop (entryFrame m #[(.ref a1)] 1)) t := fun t k => k
  have c0 : ∀ t, Steps p.tables e below (s₁.setTop (mkF m 0 #[.val (.ref a1)] [])) t → Steps p.tables e below (s₁.setTop (entryFrame m #[(.ref a1)] 1)) t := fun t k => castTop (ef_2 m a1) k
  have c1 : ∀ t, Steps p.tables e below (s₁.setTop (mkF m 1 #[.val (.ref a1)] [(.ref a1)])) t → Steps p.tables e below (s₁.setTop (entryFrame m #[(.ref a1)] 1)) t := fun t k => c0 t (by
    show Steps p.tables e below (s₁.setTop (mkF m 0 #[.val (.ref a1)] [])) _
    refine XS.aloadN X0.here hx rfl (hb hby d2_0) rfl rfl ?_
    show Steps p.tables e below (s₁.setTop (mkF m 1 #[.val (.ref a1)] [(.ref a1)])) _
    exact k)
  obtain ⟨T2, X2, e2, st2⟩ := initO X0 hx hZ hown (hw _ (List.mem_of_getElem? (i := 13) rfl)) (hw _ (List.mem_of_getElem? (i := 14) rfl)) (hw _ (List.mem_of_getElem? (i := 15) rfl)) e0 (g := (mkF m 1 #[.val (.ref a1)] [(.ref a1)])) rfl (by rw [hml]; rfl) rfl (hb hby d2_1) (by decide) (W := 0) (by show 2 * 0 + _ ≤ _; exact Nat.le_of_eq rfl) (by decide)
  have c3 : ∀ t, Steps p.tables e below (T2.setTop (mkF m 4 #[.val (.ref a1)] [])) t → Steps p.tables e below (s₁.setTop (entryFrame m #[(.ref a1)] 1)) t := fun t k => c1 t (st2 _ k)
  obtain ⟨fs, hr, hrun, hended, hW, hsame⟩ := X2.leave (v := none) (fun _ => rfl)
  refine ⟨_, _, pre0 _ (c3 _ (X2.returnOut hx Bd.returns (hb hby d2_4) hr)), hrun, hended, _, _, rfl, ?_, ⟨_, rfl⟩, hW, hsame.mono (by decide) (by decide)⟩
  show Q_2 Z a1 h0 n0 _ T2.heap _
  rw [e2]
  exact ⟨rfl, N0, rfl⟩
theorem d4_0 : decode jdk_117_method_7_code 0 = .ok (.dload_n 0, 1) := by decide +kernel
theorem d4_1 : decode jdk_117_method_7_code 1 = .ok (.invokestatic 38, 3) := by decide +kernel
theorem d4_4 : decode jdk_117_method_7_code 4 = .ok (.ldc2_w 111, 3) := by decide +kernel
theorem d4_7 : decode jdk_117_method_7_code 7 = .ok (.dcmp .l, 1) := by decide +kernel
theorem d4_8 : decode jdk_117_method_7_code 8 = .ok (.ifCond .le 7, 3) := by decide +kernel
theorem d4_15 : decode jdk_117_method_7_code 15 = .ok (.iconst 0, 1) := by decide +kernel
theorem d4_16 : decode jdk_117_method_7_code 16 = .ok (.ireturn, 1) := by decide +kernel
theorem ef_4 (m : MethodId) (pd : UInt64) : entryFrame m #[(.double pd)] 2 = (mkF m 0 #[.val (.double pd), .second] []) := by first | (simp [entryFrame, mkF, argsToLocals, Value.category]; done) | rfl
def Q_4 (Z : State) (pd : UInt64) (h0 : Heap) (n0 : Nat) (v : Option Value) (h : Heap) (L : List Loc) : Prop := v = some (.int (0 : Int32)) ∧ Fr n0 L ∧ h = h0
set_option maxRecDepth 65536 in
set_option maxHeartbeats 2000000 in
theorem rm_4 (l : Launch) (Z : State) (a0 : Array Value) (hw : ∀ d ∈ tables_1, d.before a0 Z = true) (ws : List Jvm.Cond) (pd : UInt64) (h0 : Heap) (n0 : Nat) (Z0 : n0 ≤ h0.size) (fd : Core.DFin pd) :
    MetFree l (⟨"java/lang/Double", "isInfinite", "(D)Z"⟩ : MethodName) (head1 (Jvm.Cond.code (⟨"java/lang/Double", "isInfinite", "(D)Z"⟩ : MethodName) jdk_117_method_7_code 2 (some .boolean) :: ws) ({ frames := 1, cells := 0, slots := 0, locals := 13 } : Room)) (fun aa UU => aa = #[(.double pd)] ∧ Z.Warmed39 UU.vm ∧ UU.heap = h0) (fun _ _ _ _ _ => True) (fun _ UU oo UU' => ∃ v L, oo = .returned v ∧ Q_4 Z pd h0 n0 v UU'.heap L ∧ FrameEnd UU oo UU' L ({ frames := 1, cells := 0, slots := 0, locals := 13 } : Room).cells ({ frames := 1, cells := 0, slots := 0, locals := 13 } : Room).slots) := by
  refine MetFree.of_bodySF (plainFor_of_name pn_java_lang_Double) hisR ?_
  intro p e s m args below meth c s₁ Bd hml0 hP hK
  obtain ⟨rfl, hZ, hh⟩ := hP
  have hx := Bd.exec
  have hby := Bd.bytes
  have hml : c.maxLocals = 2 := hml0
  have hown : s.vm.findClass "java/lang/Double" = some m.cls := findClass_of_methodNamed Bd.named
  have hnaM := (name_of_methodNamed Bd.named Bd.method).1
  have X0 : Stand p l e ({ frames := 1, cells := 0, slots := 0, locals := 13 } : Room) s m #[(.double pd)] below meth c s₁ [] 0 0 := Stand.of_body Bd
  have e0 : s₁.heap = h0 := by rw [← hh, Bd.state]; rfl
  have N0 := Fr.nil n0
  have pre0 : ∀ t, Steps p.tables e below (s₁.setTop (entryFrame m #[(.double pd)] 2)) t → Steps p.tables e below (s₁.setTop (entryFrame m #[(.double pd)] 2)) t := fun t k => k
  have c0 : ∀ t, Steps p.tables e below (s₁.setTop (mkF m 0 #[.val (.double pd), .second] [])) t → Steps p.tables e below (s₁.setTop (entryFrame m #[(.double pd)] 2)) t := fun t k => castTop (ef_4 m pd) k
  have c1 : ∀ t, Steps p.tables e below (s₁.setTop (mkF m 1 #[.val (.double pd), .second] [(.double pd)])) t → Steps p.tables e below (s₁.setTop (entryFrame m #[(.double pd)] 2)) t := fun t k => c0 t (by
    show Steps p.tables e below (s₁.setTop (mkF m 0 #[.val (.double pd), .second] [])) _
    refine XS.dloadN X0.here hx rfl (hb hby d4_0) rfl ?_
    show Steps p.tables e below (s₁.setTop (mkF m 1 #[.val (.double pd), .second] [(.double pd)])) _
    exact k)
  obtain ⟨T2, X2, e2, st2⟩ := natS X0 hx hZ hown (hw _ (List.mem_of_getElem? (i := 20) rfl)) (hw _ (List.mem_of_getElem? (i := 21) rfl)) (hw _ (List.mem_of_getElem? (i := 22) rfl)) (hw _ (List.mem_of_getElem? (i := 23) rfl)) (by decide) e0 (W := 0) (F := fun a' => a' = #[(.double pd)]) (val := .double (pd &&& 0x7fffffffffffffff)) (val' := .double (pd &&& 0x7fffffffffffffff)) (fun hc => (Jvm.Free.NT.Abs64.pays hc (mvT hZ (hw _ (List.mem_of_getElem? (i := 21) rfl))) (by decide) (by decide)).mono (fun A a' hp => ⟨pd, hp.2.2, noNaN_of (notNan fd)⟩) (fun A a' v B hp hq => ⟨(hq.2 pd ⟨hp.2.2, noNaN_of (notNan fd)⟩).trans (congrArg (fun z => some (Value.double z)) rfl), hq.1⟩)) (g := (mkF m 1 #[.val (.double pd), .second] [(.double pd)])) rfl (by rw [hml]; rfl) (argsL := [(.double pd)]) (rest := []) (lenOf pd__D_D rfl) rfl (by show 2 * 0 + _ ≤ _; exact Nat.le_of_eq rfl) (hb hby d4_1) (by decide) (by decide) rfl rfl
  have c3 : ∀ t, Steps p.tables e below (T2.setTop (mkF m 4 #[.val (.double pd), .second] [(.double (pd &&& 0x7fffffffffffffff))])) t → Steps p.tables e below (s₁.setTop (entryFrame m #[(.double pd)] 2)) t := fun t k => c1 t (st2 _ k)
  obtain ⟨k7, hk7⟩ : ∃ v : Int32, cmpValue (FP.dcmp (pd &&& 0x7fffffffffffffff) (9218868437227405311 : UInt64)) .l = v := ⟨_, rfl⟩
  have k7v : ¬ 0 < k7 := hk7 ▸ abs_le_max fd .l
  have c4 : ∀ t, Steps p.tables e below (T2.setTop (mkF m 16 #[.val (.double pd), .second] [(.int (0 : Int32))])) t → Steps p.tables e below (s₁.setTop (entryFrame m #[(.double pd)] 2)) t := fun t k => c3 t (by
    show Steps p.tables e below (T2.setTop (mkF m 4 #[.val (.double pd), .second] [(.double (pd &&& 0x7fffffffffffffff))])) _
    refine Jvm.Stand.ldc2DoubleC X2 hx hown (mvT hZ (hw _ (List.mem_of_getElem? (i := 24) rfl))) (g := (mkF m 4 #[.val (.double pd), .second] [(.double (pd &&& 0x7fffffffffffffff))])) rfl (hb hby d4_4) _ ?_
    show Steps p.tables e below (T2.setTop (mkF m 7 #[.val (.double pd), .second] [(.double (9218868437227405311 : UInt64)), (.double (pd &&& 0x7fffffffffffffff))])) _
    refine XS.dcmpS X2.here hx rfl (hb hby d4_7) rfl hk7 ?_
    show Steps p.tables e below (T2.setTop (mkF m 8 #[.val (.double pd), .second] [(.int k7)])) _
    refine XS.ifYes X2.here hx rfl (pc0 := 8) (pc' := 15) rfl (hb hby d4_8) rfl (XT.i0_le_t k7v) (by decide) (by decide) ?_
    show Steps p.tables e below (T2.setTop (mkF m 15 #[.val (.double pd), .second] [])) _
    refine XS.iconst X2.here hx rfl (hb hby d4_15) ?_
    show Steps p.tables e below (T2.setTop (mkF m 16 #[.val (.double pd), .second] [(.int (0 : Int32))])) _
    exact k)
  obtain ⟨fs, hr, hrun, hended, hW, hsame⟩ := X2.leave (v := (some (.int (0 : Int32)))) (fun h => by rw [Bd.returns] at h; cases h)
  refine ⟨_, _, pre0 _ (c4 _ (retN X2 hx (t := .boolean) Bd.returns (by simp) (hb hby d4_16) hr)), hrun, hended, _, _, rfl, ?_, ⟨_, rfl⟩, hW, hsame.mono (by decide) (by decide)⟩
  show Q_4 Z pd h0 n0 _ T2.heap _
  rw [e2]
  exact ⟨rfl, N0, rfl⟩
theorem d1_0 : decode prog_91_method_1_code 0 = .ok (.aload_n 0, 1) := by decide +kernel
theorem d1_1 : decode prog_91_method_1_code 1 = .ok (.invokespecial 1, 3) := by decide +kernel
theorem d1_4 : decode prog_91_method_1_code 4 = .ok (.dload_n 1, 1) := by decide +kernel
theorem d1_5 : decode prog_91_method_1_code 5 = .ok (.dload_n 3, 1) := by decide +kernel
theorem d1_6 : decode prog_91_method_1_code 6 = .ok (.dcmp .g, 1) := by decide +kernel
theorem d1_7 : decode prog_91_method_1_code 7 = .ok (.ifCond .gt 32, 3) := by decide +kernel
theorem d1_10 : decode prog_91_method_1_code 10 = .ok (.dload_n 3, 1) := by decide +kernel
theorem d1_11 : decode prog_91_method_1_code 11 = .ok (.dload 5, 2) := by decide +kernel
theorem d1_13 : decode prog_91_method_1_code 13 = .ok (.dcmp .g, 1) := by decide +kernel
theorem d1_14 : decode prog_91_method_1_code 14 = .ok (.ifCond .gt 25, 3) := by decide +kernel
theorem d1_17 : decode prog_91_method_1_code 17 = .ok (.dload_n 1, 1) := by decide +kernel
theorem d1_18 : decode prog_91_method_1_code 18 = .ok (.dload 5, 2) := by decide +kernel
theorem d1_20 : decode prog_91_method_1_code 20 = .ok (.dcmp .g, 1) := by decide +kernel
theorem d1_21 : decode prog_91_method_1_code 21 = .ok (.ifCond .ge 18, 3) := by decide +kernel
theorem d1_24 : decode prog_91_method_1_code 24 = .ok (.dload_n 1, 1) := by decide +kernel
theorem d1_25 : decode prog_91_method_1_code 25 = .ok (.invokestatic 7, 3) := by decide +kernel
theorem d1_28 : decode prog_91_method_1_code 28 = .ok (.ifCond .ne 11, 3) := by decide +kernel
theorem d1_31 : decode prog_91_method_1_code 31 = .ok (.dload 5, 2) := by decide +kernel
theorem d1_33 : decode prog_91_method_1_code 33 = .ok (.invokestatic 7, 3) := by decide +kernel
theorem d1_36 : decode prog_91_method_1_code 36 = .ok (.ifCond .eq 20, 3) := by decide +kernel
theorem d1_56 : decode prog_91_method_1_code 56 = .ok (.aload_n 0, 1) := by decide +kernel
theorem d1_57 : decode prog_91_method_1_code 57 = .ok (.dload_n 1, 1) := by decide +kernel
theorem d1_58 : decode prog_91_method_1_code 58 = .ok (.putfield 22, 3) := by decide +kernel
theorem d1_61 : decode prog_91_method_1_code 61 = .ok (.aload_n 0, 1) := by decide +kernel
theorem d1_62 : decode prog_91_method_1_code 62 = .ok (.dload_n 3, 1) := by decide +kernel
theorem d1_63 : decode prog_91_method_1_code 63 = .ok (.putfield 28, 3) := by decide +kernel
theorem d1_66 : decode prog_91_method_1_code 66 = .ok (.aload_n 0, 1) := by decide +kernel
theorem d1_67 : decode prog_91_method_1_code 67 = .ok (.dload 5, 2) := by decide +kernel
theorem d1_69 : decode prog_91_method_1_code 69 = .ok (.putfield 31, 3) := by decide +kernel
theorem d1_72 : decode prog_91_method_1_code 72 = .ok (.return_, 1) := by decide +kernel
theorem ef_1 (m : MethodId) (a1 : Addr) (p1 : UInt64) (p2 : UInt64) (p3 : UInt64) : entryFrame m #[(.ref a1), (.double p1), (.double p2), (.double p3)] 7 = (mkF m 0 #[.val (.ref a1), .val (.double p1), .second, .val (.double p2), .second, .val (.double p3), .second] []) := by first | (simp [entryFrame, mkF, argsToLocals, Value.category]; done) | rfl
def Q_1 (Z : State) (a1 : Addr) (p1 : UInt64) (p2 : UInt64) (p3 : UInt64) (h0 : Heap) (n0 : Nat) (v : Option Value) (h : Heap) (L : List Loc) : Prop := v = none ∧ Fr n0 L ∧ Keep h0 h [a1] ∧ Exa Z h a1 "com/example/foglane/foglane/uncertainty/FuzzyRuleBase$Term" ∧ Fld Z h a1 "com/example/foglane/foglane/uncertainty/FuzzyRuleBase$Term" "left" "D" (.double p1) ∧ Fld Z h a1 "com/example/foglane/foglane/uncertainty/FuzzyRuleBase$Term" "peak" "D" (.double p2) ∧ Fld Z h a1 "com/example/foglane/foglane/uncertainty/FuzzyRuleBase$Term" "right" "D" (.double p3)
set_option maxRecDepth 65536 in
set_option maxHeartbeats 2000000 in
theorem rm_1 (l : Launch) (Z : State) (a0 : Array Value) (hw : ∀ d ∈ tables_1, d.before a0 Z = true) (ws : List Jvm.Cond) (a1 : Addr) (p1 : UInt64) (p2 : UInt64) (p3 : UInt64) (h0 : Heap) (n0 : Nat) (Z0 : n0 ≤ h0.size) (E_a1 : Exa Z h0 a1 "com/example/foglane/foglane/uncertainty/FuzzyRuleBase$Term") (F_0 : Fld Z h0 a1 "com/example/foglane/foglane/uncertainty/FuzzyRuleBase$Term" "left" "D" (.double (0 : UInt64))) (F_1 : Fld Z h0 a1 "com/example/foglane/foglane/uncertainty/FuzzyRuleBase$Term" "peak" "D" (.double (0 : UInt64))) (F_2 : Fld Z h0 a1 "com/example/foglane/foglane/uncertainty/FuzzyRuleBase$Term" "right" "D" (.double (0 : UInt64))) (g_a1 : n0 ≤ a1) (f1 : Core.DFin p1) (f2 : Core.DFin p2) (f3 : Core.DFin p3) (l1 : zv p1 ≤ zv p2) (l2 : zv p2 ≤ zv p3) (l3 : zv p1 < zv p3) :
    MetFree l (⟨"com/example/foglane/foglane/uncertainty/FuzzyRuleBase$Term", "<init>", "(DDD)V"⟩ : MethodName) (head1 (Jvm.Cond.code (⟨"com/example/foglane/foglane/uncertainty/FuzzyRuleBase$Term", "<init>", "(DDD)V"⟩ : MethodName) prog_91_method_1_code 7 none :: ws) ({ frames := 2, cells := 0, slots := 0, locals := 26 } : Room)) (fun aa UU => aa = #[(.ref a1), (.double p1), (.double p2), (.double p3)] ∧ Z.Warmed39 UU.vm ∧ UU.heap = h0) (fun _ _ _ _ _ => True) (fun _ UU oo UU' => ∃ v L, oo = .returned v ∧ Q_1 Z a1 p1 p2 p3 h0 n0 v UU'.heap L ∧ FrameEnd UU oo UU' L ({ frames := 2, cells := 0, slots := 0, locals := 26 } : Room).cells ({ frames := 2, cells := 0, slots := 0, locals := 26 } : Room).slots) := by
  refine MetFree.of_bodySF (plainFor_of_name pn_com_example_foglane_foglane_uncertainty_FuzzyRuleBase_Term) hisR ?_
  intro p e s m args below meth c s₁ Bd hml0 hP hK
  obtain ⟨rfl, hZ, hh⟩ := hP
  have hx := Bd.exec
  have hby := Bd.bytes
  have hml : c.maxLocals = 7 := hml0
  have hown : s.vm.findClass "com/example/foglane/foglane/uncertainty/FuzzyRuleBase$Term" = some m.cls := findClass_of_methodNamed Bd.named
  have hnaM := (name_of_methodNamed Bd.named Bd.method).1
  have X0 : Stand p l e ({ frames := 2, cells := 0, slots := 0, locals := 26 } : Room) s m #[(.ref a1), (.double p1), (.double p2), (.double p3)] below meth c s₁ [] 0 0 := Stand.of_body Bd
  have e0 : s₁.heap = h0 := by rw [← hh, Bd.state]; rfl
  have N0 := Fr.nil n0
  have pre0 : ∀ t, Steps p.tables e below (s₁.setTop (entryFrame m #[(.ref a1), (.double p1), (.double p2), (.double p3)] 7)) t → Steps p.tables e below (s₁.setTop (entryFrame m #[(.ref a1), (.double p1), (.double p2), (.double p3)] 7)) t := fun t k => k
  have c0 : ∀ t, Steps p.tables e below (s₁.setTop (mkF m 0 #[.val (.ref a1), .val (.double p1), .second, .val (.double p2), .second, .val (.double p3), .second] [])) t → Steps p.tables e below (s₁.setTop (entryFrame m #[(.ref a1), (.double p1), (.double p2), (.double p3)] 7)) t := fun t k => castTop (ef_1 m a1 p1 p2 p3) k
  have K0 := Keep.refl h0 [a1]
  have c1 : ∀ t, Steps p.tables e below (s₁.setTop (mkF m 1 #[.val (.ref a1), .val (.double p1), .second, .val (.double p2), .second, .val (.double p3), .second] [(.ref a1)])) t → Steps p.tables e below (s₁.setTop (entryFrame m #[(.ref a1), (.double p1), (.double p2), (.double p3)] 7)) t := fun t k => c0 t (by
    show Steps p.tables e below (s₁.setTop (mkF m 0 #[.val (.ref a1), .val (.double p1), .second, .val (.double p2), .second, .val (.double p3), .second] [])) _
    refine XS.aloadN X0.here hx rfl (hb hby d1_0) rfl rfl ?_
    show Steps p.tables e below (s₁.setTop (mkF m 1 #[.val (.ref a1), .val (.double p1), .second, .val (.double p2), .second, .val (.double p3), .second] [(.ref a1)])) _
    exact k)
  obtain ⟨_, _, ⟨T2, L2, k2', n2⟩, -, X2, ⟨Lc2, hQ2, l2, y2, z2⟩, st2⟩ := X0.specialBack hx (y := (⟨"java/lang/Record", "<init>", "()V"⟩ : MethodName)) rfl hown (mvT hZ (hw _ (List.mem_of_getElem? (i := 8) rfl))) (mvT hZ (hw _ (List.mem_of_getElem? (i := 9) rfl))) (mvT hZ (hw _ (List.mem_of_getElem? (i := 12) rfl))) (by decide) (backOf (W := 0) (rm_2 l Z a0 hw [] a1 h0 n0 Z0) hZ (hw _ (List.mem_of_getElem? (i := 12) rfl)) (hw _ (List.mem_of_getElem? (i := 11) rfl)) (by decide) (by decide)) (g := (mkF m 1 #[.val (.ref a1), .val (.double p1), .second, .val (.double p2), .second, .val (.double p3), .second] [(.ref a1)])) rfl (by rw [hml]; rfl) (Steps.refl _) (a := a1) (argsL := []) (rest := []) (lenOf pd___V rfl) rfl (by show 2 * 0 + _ ≤ _; exact Nat.le_of_eq rfl) (hb hby d1_1) (fun _ _ => ⟨rfl, e0, (by decide : 0 + 0 ≤ _), (by decide : 0 + 0 ≤ _)⟩)
  dsimp only [Pt.U, Pt.locs, Pt.cells, Pt.slots] at X2 l2 y2 z2 st2 hQ2
  subst l2 y2 z2
  obtain ⟨rfl, N2, e2⟩ := hQ2
  have M2 := Fr.app N0 N2
  have c3 : ∀ t, Steps p.tables e below (T2.setTop (mkF m 4 #[.val (.ref a1), .val (.double p1), .second, .val (.double p2), .second, .val (.double p3), .second] [])) t → Steps p.tables e below (s₁.setTop (entryFrame m #[(.ref a1), (.double p1), (.double p2), (.double p3)] 7)) t := fun t k => c1 t (st2.trans k)
  obtain ⟨k6, hk6⟩ : ∃ v : Int32, cmpValue (FP.dcmp p1 p2) .g = v := ⟨_, rfl⟩
  have v6 : ¬ 0 < k6 := by
    rw [← hk6, cmpV_of (notNan f1) (notNan f2)]
    have := l1
    split
    · decide
    · split
      · decide
      · omega
  obtain ⟨k13, hk13⟩ : ∃ v : Int32, cmpValue (FP.dcmp p2 p3) .g = v := ⟨_, rfl⟩
  have v13 : ¬ 0 < k13 := by
    rw [← hk13, cmpV_of (notNan f2) (notNan f3)]
    have := l2
    split
    · decide
    · split
      · decide
      · omega
  obtain ⟨k20, hk20⟩ : ∃ v : Int32, cmpValue (FP.dcmp p1 p3) .g = v := ⟨_, rfl⟩
  have v20 : k20 = -1 := hk20 ▸ cmp_lt (notNan f1) (notNan f3) l3 .g
  have c4 : ∀ t, Steps p.tables e below (T2.setTop (mkF m 25 #[.val (.ref a1), .val (.double p1), .second, .val (.double p2), .second, .val (.double p3), .second] [(.double p1)])) t → Steps p.tables e below (s₁.setTop (entryFrame m #[(.ref a1), (.double p1), (.double p2), (.double p3)] 7)) t := fun t k => c3 t (by
    show Steps p.tables e below (T2.setTop (mkF m 4 #[.val (.ref a1), .val (.double p1), .second, .val (.double p2), .second, .val (.double p3), .second] [])) _
    refine XS.dloadN X2.here hx rfl (hb hby d1_4) rfl ?_
    show Steps p.tables e below (T2.setTop (mkF m 5 #[.val (.ref a1), .val (.double p1), .second, .val (.double p2), .second, .val (.double p3), .second] [(.double p1)])) _
    refine XS.dloadN X2.here hx rfl (hb hby d1_5) rfl ?_
    show Steps p.tables e below (T2.setTop (mkF m 6 #[.val (.ref a1), .val (.double p1), .second, .val (.double p2), .second, .val (.double p3), .second] [(.double p2), (.double p1)])) _
    refine XS.dcmpS X2.here hx rfl (hb hby d1_6) rfl hk6 ?_
    show Steps p.tables e below (T2.setTop (mkF m 7 #[.val (.ref a1), .val (.double p1), .second, .val (.double p2), .second, .val (.double p3), .second] [(.int k6)])) _
    refine XS.ifNo X2.here hx rfl (hb hby d1_7) rfl (XT.i0_gt_f v6) ?_
    show Steps p.tables e below (T2.setTop (mkF m 10 #[.val (.ref a1), .val (.double p1), .second, .val (.double p2), .second, .val (.double p3), .second] [])) _
    refine XS.dloadN X2.here hx rfl (hb hby d1_10) rfl ?_
    show Steps p.tables e below (T2.setTop (mkF m 11 #[.val (.ref a1), .val (.double p1), .second, .val (.double p2), .second, .val (.double p3), .second] [(.double p2)])) _
    refine XS.dload X2.here hx rfl (hb hby d1_11) rfl ?_
    show Steps p.tables e below (T2.setTop (mkF m 13 #[.val (.ref a1), .val (.double p1), .second, .val (.double p2), .second, .val (.double p3), .second] [(.double p3), (.double p2)])) _
    refine XS.dcmpS X2.here hx rfl (hb hby d1_13) rfl hk13 ?_
    show Steps p.tables e below (T2.setTop (mkF m 14 #[.val (.ref a1), .val (.double p1), .second, .val (.double p2), .second, .val (.double p3), .second] [(.int k13)])) _
    refine XS.ifNo X2.here hx rfl (hb hby d1_14) rfl (XT.i0_gt_f v13) ?_
    show Steps p.tables e below (T2.setTop (mkF m 17 #[.val (.ref a1), .val (.double p1), .second, .val (.double p2), .second, .val (.double p3), .second] [])) _
    refine XS.dloadN X2.here hx rfl (hb hby d1_17) rfl ?_
    show Steps p.tables e below (T2.setTop (mkF m 18 #[.val (.ref a1), .val (.double p1), .second, .val (.double p2), .second, .val (.double p3), .second] [(.double p1)])) _
    refine XS.dload X2.here hx rfl (hb hby d1_18) rfl ?_
    show Steps p.tables e below (T2.setTop (mkF m 20 #[.val (.ref a1), .val (.double p1), .second, .val (.double p2), .second, .val (.double p3), .second] [(.double p3), (.double p1)])) _
    refine XS.dcmpS X2.here hx rfl (hb hby d1_20) rfl hk20 ?_
    show Steps p.tables e below (T2.setTop (mkF m 21 #[.val (.ref a1), .val (.double p1), .second, .val (.double p2), .second, .val (.double p3), .second] [(.int k20)])) _
    refine XS.ifNo X2.here hx rfl (hb hby d1_21) rfl (XT.i0_ge_f (by rw [v20]; decide)) ?_
    show Steps p.tables e below (T2.setTop (mkF m 24 #[.val (.ref a1), .val (.double p1), .second, .val (.double p2), .second, .val (.double p3), .second] [])) _
    refine XS.dloadN X2.here hx rfl (hb hby d1_24) rfl ?_
    show Steps p.tables e below (T2.setTop (mkF m 25 #[.val (.ref a1), .val (.double p1), .second, .val (.double p2), .second, .val (.double p3), .second] [(.double p1)])) _
    exact k)
  obtain ⟨_, _, ⟨T5, L5, k5', n5⟩, -, X5, ⟨Lc5, hQ5, l5, y5, z5⟩, st5⟩ := Jvm.LawKit.callS X2 hx (y := (⟨"java/lang/Double", "isInfinite", "(D)Z"⟩ : MethodName)) hown (mvT hZ (hw _ (List.mem_of_getElem? (i := 16) rfl))) (mvT hZ (hw _ (List.mem_of_getElem? (i := 17) rfl))) (mvT hZ (hw _ (List.mem_of_getElem? (i := 18) rfl))) (mvT hZ (hw _ (List.mem_of_getElem? (i := 19) rfl))) (by decide) (backOf (W := 0) (rm_4 l Z a0 hw [] p1 h0 n0 Z0 f1) hZ (hw _ (List.mem_of_getElem? (i := 19) rfl)) (hw _ (List.mem_of_getElem? (i := 18) rfl)) (by decide) (by decide)) (g := (mkF m 25 #[.val (.ref a1), .val (.double p1), .second, .val (.double p2), .second, .val (.double p3), .second] [(.double p1)])) rfl (by rw [hml]; rfl) (argsL := [(.double p1)]) (rest := []) (lenOf pd__D_Z rfl) rfl (by show 2 * 0 + _ ≤ _; exact Nat.le_of_eq rfl) (hb hby d1_25) (fun _ _ => ⟨rfl, e2, (by decide : 0 + 0 ≤ _), (by decide : 0 + 0 ≤ _)⟩)
  dsimp only [Pt.U, Pt.locs, Pt.cells, Pt.slots] at X5 l5 y5 z5 st5 hQ5
  subst l5 y5 z5
  obtain ⟨rfl, N5, e5⟩ := hQ5
  have M5 := Fr.app M2 N5
  have c6 : ∀ t, Steps p.tables e below (T5.setTop (mkF m 28 #[.val (.ref a1), .val (.double p1), .second, .val (.double p2), .second, .val (.double p3), .second] [(.int (0 : Int32))])) t → Steps p.tables e below (s₁.setTop (entryFrame m #[(.ref a1), (.double p1), (.double p2), (.double p3)] 7)) t := fun t k => c4 t (st5 _ k)
  have c7 : ∀ t, Steps p.tables e below (T5.setTop (mkF m 33 #[.val (.ref a1), .val (.double p1), .second, .val (.double p2), .second, .val (.double p3), .second] [(.double p3)])) t → Steps p.tables e below (s₁.setTop (entryFrame m #[(.ref a1), (.double p1), (.double p2), (.double p3)] 7)) t := fun t k => c6 t (by
    show Steps p.tables e below (T5.setTop (mkF m 28 #[.val (.ref a1), .val (.double p1), .second, .val (.double p2), .second, .val (.double p3), .second] [(.int (0 : Int32))])) _
    refine XS.ifNo X5.here hx rfl (hb hby d1_28) rfl (XT.i0_ne_f (by decide)) ?_
    show Steps p.tables e below (T5.setTop (mkF m 31 #[.val (.ref a1), .val (.double p1), .second, .val (.double p2), .second, .val (.double p3), .second] [])) _
    refine XS.dload X5.here hx rfl (hb hby d1_31) rfl ?_
    show Steps p.tables e below (T5.setTop (mkF m 33 #[.val (.ref a1), .val (.double p1), .second, .val (.double p2), .second, .val (.double p3), .second] [(.double p3)])) _
    exact k)
  obtain ⟨_, _, ⟨T8, L8, k8', n8⟩, -, X8, ⟨Lc8, hQ8, l8, y8, z8⟩, st8⟩ := Jvm.LawKit.callS X5 hx (y := (⟨"java/lang/Double", "isInfinite", "(D)Z"⟩ : MethodName)) hown (mvT hZ (hw _ (List.mem_of_getElem? (i := 16) rfl))) (mvT hZ (hw _ (List.mem_of_getElem? (i := 17) rfl))) (mvT hZ (hw _ (List.mem_of_getElem? (i := 18) rfl))) (mvT hZ (hw _ (List.mem_of_getElem? (i := 19) rfl))) (by decide) (backOf (W := 0) (rm_4 l Z a0 hw [] p3 h0 n0 Z0 f3) hZ (hw _ (List.mem_of_getElem? (i := 19) rfl)) (hw _ (List.mem_of_getElem? (i := 18) rfl)) (by decide) (by decide)) (g := (mkF m 33 #[.val (.ref a1), .val (.double p1), .second, .val (.double p2), .second, .val (.double p3), .second] [(.double p3)])) rfl (by rw [hml]; rfl) (argsL := [(.double p3)]) (rest := []) (lenOf pd__D_Z rfl) rfl (by show 2 * 0 + _ ≤ _; exact Nat.le_of_eq rfl) (hb hby d1_33) (fun _ _ => ⟨rfl, e5, (by decide : 0 + 0 ≤ _), (by decide : 0 + 0 ≤ _)⟩)
  dsimp only [Pt.U, Pt.locs, Pt.cells, Pt.slots] at X8 l8 y8 z8 st8 hQ8
  subst l8 y8 z8
  obtain ⟨rfl, N8, e8⟩ := hQ8
  have M8 := Fr.app M5 N8
  have c9 : ∀ t, Steps p.tables e below (T8.setTop (mkF m 36 #[.val (.ref a1), .val (.double p1), .second, .val (.double p2), .second, .val (.double p3), .second] [(.int (0 : Int32))])) t → Steps p.tables e below (s₁.setTop (entryFrame m #[(.ref a1), (.double p1), (.double p2), (.double p3)] 7)) t := fun t k => c7 t (st8 _ k)
  have c10 : ∀ t, Steps p.tables e below (T8.setTop (mkF m 58 #[.val (.ref a1), .val (.double p1), .second, .val (.double p2), .second, .val (.double p3), .second] [(.double p1), (.ref a1)])) t → Steps p.tables e below (s₁.setTop (entryFrame m #[(.ref a1), (.double p1), (.double p2), (.double p3)] 7)) t := fun t k => c9 t (by
    show Steps p.tables e below (T8.setTop (mkF m 36 #[.val (.ref a1), .val (.double p1), .second, .val (.double p2), .second, .val (.double p3), .second] [(.int (0 : Int32))])) _
    refine XS.ifYes X8.here hx rfl (pc0 := 36) (pc' := 56) rfl (hb hby d1_36) rfl (XT.i0_eq_t (by decide)) (by decide) (by decide) ?_
    show Steps p.tables e below (T8.setTop (mkF m 56 #[.val (.ref a1), .val (.double p1), .second, .val (.double p2), .second, .val (.double p3), .second] [])) _
    refine XS.aloadN X8.here hx rfl (hb hby d1_56) rfl rfl ?_
    show Steps p.tables e below (T8.setTop (mkF m 57 #[.val (.ref a1), .val (.double p1), .second, .val (.double p2), .second, .val (.double p3), .second] [(.ref a1)])) _
    refine XS.dloadN X8.here hx rfl (hb hby d1_57) rfl ?_
    show Steps p.tables e below (T8.setTop (mkF m 58 #[.val (.ref a1), .val (.double p1), .second, .val (.double p2), .second, .val (.double p3), .second] [(.double p1), (.ref a1)])) _
    exact k)
  obtain ⟨T11, h11, X11, e11, W11, st11⟩ := putF X8 hx hZ hown (host := "") (Or.inl (hw _ (List.mem_of_getElem? (i := 25) rfl))) Via.refl e8 F_0 E_a1 (Or.inr ⟨(hw _ (List.mem_of_getElem? (i := 26) rfl)), rfl, hnaM⟩) (hw _ (List.mem_of_getElem? (i := 3) rfl)) (ty := .double) (by decide) rfl rfl (g := (mkF m 58 #[.val (.ref a1), .val (.double p1), .second, .val (.double p2), .second, .val (.double p3), .second] [(.double p1), (.ref a1)])) rfl rfl (hb hby d1_58)
  have F12 : Fld Z h11 a1 "com/example/foglane/foglane/uncertainty/FuzzyRuleBase$Term" "left" "D" (.double p1) := F_0.same W11
  have F13 : Exa Z h11 a1 "com/example/foglane/foglane/uncertainty/FuzzyRuleBase$Term" := (E_a1.wr W11)
  have F14 : Fld Z h11 a1 "com/example/foglane/foglane/uncertainty/FuzzyRuleBase$Term" "peak" "D" (.double (0 : UInt64)) := (F_1.other W11 (Or.inr (slot_ne (Or.inr (hw _ (List.mem_of_getElem? (i := 28) rfl))) (Or.inr (hw _ (List.mem_of_getElem? (i := 26) rfl))) (by decide) (t := .double) (t' := .double) (by decide) (by decide))))
  have F15 : Fld Z h11 a1 "com/example/foglane/foglane/uncertainty/FuzzyRuleBase$Term" "right" "D" (.double (0 : UInt64)) := (F_2.other W11 (Or.inr (slot_ne (Or.inr (hw _ (List.mem_of_getElem? (i := 30) rfl))) (Or.inr (hw _ (List.mem_of_getElem? (i := 26) rfl))) (by decide) (t := .double) (t' := .double) (by decide) (by decide))))
  have N11 := Fr.snoc X11 M8 g_a1
  have K16 : Keep h0 h11 [a1] := K0.wr W11 (Or.inl (List.mem_of_getElem? (i := 0) rfl))
  have c17 : ∀ t, Steps p.tables e below (T11.setTop (mkF m 61 #[.val (.ref a1), .val (.double p1), .second, .val (.double p2), .second, .val (.double p3), .second] [])) t → Steps p.tables e below (s₁.setTop (entryFrame m #[(.ref a1), (.double p1), (.double p2), (.double p3)] 7)) t := fun t k => c10 t (st11 _ k)
  have c18 : ∀ t, Steps p.tables e below (T11.setTop (mkF m 63 #[.val (.ref a1), .val (.double p1), .second, .val (.double p2), .second, .val (.double p3), .second] [(.double p2), (.ref a1)])) t → Steps p.tables e below (s₁.setTop (entryFrame m #[(.ref a1), (.double p1), (.double p2), (.double p3)] 7)) t := fun t k => c17 t (by
    show Steps p.tables e below (T11.setTop (mkF m 61 #[.val (.ref a1), .val (.double p1), .second, .val (.double p2), .second, .val (.double p3), .second] [])) _
    refine XS.aloadN X11.here hx rfl (hb hby d1_61) rfl rfl ?_
    show Steps p.tables e below (T11.setTop (mkF m 62 #[.val (.ref a1), .val (.double p1), .second, .val (.double p2), .second, .val (.double p3), .second] [(.ref a1)])) _
    refine XS.dloadN X11.here hx rfl (hb hby d1_62) rfl ?_
    show Steps p.tables e below (T11.setTop (mkF m 63 #[.val (.ref a1), .val (.double p1), .second, .val (.double p2), .second, .val (.double p3), .second] [(.double p2), (.ref a1)])) _
    exact k)
  obtain ⟨T19, h19, X19, e19, W19, st19⟩ := putF X11 hx hZ hown (host := "") (Or.inl (hw _ (List.mem_of_getElem? (i := 27) rfl))) Via.refl e11 F14 F13 (Or.inr ⟨(hw _ (List.mem_of_getElem? (i := 28) rfl)), rfl, hnaM⟩) (hw _ (List.mem_of_getElem? (i := 3) rfl)) (ty := .double) (by decide) rfl rfl (g := (mkF m 63 #[.val (.ref a1), .val (.double p1), .second, .val (.double p2), .second, .val (.double p3), .second] [(.double p2), (.ref a1)])) rfl rfl (hb hby d1_63)
  have F20 : Fld Z h19 a1 "com/example/foglane/foglane/uncertainty/FuzzyRuleBase$Term" "peak" "D" (.double p2) := F14.same W19
  have F21 : Exa Z h19 a1 "com/example/foglane/foglane/uncertainty/FuzzyRuleBase$Term" := (F13.wr W19)
  have F22 : Fld Z h19 a1 "com/example/foglane/foglane/uncertainty/FuzzyRuleBase$Term" "left" "D" (.double p1) := (F12.other W19 (Or.inr (slot_ne (Or.inr (hw _ (List.mem_of_getElem? (i := 26) rfl))) (Or.inr (hw _ (List.mem_of_getElem? (i := 28) rfl))) (by decide) (t := .double) (t' := .double) (by decide) (by decide))))
  have F23 : Fld Z h19 a1 "com/example/foglane/foglane/uncertainty/FuzzyRuleBase$Term" "right" "D" (.double (0 : UInt64)) := (F15.other W19 (Or.inr (slot_ne (Or.inr (hw _ (List.mem_of_getElem? (i := 30) rfl))) (Or.inr (hw _ (List.mem_of_getElem? (i := 28) rfl))) (by decide) (t := .double) (t' := .double) (by decide) (by decide))))
  have N19 := Fr.snoc X19 N11 g_a1
  have K24 : Keep h0 h19 [a1] := K16.wr W19 (Or.inl (List.mem_of_getElem? (i := 0) rfl))
  have c25 : ∀ t, Steps p.tables e below (T19.setTop (mkF m 66 #[.val (.ref a1), .val (.double p1), .second, .val (.double p2), .second, .val (.double p3), .second] [])) t → Steps p.tables e below (s₁.setTop (entryFrame m #[(.ref a1), (.double p1), (.double p2), (.double p3)] 7)) t := fun t k => c18 t (st19 _ k)
  have c26 : ∀ t, Steps p.tables e below (T19.setTop (mkF m 69 #[.val (.ref a1), .val (.double p1), .second, .val (.double p2), .second, .val (.double p3), .second] [(.double p3), (.ref a1)])) t → Steps p.tables e below (s₁.setTop (entryFrame m #[(.ref a1), (.double p1), (.double p2), (.double p3)] 7)) t := fun t k => c25 t (by
    show Steps p.tables e below (T19.setTop (mkF m 66 #[.val (.ref a1), .val (.double p1), .second, .val (.double p2), .second, .val (.double p3), .second] [])) _
    refine XS.aloadN X19.here hx rfl (hb hby d1_66) rfl rfl ?_
    show Steps p.tables e below (T19.setTop (mkF m 67 #[.val (.ref a1), .val (.double p1), .second, .val (.double p2), .second, .val (.double p3), .second] [(.ref a1)])) _
    refine XS.dload X19.here hx rfl (hb hby d1_67) rfl ?_
    show Steps p.tables e below (T19.setTop (mkF m 69 #[.val (.ref a1), .val (.double p1), .second, .val (.double p2), .second, .val (.double p3), .second] [(.double p3), (.ref a1)])) _
    exact k)
  obtain ⟨T27, h27, X27, e27, W27, st27⟩ := putF X19 hx hZ hown (host := "") (Or.inl (hw _ (List.mem_of_getElem? (i := 29) rfl))) Via.refl e19 F23 F21 (Or.inr ⟨(hw _ (List.mem_of_getElem? (i := 30) rfl)), rfl, hnaM⟩) (hw _ (List.mem_of_getElem? (i := 3) rfl)) (ty := .double) (by decide) rfl rfl (g := (mkF m 69 #[.val (.ref a1), .val (.double p1), .second, .val (.double p2), .second, .val (.double p3), .second] [(.double p3), (.ref a1)])) rfl rfl (hb hby d1_69)
  have F28 : Fld Z h27 a1 "com/example/foglane/foglane/uncertainty/FuzzyRuleBase$Term" "right" "D" (.double p3) := F23.same W27
  have F29 : Exa Z h27 a1 "com/example/foglane/foglane/uncertainty/FuzzyRuleBase$Term" := (F21.wr W27)
  have F30 : Fld Z h27 a1 "com/example/foglane/foglane/uncertainty/FuzzyRuleBase$Term" "left" "D" (.double p1) := (F22.other W27 (Or.inr (slot_ne (Or.inr (hw _ (List.mem_of_getElem? (i := 26) rfl))) (Or.inr (hw _ (List.mem_of_getElem? (i := 30) rfl))) (by decide) (t := .double) (t' := .double) (by decide) (by decide))))
  have F31 : Fld Z h27 a1 "com/example/foglane/foglane/uncertainty/FuzzyRuleBase$Term" "peak" "D" (.double p2) := (F20.other W27 (Or.inr (slot_ne (Or.inr (hw _ (List.mem_of_getElem? (i := 28) rfl))) (Or.inr (hw _ (List.mem_of_getElem? (i := 30) rfl))) (by decide) (t := .double) (t' := .double) (by decide) (by decide))))
  have N27 := Fr.snoc X27 N19 g_a1
  have K32 : Keep h0 h27 [a1] := K24.wr W27 (Or.inl (List.mem_of_getElem? (i := 0) rfl))
  have c33 : ∀ t, Steps p.tables e below (T27.setTop (mkF m 72 #[.val (.ref a1), .val (.double p1), .second, .val (.double p2), .second, .val (.double p3), .second] [])) t → Steps p.tables e below (s₁.setTop (entryFrame m #[(.ref a1), (.double p1), (.double p2), (.double p3)] 7)) t := fun t k => c26 t (st27 _ k)
  obtain ⟨fs, hr, hrun, hended, hW, hsame⟩ := X27.leave (v := none) (fun _ => rfl)
  refine ⟨_, _, pre0 _ (c33 _ (X27.returnOut hx Bd.returns (hb hby d1_72) hr)), hrun, hended, _, _, rfl, ?_, ⟨_, rfl⟩, hW, hsame.mono (by decide) (by decide)⟩
  show Q_1 Z a1 p1 p2 p3 h0 n0 _ T27.heap _
  rw [e27]
  exact ⟨rfl, N27, K32, F29, F30, F31, F28⟩
/-- what membership gives, of whole feet, peak and place -/
def Mem (l_ p_ r_ x_ : Int) (r : UInt64) : Prop :=
  ((x_ < l_ ∨ r_ < x_) ∧ r = FP.dconst0) ∨ (x_ = p_ ∧ r = FP.dconst1) ∨
  (l_ ≤ x_ ∧ x_ < p_ ∧ ∃ a b, DS (x_ - l_) 0 a ∧ DS (p_ - l_) 0 b ∧ r = FP.ddiv a b) ∨
  (x_ ≤ r_ ∧ p_ < x_ ∧ ∃ a b, DS (r_ - x_) 0 a ∧ DS (r_ - p_) 0 b ∧ r = FP.ddiv a b)
theorem d6_0 : decode prog_91_method_2_code 0 = .ok (.dload_n 1, 1) := by decide +kernel
theorem d6_1 : decode prog_91_method_2_code 1 = .ok (.aload_n 0, 1) := by decide +kernel
theorem d6_2 : decode prog_91_method_2_code 2 = .ok (.getfield 22, 3) := by decide +kernel
theorem d6_5 : decode prog_91_method_2_code 5 = .ok (.dcmp .g, 1) := by decide +kernel
theorem d6_6 : decode prog_91_method_2_code 6 = .ok (.ifCond .lt 12, 3) := by decide +kernel
theorem d6_9 : decode prog_91_method_2_code 9 = .ok (.dload_n 1, 1) := by decide +kernel
theorem d6_10 : decode prog_91_method_2_code 10 = .ok (.aload_n 0, 1) := by decide +kernel
theorem d6_11 : decode prog_91_method_2_code 11 = .ok (.getfield 31, 3) := by decide +kernel
theorem d6_14 : decode prog_91_method_2_code 14 = .ok (.dcmp .l, 1) := by decide +kernel
theorem d6_15 : decode prog_91_method_2_code 15 = .ok (.ifCond .le 5, 3) := by decide +kernel
theorem d6_18 : decode prog_91_method_2_code 18 = .ok (.dconst 0, 1) := by decide +kernel
theorem d6_19 : decode prog_91_method_2_code 19 = .ok (.dreturn, 1) := by decide +kernel
theorem d6_20 : decode prog_91_method_2_code 20 = .ok (.dload_n 1, 1) := by decide +kernel
theorem d6_21 : decode prog_91_method_2_code 21 = .ok (.aload_n 0, 1) := by decide +kernel
theorem d6_22 : decode prog_91_method_2_code 22 = .ok (.getfield 28, 3) := by decide +kernel
theorem d6_25 : decode prog_91_method_2_code 25 = .ok (.dcmp .l, 1) := by decide +kernel
theorem d6_26 : decode prog_91_method_2_code 26 = .ok (.ifCond .ne 5, 3) := by decide +kernel
theorem d6_29 : decode prog_91_method_2_code 29 = .ok (.dconst 1, 1) := by decide +kernel
theorem d6_30 : decode prog_91_method_2_code 30 = .ok (.dreturn, 1) := by decide +kernel
theorem d6_31 : decode prog_91_method_2_code 31 = .ok (.dload_n 1, 1) := by decide +kernel
theorem d6_32 : decode prog_91_method_2_code 32 = .ok (.aload_n 0, 1) := by decide +kernel
theorem d6_33 : decode prog_91_method_2_code 33 = .ok (.getfield 28, 3) := by decide +kernel
theorem d6_36 : decode prog_91_method_2_code 36 = .ok (.dcmp .g, 1) := by decide +kernel
theorem d6_37 : decode prog_91_method_2_code 37 = .ok (.ifCond .ge 22, 3) := by decide +kernel
theorem d6_40 : decode prog_91_method_2_code 40 = .ok (.dload_n 1, 1) := by decide +kernel
theorem d6_41 : decode prog_91_method_2_code 41 = .ok (.aload_n 0, 1) := by decide +kernel
theorem d6_42 : decode prog_91_method_2_code 42 = .ok (.getfield 22, 3) := by decide +kernel
theorem d6_45 : decode prog_91_method_2_code 45 = .ok (.dsub, 1) := by decide +kernel
theorem d6_46 : decode prog_91_method_2_code 46 = .ok (.aload_n 0, 1) := by decide +kernel
theorem d6_47 : decode prog_91_method_2_code 47 = .ok (.getfield 28, 3) := by decide +kernel
theorem d6_50 : decode prog_91_method_2_code 50 = .ok (.aload_n 0, 1) := by decide +kernel
theorem d6_51 : decode prog_91_method_2_code 51 = .ok (.getfield 22, 3) := by decide +kernel
theorem d6_54 : decode prog_91_method_2_code 54 = .ok (.dsub, 1) := by decide +kernel
theorem d6_55 : decode prog_91_method_2_code 55 = .ok (.ddiv, 1) := by decide +kernel
theorem d6_56 : decode prog_91_method_2_code 56 = .ok (.goto 19, 3) := by decide +kernel
theorem d6_59 : decode prog_91_method_2_code 59 = .ok (.aload_n 0, 1) := by decide +kernel
theorem d6_60 : decode prog_91_method_2_code 60 = .ok (.getfield 31, 3) := by decide +kernel
theorem d6_63 : decode prog_91_method_2_code 63 = .ok (.dload_n 1, 1) := by decide +kernel
theorem d6_64 : decode prog_91_method_2_code 64 = .ok (.dsub, 1) := by decide +kernel
theorem d6_65 : decode prog_91_method_2_code 65 = .ok (.aload_n 0, 1) := by decide +kernel
theorem d6_66 : decode prog_91_method_2_code 66 = .ok (.getfield 31, 3) := by decide +kernel
theorem d6_69 : decode prog_91_method_2_code 69 = .ok (.aload_n 0, 1) := by decide +kernel
theorem d6_70 : decode prog_91_method_2_code 70 = .ok (.getfield 28, 3) := by decide +kernel
theorem d6_73 : decode prog_91_method_2_code 73 = .ok (.dsub, 1) := by decide +kernel
theorem d6_74 : decode prog_91_method_2_code 74 = .ok (.ddiv, 1) := by decide +kernel
theorem d6_75 : decode prog_91_method_2_code 75 = .ok (.dreturn, 1) := by decide +kernel
theorem ef_6 (m : MethodId) (a1 : Addr) (ps : UInt64) (p1 : UInt64) (p2 : UInt64) (p3 : UInt64) (l_ p_ r_ x_ : Int) : entryFrame m #[(.ref a1), (.double ps)] 3 = (mkF m 0 #[.val (.ref a1), .val (.double ps), .second] []) := by first | (simp [entryFrame, mkF, argsToLocals, Value.category]; done) | rfl
def Q_6 (Z : State) (a1 : Addr) (ps : UInt64) (p1 : UInt64) (p2 : UInt64) (p3 : UInt64) (l_ p_ r_ x_ : Int) (h0 : Heap) (n0 : Nat) (v : Option Value) (h : Heap) (L : List Loc) : Prop := (∃ r, v = some (.double r) ∧ Mem l_ p_ r_ x_ r) ∧ Fr n0 L ∧ h = h0
set_option maxRecDepth 65536 in
set_option maxHeartbeats 2000000 in
theorem rm_6 (l : Launch) (Z : State) (a0 : Array Value) (hw : ∀ d ∈ tables_1, d.before a0 Z = true) (ws : List Jvm.Cond) (a1 : Addr) (ps : UInt64) (p1 : UInt64) (p2 : UInt64) (p3 : UInt64) (l_ p_ r_ x_ : Int) (h0 : Heap) (n0 : Nat) (Z0 : n0 ≤ h0.size) (G_0 : Fld Z h0 a1 "com/example/foglane/foglane/uncertainty/FuzzyRuleBase$Term" "left" "D" (.double p1)) (G_1 : Fld Z h0 a1 "com/example/foglane/foglane/uncertainty/FuzzyRuleBase$Term" "peak" "D" (.double p2)) (G_2 : Fld Z h0 a1 "com/example/foglane/foglane/uncertainty/FuzzyRuleBase$Term" "right" "D" (.double p3)) (d1 : DS l_ 0 p1) (d2 : DS p_ 0 p2) (d3 : DS r_ 0 p3) (ds : DS x_ 0 ps) (hb_ : l_ ≤ p_ ∧ p_ ≤ r_ ∧ l_.natAbs ≤ 2 ^ 40 ∧ r_.natAbs ≤ 2 ^ 40 ∧ x_.natAbs ≤ 2 ^ 40) :
    MetFree l (⟨"com/example/foglane/foglane/uncertainty/FuzzyRuleBase$Term", "membership", "(D)D"⟩ : MethodName) (head1 (Jvm.Cond.code (⟨"com/example/foglane/foglane/uncertainty/FuzzyRuleBase$Term", "membership", "(D)D"⟩ : MethodName) prog_91_method_2_code 3 (some .double) :: ws) ({ frames := 0, cells := 0, slots := 0, locals := 0 } : Room)) (fun aa UU => aa = #[(.ref a1), (.double ps)] ∧ Z.Warmed39 UU.vm ∧ UU.heap = h0) (fun _ _ _ _ _ => True) (fun _ UU oo UU' => ∃ v L, oo = .returned v ∧ Q_6 Z a1 ps p1 p2 p3 l_ p_ r_ x_ h0 n0 v UU'.heap L ∧ FrameEnd UU oo UU' L ({ frames := 0, cells := 0, slots := 0, locals := 0 } : Room).cells ({ frames := 0, cells := 0, slots := 0, locals := 0 } : Room).slots) := by
  refine MetFree.of_bodySF (plainFor_of_name pn_com_example_foglane_foglane_uncertainty_FuzzyRuleBase_Term) hisR ?_
  intro p e s m args below meth c s₁ Bd hml0 hP hK
  obtain ⟨rfl, hZ, hh⟩ := hP
  have hx := Bd.exec
  have hby := Bd.bytes
  have hml : c.maxLocals = 3 := hml0
  have hown : s.vm.findClass "com/example/foglane/foglane/uncertainty/FuzzyRuleBase$Term" = some m.cls := findClass_of_methodNamed Bd.named
  have hnaM := (name_of_methodNamed Bd.named Bd.method).1
  have X0 : Stand p l e ({ frames := 0, cells := 0, slots := 0, locals := 0 } : Room) s m #[(.ref a1), (.double ps)] below meth c s₁ [] 0 0 := Stand.of_body Bd
  have e0 : s₁.heap = h0 := by rw [← hh, Bd.state]; rfl
  have N0 := Fr.nil n0
  have pre0 : ∀ t, Steps p.tables e below (s₁.setTop (entryFrame m #[(.ref a1), (.double ps)] 3)) t → Steps p.tables e below (s₁.setTop (entryFrame m #[(.ref a1), (.double ps)] 3)) t := fun t k => k
  have c0 : ∀ t, Steps p.tables e below (s₁.setTop (mkF m 0 #[.val (.ref a1), .val (.double ps), .second] [])) t → Steps p.tables e below (s₁.setTop (entryFrame m #[(.ref a1), (.double ps)] 3)) t := fun t k => castTop (ef_6 m a1 ps p1 p2 p3 l_ p_ r_ x_) k
  have c1 : ∀ t, Steps p.tables e below (s₁.setTop (mkF m 2 #[.val (.ref a1), .val (.double ps), .second] [(.ref a1), (.double ps)])) t → Steps p.tables e below (s₁.setTop (entryFrame m #[(.ref a1), (.double ps)] 3)) t := fun t k => c0 t (by
    show Steps p.tables e below (s₁.setTop (mkF m 0 #[.val (.ref a1), .val (.double ps), .second] [])) _
    refine XS.dloadN X0.here hx rfl (hb hby d6_0) rfl ?_
    show Steps p.tables e below (s₁.setTop (mkF m 1 #[.val (.ref a1), .val (.double ps), .second] [(.double ps)])) _
    refine XS.aloadN X0.here hx rfl (hb hby d6_1) rfl rfl ?_
    show Steps p.tables e below (s₁.setTop (mkF m 2 #[.val (.ref a1), .val (.double ps), .second] [(.ref a1), (.double ps)])) _
    exact k)
  obtain ⟨T2, X2, e2, st2⟩ := getF X0 hx hZ hown (host := "") (Or.inl (hw _ (List.mem_of_getElem? (i := 25) rfl))) Via.refl e0 G_0 (g := (mkF m 2 #[.val (.ref a1), .val (.double ps), .second] [(.ref a1), (.double ps)])) rfl rfl (hb hby d6_2)
  have c3 : ∀ t, Steps p.tables e below (T2.setTop (mkF m 5 #[.val (.ref a1), .val (.double ps), .second] [(.double p1), (.double ps)])) t → Steps p.tables e below (s₁.setTop (entryFrame m #[(.ref a1), (.double ps)] 3)) t := fun t k => c1 t (st2 _ k)
  obtain ⟨k5, hk5⟩ : ∃ v : Int32, cmpValue (FP.dcmp ps p1) .g = v := ⟨_, rfl⟩
  have c5 := ds.cmp d1 .g
  rw [hk5] at c5
  have kv5 : k5 < 0 ↔ x_ < l_ := by
    rw [c5]; split
    · exact ⟨fun _ => by assumption, fun _ => by decide⟩
    · refine ⟨fun h => absurd h ?_, fun h => absurd h (by assumption)⟩
      first | decide | (split <;> decide)
  have c4 : ∀ t, Steps p.tables e below (T2.setTop (mkF m 6 #[.val (.ref a1), .val (.double ps), .second] [(.int k5)])) t → Steps p.tables e below (s₁.setTop (entryFrame m #[(.ref a1), (.double ps)] 3)) t := fun t k => c3 t (by
    show Steps p.tables e below (T2.setTop (mkF m 5 #[.val (.ref a1), .val (.double ps), .second] [(.double p1), (.double ps)])) _
    refine XS.dcmpS X2.here hx rfl (hb hby d6_5) rfl hk5 ?_
    show Steps p.tables e below (T2.setTop (mkF m 6 #[.val (.ref a1), .val (.double ps), .second] [(.int k5)])) _
    exact k)
  by_cases q6 : k5 < 0
  · skip
    have r6 := kv5.mp q6
    have rr : x_ < l_ ∨ r_ < x_ := Or.inl r6
    have c5 : ∀ t, Steps p.tables e below (T2.setTop (mkF m 19 #[.val (.ref a1), .val (.double ps), .second] [(.double FP.dconst0)])) t → Steps p.tables e below (s₁.setTop (entryFrame m #[(.ref a1), (.double ps)] 3)) t := fun t k => c4 t (by
      show Steps p.tables e below (T2.setTop (mkF m 6 #[.val (.ref a1), .val (.double ps), .second] [(.int k5)])) _
      refine XS.ifYes X2.here hx rfl (pc0 := 6) (pc' := 18) rfl (hb hby d6_6) rfl (XT.i0_lt_t q6) (by decide) (by decide) ?_
      show Steps p.tables e below (T2.setTop (mkF m 18 #[.val (.ref a1), .val (.double ps), .second] [])) _
      refine XS.dconst0 X2.here hx rfl (hb hby d6_18) rfl ?_
      show Steps p.tables e below (T2.setTop (mkF m 19 #[.val (.ref a1), .val (.double ps), .second] [(.double FP.dconst0)])) _
      exact k)
    obtain ⟨fs, hr, hrun, hended, hW, hsame⟩ := X2.leave (v := (some (.double FP.dconst0))) (fun h => by rw [Bd.returns] at h; cases h)
    refine ⟨_, _, pre0 _ (c5 _ (retOut X2 hx (t := .double) (i := .dreturn) Bd.returns rfl (Or.inr (Or.inr (Or.inl ⟨rfl, rfl, _, rfl⟩))) (hb hby d6_19) hr)), hrun, hended, _, _, rfl, ?_, ⟨_, rfl⟩, hW, hsame.mono (by decide) (by decide)⟩
    show Q_6 Z a1 ps p1 p2 p3 l_ p_ r_ x_ h0 n0 _ T2.heap _
    rw [e2]
    exact ⟨⟨_, rfl, Or.inl ⟨rr, rfl⟩⟩, N0, rfl⟩
  · skip
    have r6 : ¬ x_ < l_ := fun q => q6 (kv5.mpr q)
    have c6 : ∀ t, Steps p.tables e below (T2.setTop (mkF m 11 #[.val (.ref a1), .val (.double ps), .second] [(.ref a1), (.double ps)])) t → Steps p.tables e below (s₁.setTop (entryFrame m #[(.ref a1), (.double ps)] 3)) t := fun t k => c4 t (by
      show Steps p.tables e below (T2.setTop (mkF m 6 #[.val (.ref a1), .val (.double ps), .second] [(.int k5)])) _
      refine XS.ifNo X2.here hx rfl (hb hby d6_6) rfl (XT.i0_lt_f q6) ?_
      show Steps p.tables e below (T2.setTop (mkF m 9 #[.val (.ref a1), .val (.double ps), .second] [])) _
      refine XS.dloadN X2.here hx rfl (hb hby d6_9) rfl ?_
      show Steps p.tables e below (T2.setTop (mkF m 10 #[.val (.ref a1), .val (.double ps), .second] [(.double ps)])) _
      refine XS.aloadN X2.here hx rfl (hb hby d6_10) rfl rfl ?_
      show Steps p.tables e below (T2.setTop (mkF m 11 #[.val (.ref a1), .val (.double ps), .second] [(.ref a1), (.double ps)])) _
      exact k)
    obtain ⟨T7, X7, e7, st7⟩ := getF X2 hx hZ hown (host := "") (Or.inl (hw _ (List.mem_of_getElem? (i := 29) rfl))) Via.refl e2 G_2 (g := (mkF m 11 #[.val (.ref a1), .val (.double ps), .second] [(.ref a1), (.double ps)])) rfl rfl (hb hby d6_11)
    have c8 : ∀ t, Steps p.tables e below (T7.setTop (mkF m 14 #[.val (.ref a1), .val (.double ps), .second] [(.double p3), (.double ps)])) t → Steps p.tables e below (s₁.setTop (entryFrame m #[(.ref a1), (.double ps)] 3)) t := fun t k => c6 t (st7 _ k)
    obtain ⟨k14, hk14⟩ : ∃ v : Int32, cmpValue (FP.dcmp ps p3) .l = v := ⟨_, rfl⟩
    have c14 := ds.cmp d3 .l
    rw [hk14] at c14
    have kv14 : 0 < k14 ↔ r_ < x_ := by
      rw [c14]; split
      · exact ⟨fun h => absurd h (by decide), fun h => by omega⟩
      · split
        · exact ⟨fun h => absurd h (by decide), fun h => by omega⟩
        · exact ⟨fun h => by omega, fun _ => by decide⟩
    have c9 : ∀ t, Steps p.tables e below (T7.setTop (mkF m 15 #[.val (.ref a1), .val (.double ps), .second] [(.int k14)])) t → Steps p.tables e below (s₁.setTop (entryFrame m #[(.ref a1), (.double ps)] 3)) t := fun t k => c8 t (by
      show Steps p.tables e below (T7.setTop (mkF m 14 #[.val (.ref a1), .val (.double ps), .second] [(.double p3), (.double ps)])) _
      refine XS.dcmpS X7.here hx rfl (hb hby d6_14) rfl hk14 ?_
      show Steps p.tables e below (T7.setTop (mkF m 15 #[.val (.ref a1), .val (.double ps), .second] [(.int k14)])) _
      exact k)
    by_cases q15 : 0 < k14
    · skip
      have r15 := kv14.mp q15
      have rr : x_ < l_ ∨ r_ < x_ := Or.inr r15
      have c10 : ∀ t, Steps p.tables e below (T7.setTop (mkF m 19 #[.val (.ref a1), .val (.double ps), .second] [(.double FP.dconst0)])) t → Steps p.tables e below (s₁.setTop (entryFrame m #[(.ref a1), (.double ps)] 3)) t := fun t k => c9 t (by
        show Steps p.tables e below (T7.setTop (mkF m 15 #[.val (.ref a1), .val (.double ps), .second] [(.int k14)])) _
        refine XS.ifNo X7.here hx rfl (hb hby d6_15) rfl (XT.i0_le_f q15) ?_
        show Steps p.tables e below (T7.setTop (mkF m 18 #[.val (.ref a1), .val (.double ps), .second] [])) _
        refine XS.dconst0 X7.here hx rfl (hb hby d6_18) rfl ?_
        show Steps p.tables e below (T7.setTop (mkF m 19 #[.val (.ref a1), .val (.double ps), .second] [(.double FP.dconst0)])) _
        exact k)
      obtain ⟨fs, hr, hrun, hended, hW, hsame⟩ := X7.leave (v := (some (.double FP.dconst0))) (fun h => by rw [Bd.returns] at h; cases h)
      refine ⟨_, _, pre0 _ (c10 _ (retOut X7 hx (t := .double) (i := .dreturn) Bd.returns rfl (Or.inr (Or.inr (Or.inl ⟨rfl, rfl, _, rfl⟩))) (hb hby d6_19) hr)), hrun, hended, _, _, rfl, ?_, ⟨_, rfl⟩, hW, hsame.mono (by decide) (by decide)⟩
      show Q_6 Z a1 ps p1 p2 p3 l_ p_ r_ x_ h0 n0 _ T7.heap _
      rw [e7]
      exact ⟨⟨_, rfl, Or.inl ⟨rr, rfl⟩⟩, N0, rfl⟩
    · skip
      have r15 : ¬ r_ < x_ := fun q => q15 (kv14.mpr q)
      have c11 : ∀ t, Steps p.tables e below (T7.setTop (mkF m 22 #[.val (.ref a1), .val (.double ps), .second] [(.ref a1), (.double ps)])) t → Steps p.tables e below (s₁.setTop (entryFrame m #[(.ref a1), (.double ps)] 3)) t := fun t k => c9 t (by
        show Steps p.tables e below (T7.setTop (mkF m 15 #[.val (.ref a1), .val (.double ps), .second] [(.int k14)])) _
        refine XS.ifYes X7.here hx rfl (pc0 := 15) (pc' := 20) rfl (hb hby d6_15) rfl (XT.i0_le_t q15) (by decide) (by decide) ?_
        show Steps p.tables e below (T7.setTop (mkF m 20 #[.val (.ref a1), .val (.double ps), .second] [])) _
        refine XS.dloadN X7.here hx rfl (hb hby d6_20) rfl ?_
        show Steps p.tables e below (T7.setTop (mkF m 21 #[.val (.ref a1), .val (.double ps), .second] [(.double ps)])) _
        refine XS.aloadN X7.here hx rfl (hb hby d6_21) rfl rfl ?_
        show Steps p.tables e below (T7.setTop (mkF m 22 #[.val (.ref a1), .val (.double ps), .second] [(.ref a1), (.double ps)])) _
        exact k)
      obtain ⟨T12, X12, e12, st12⟩ := getF X7 hx hZ hown (host := "") (Or.inl (hw _ (List.mem_of_getElem? (i := 27) rfl))) Via.refl e7 G_1 (g := (mkF m 22 #[.val (.ref a1), .val (.double ps), .second] [(.ref a1), (.double ps)])) rfl rfl (hb hby d6_22)
      have c13 : ∀ t, Steps p.tables e below (T12.setTop (mkF m 25 #[.val (.ref a1), .val (.double ps), .second] [(.double p2), (.double ps)])) t → Steps p.tables e below (s₁.setTop (entryFrame m #[(.ref a1), (.double ps)] 3)) t := fun t k => c11 t (st12 _ k)
      obtain ⟨k25, hk25⟩ : ∃ v : Int32, cmpValue (FP.dcmp ps p2) .l = v := ⟨_, rfl⟩
      have c25 := ds.cmp d2 .l
      rw [hk25] at c25
      have kv25 : k25 = 0 ↔ x_ = p_ := by
        rw [c25]; split
        · exact ⟨fun h => absurd h (by decide), fun h => by omega⟩
        · split
          · exact ⟨fun h => by assumption, fun h => rfl⟩
          · exact ⟨fun h => absurd h (by decide), fun h => by omega⟩
      have c14 : ∀ t, Steps p.tables e below (T12.setTop (mkF m 26 #[.val (.ref a1), .val (.double ps), .second] [(.int k25)])) t → Steps p.tables e below (s₁.setTop (entryFrame m #[(.ref a1), (.double ps)] 3)) t := fun t k => c13 t (by
        show Steps p.tables e below (T12.setTop (mkF m 25 #[.val (.ref a1), .val (.double ps), .second] [(.double p2), (.double ps)])) _
        refine XS.dcmpS X12.here hx rfl (hb hby d6_25) rfl hk25 ?_
        show Steps p.tables e below (T12.setTop (mkF m 26 #[.val (.ref a1), .val (.double ps), .second] [(.int k25)])) _
        exact k)
      by_cases q26 : k25 = 0
      · skip
        have r26 := kv25.mp q26
        have c15 : ∀ t, Steps p.tables e below (T12.setTop (mkF m 30 #[.val (.ref a1), .val (.double ps), .second] [(.double FP.dconst1)])) t → Steps p.tables e below (s₁.setTop (entryFrame m #[(.ref a1), (.double ps)] 3)) t := fun t k => c14 t (by
          show Steps p.tables e below (T12.setTop (mkF m 26 #[.val (.ref a1), .val (.double ps), .second] [(.int k25)])) _
          refine XS.ifNo X12.here hx rfl (hb hby d6_26) rfl (XT.i0_ne_f q26) ?_
          show Steps p.tables e below (T12.setTop (mkF m 29 #[.val (.ref a1), .val (.double ps), .second] [])) _
          refine XS.dconst1 X12.here hx rfl (hb hby d6_29) rfl ?_
          show Steps p.tables e below (T12.setTop (mkF m 30 #[.val (.ref a1), .val (.double ps), .second] [(.double FP.dconst1)])) _
          exact k)
        obtain ⟨fs, hr, hrun, hended, hW, hsame⟩ := X12.leave (v := (some (.double FP.dconst1))) (fun h => by rw [Bd.returns] at h; cases h)
        refine ⟨_, _, pre0 _ (c15 _ (retOut X12 hx (t := .double) (i := .dreturn) Bd.returns rfl (Or.inr (Or.inr (Or.inl ⟨rfl, rfl, _, rfl⟩))) (hb hby d6_30) hr)), hrun, hended, _, _, rfl, ?_, ⟨_, rfl⟩, hW, hsame.mono (by decide) (by decide)⟩
        show Q_6 Z a1 ps p1 p2 p3 l_ p_ r_ x_ h0 n0 _ T12.heap _
        rw [e12]
        exact ⟨⟨_, rfl, Or.inr (Or.inl ⟨r26, rfl⟩)⟩, N0, rfl⟩
      · skip
        have r26 : ¬ x_ = p_ := fun q => q26 (kv25.mpr q)
        have c16 : ∀ t, Steps p.tables e below (T12.setTop (mkF m 33 #[.val (.ref a1), .val (.double ps), .second] [(.ref a1), (.double ps)])) t → Steps p.tables e below (s₁.setTop (entryFrame m #[(.ref a1), (.double ps)] 3)) t := fun t k => c14 t (by
          show Steps p.tables e below (T12.setTop (mkF m 26 #[.val (.ref a1), .val (.double ps), .second] [(.int k25)])) _
          refine XS.ifYes X12.here hx rfl (pc0 := 26) (pc' := 31) rfl (hb hby d6_26) rfl (XT.i0_ne_t q26) (by decide) (by decide) ?_
          show Steps p.tables e below (T12.setTop (mkF m 31 #[.val (.ref a1), .val (.double ps), .second] [])) _
          refine XS.dloadN X12.here hx rfl (hb hby d6_31) rfl ?_
          show Steps p.tables e below (T12.setTop (mkF m 32 #[.val (.ref a1), .val (.double ps), .second] [(.double ps)])) _
          refine XS.aloadN X12.here hx rfl (hb hby d6_32) rfl rfl ?_
          show Steps p.tables e below (T12.setTop (mkF m 33 #[.val (.ref a1), .val (.double ps), .second] [(.ref a1), (.double ps)])) _
          exact k)
        obtain ⟨T17, X17, e17, st17⟩ := getF X12 hx hZ hown (host := "") (Or.inl (hw _ (List.mem_of_getElem? (i := 27) rfl))) Via.refl e12 G_1 (g := (mkF m 33 #[.val (.ref a1), .val (.double ps), .second] [(.ref a1), (.double ps)])) rfl rfl (hb hby d6_33)
        have c18 : ∀ t, Steps p.tables e below (T17.setTop (mkF m 36 #[.val (.ref a1), .val (.double ps), .second] [(.double p2), (.double ps)])) t → Steps p.tables e below (s₁.setTop (entryFrame m #[(.ref a1), (.double ps)] 3)) t := fun t k => c16 t (st17 _ k)
        obtain ⟨k36, hk36⟩ : ∃ v : Int32, cmpValue (FP.dcmp ps p2) .g = v := ⟨_, rfl⟩
        have c36 := ds.cmp d2 .g
        rw [hk36] at c36
        have kv36 : k36 < 0 ↔ x_ < p_ := by
          rw [c36]; split
          · exact ⟨fun _ => by assumption, fun _ => by decide⟩
          · refine ⟨fun h => absurd h ?_, fun h => absurd h (by assumption)⟩
            first | decide | (split <;> decide)
        have c19 : ∀ t, Steps p.tables e below (T17.setTop (mkF m 37 #[.val (.ref a1), .val (.double ps), .second] [(.int k36)])) t → Steps p.tables e below (s₁.setTop (entryFrame m #[(.ref a1), (.double ps)] 3)) t := fun t k => c18 t (by
          show Steps p.tables e below (T17.setTop (mkF m 36 #[.val (.ref a1), .val (.double ps), .second] [(.double p2), (.double ps)])) _
          refine XS.dcmpS X17.here hx rfl (hb hby d6_36) rfl hk36 ?_
          show Steps p.tables e below (T17.setTop (mkF m 37 #[.val (.ref a1), .val (.double ps), .second] [(.int k36)])) _
          exact k)
        by_cases q37 : k36 < 0
        · skip
          have r37 := kv36.mp q37
          have c20 : ∀ t, Steps p.tables e below (T17.setTop (mkF m 42 #[.val (.ref a1), .val (.double ps), .second] [(.ref a1), (.double ps)])) t → Steps p.tables e below (s₁.setTop (entryFrame m #[(.ref a1), (.double ps)] 3)) t := fun t k => c19 t (by
            show Steps p.tables e below (T17.setTop (mkF m 37 #[.val (.ref a1), .val (.double ps), .second] [(.int k36)])) _
            refine XS.ifNo X17.here hx rfl (hb hby d6_37) rfl (XT.i0_ge_f q37) ?_
            show Steps p.tables e below (T17.setTop (mkF m 40 #[.val (.ref a1), .val (.double ps), .second] [])) _
            refine XS.dloadN X17.here hx rfl (hb hby d6_40) rfl ?_
            show Steps p.tables e below (T17.setTop (mkF m 41 #[.val (.ref a1), .val (.double ps), .second] [(.double ps)])) _
            refine XS.aloadN X17.here hx rfl (hb hby d6_41) rfl rfl ?_
            show Steps p.tables e below (T17.setTop (mkF m 42 #[.val (.ref a1), .val (.double ps), .second] [(.ref a1), (.double ps)])) _
            exact k)
          obtain ⟨T21, X21, e21, st21⟩ := getF X17 hx hZ hown (host := "") (Or.inl (hw _ (List.mem_of_getElem? (i := 25) rfl))) Via.refl e17 G_0 (g := (mkF m 42 #[.val (.ref a1), .val (.double ps), .second] [(.ref a1), (.double ps)])) rfl rfl (hb hby d6_42)
          have c22 : ∀ t, Steps p.tables e below (T21.setTop (mkF m 45 #[.val (.ref a1), .val (.double ps), .second] [(.double p1), (.double ps)])) t → Steps p.tables e below (s₁.setTop (entryFrame m #[(.ref a1), (.double ps)] 3)) t := fun t k => c20 t (st21 _ k)
          obtain ⟨d45, hd45⟩ : ∃ v : UInt64, FP.dsub ps p1 = v := ⟨_, rfl⟩
          have e45 : DS (x_ - l_) 0 d45 := hd45 ▸ ds.sub d1 (by omega) (by decide)
          have c23 : ∀ t, Steps p.tables e below (T21.setTop (mkF m 47 #[.val (.ref a1), .val (.double ps), .second] [(.ref a1), (.double d45)])) t → Steps p.tables e below (s₁.setTop (entryFrame m #[(.ref a1), (.double ps)] 3)) t := fun t k => c22 t (by
            show Steps p.tables e below (T21.setTop (mkF m 45 #[.val (.ref a1), .val (.double ps), .second] [(.double p1), (.double ps)])) _
            refine XS.dsubS X21.here hx rfl (hb hby d6_45) rfl (hd45 ▸ e45.noNaN) hd45 ?_
            show Steps p.tables e below (T21.setTop (mkF m 46 #[.val (.ref a1), .val (.double ps), .second] [(.double d45)])) _
            refine XS.aloadN X21.here hx rfl (hb hby d6_46) rfl rfl ?_
            show Steps p.tables e below (T21.setTop (mkF m 47 #[.val (.ref a1), .val (.double ps), .second] [(.ref a1), (.double d45)])) _
            exact k)
          obtain ⟨T24, X24, e24, st24⟩ := getF X21 hx hZ hown (host := "") (Or.inl (hw _ (List.mem_of_getElem? (i := 27) rfl))) Via.refl e21 G_1 (g := (mkF m 47 #[.val (.ref a1), .val (.double ps), .second] [(.ref a1), (.double d45)])) rfl rfl (hb hby d6_47)
          have c25 : ∀ t, Steps p.tables e below (T24.setTop (mkF m 50 #[.val (.ref a1), .val (.double ps), .second] [(.double p2), (.double d45)])) t → Steps p.tables e below (s₁.setTop (entryFrame m #[(.ref a1), (.double ps)] 3)) t := fun t k => c23 t (st24 _ k)
          have c26 : ∀ t, Steps p.tables e below (T24.setTop (mkF m 51 #[.val (.ref a1), .val (.double ps), .second] [(.ref a1), (.double p2), (.double d45)])) t → Steps p.tables e below (s₁.setTop (entryFrame m #[(.ref a1), (.double ps)] 3)) t := fun t k => c25 t (by
            show Steps p.tables e below (T24.setTop (mkF m 50 #[.val (.ref a1), .val (.double ps), .second] [(.double p2), (.double d45)])) _
            refine XS.aloadN X24.here hx rfl (hb hby d6_50) rfl rfl ?_
            show Steps p.tables e below (T24.setTop (mkF m 51 #[.val (.ref a1), .val (.double ps), .second] [(.ref a1), (.double p2), (.double d45)])) _
            exact k)
          obtain ⟨T27, X27, e27, st27⟩ := getF X24 hx hZ hown (host := "") (Or.inl (hw _ (List.mem_of_getElem? (i := 25) rfl))) Via.refl e24 G_0 (g := (mkF m 51 #[.val (.ref a1), .val (.double ps), .second] [(.ref a1), (.double p2), (.double d45)])) rfl rfl (hb hby d6_51)
          have c28 : ∀ t, Steps p.tables e below (T27.setTop (mkF m 54 #[.val (.ref a1), .val (.double ps), .second] [(.double p1), (.double p2), (.double d45)])) t → Steps p.tables e below (s₁.setTop (entryFrame m #[(.ref a1), (.double ps)] 3)) t := fun t k => c26 t (st27 _ k)
          obtain ⟨d54, hd54⟩ : ∃ v : UInt64, FP.dsub p2 p1 = v := ⟨_, rfl⟩
          have e54 : DS (p_ - l_) 0 d54 := hd54 ▸ d2.sub d1 (by omega) (by decide)
          obtain ⟨d55, hd55⟩ : ∃ v : UInt64, FP.ddiv d45 d54 = v := ⟨_, rfl⟩
          have c29 : ∀ t, Steps p.tables e below (T27.setTop (mkF m 75 #[.val (.ref a1), .val (.double ps), .second] [(.double d55)])) t → Steps p.tables e below (s₁.setTop (entryFrame m #[(.ref a1), (.double ps)] 3)) t := fun t k => c28 t (by
            show Steps p.tables e below (T27.setTop (mkF m 54 #[.val (.ref a1), .val (.double ps), .second] [(.double p1), (.double p2), (.double d45)])) _
            refine XS.dsubS X27.here hx rfl (hb hby d6_54) rfl (hd54 ▸ e54.noNaN) hd54 ?_
            show Steps p.tables e below (T27.setTop (mkF m 55 #[.val (.ref a1), .val (.double ps), .second] [(.double d54), (.double d45)])) _
            refine XS.ddivS X27.here hx rfl (hb hby d6_55) rfl (noNaN_of (ddiv_nn e45.1 e54.1 (e54.pos (by omega)))) hd55 ?_
            show Steps p.tables e below (T27.setTop (mkF m 56 #[.val (.ref a1), .val (.double ps), .second] [(.double d55)])) _
            refine XS.goto X27.here hx rfl (pc0 := 56) (pc' := 75) rfl (hb hby d6_56) (by decide) (by decide) ?_
            show Steps p.tables e below (T27.setTop (mkF m 75 #[.val (.ref a1), .val (.double ps), .second] [(.double d55)])) _
            exact k)
          obtain ⟨fs, hr, hrun, hended, hW, hsame⟩ := X27.leave (v := (some (.double d55))) (fun h => by rw [Bd.returns] at h; cases h)
          refine ⟨_, _, pre0 _ (c29 _ (retOut X27 hx (t := .double) (i := .dreturn) Bd.returns rfl (Or.inr (Or.inr (Or.inl ⟨rfl, rfl, _, rfl⟩))) (hb hby d6_75) hr)), hrun, hended, _, _, rfl, ?_, ⟨_, rfl⟩, hW, hsame.mono (by decide) (by decide)⟩
          show Q_6 Z a1 ps p1 p2 p3 l_ p_ r_ x_ h0 n0 _ T27.heap _
          rw [e27]
          exact ⟨⟨_, rfl, Or.inr (Or.inr (Or.inl ⟨by omega, r37, d45, d54, e45, e54, by rw [hd55]⟩))⟩, N0, rfl⟩
        · skip
          have r37 : ¬ x_ < p_ := fun q => q37 (kv36.mpr q)
          have c30 : ∀ t, Steps p.tables e below (T17.setTop (mkF m 60 #[.val (.ref a1), .val (.double ps), .second] [(.ref a1)])) t → Steps p.tables e below (s₁.setTop (entryFrame m #[(.ref a1), (.double ps)] 3)) t := fun t k => c19 t (by
            show Steps p.tables e below (T17.setTop (mkF m 37 #[.val (.ref a1), .val (.double ps), .second] [(.int k36)])) _
            refine XS.ifYes X17.here hx rfl (pc0 := 37) (pc' := 59) rfl (hb hby d6_37) rfl (XT.i0_ge_t q37) (by decide) (by decide) ?_
            show Steps p.tables e below (T17.setTop (mkF m 59 #[.val (.ref a1), .val (.double ps), .second] [])) _
            refine XS.aloadN X17.here hx rfl (hb hby d6_59) rfl rfl ?_
            show Steps p.tables e below (T17.setTop (mkF m 60 #[.val (.ref a1), .val (.double ps), .second] [(.ref a1)])) _
            exact k)
          obtain ⟨T31, X31, e31, st31⟩ := getF X17 hx hZ hown (host := "") (Or.inl (hw _ (List.mem_of_getElem? (i := 29) rfl))) Via.refl e17 G_2 (g := (mkF m 60 #[.val (.ref a1), .val (.double ps), .second] [(.ref a1)])) rfl rfl (hb hby d6_60)
          have c32 : ∀ t, Steps p.tables e below (T31.setTop (mkF m 63 #[.val (.ref a1), .val (.double ps), .second] [(.double p3)])) t → Steps p.tables e below (s₁.setTop (entryFrame m #[(.ref a1), (.double ps)] 3)) t := fun t k => c30 t (st31 _ k)
          obtain ⟨d64, hd64⟩ : ∃ v : UInt64, FP.dsub p3 ps = v := ⟨_, rfl⟩
          have e64 : DS (r_ - x_) 0 d64 := hd64 ▸ d3.sub ds (by omega) (by decide)
          have c33 : ∀ t, Steps p.tables e below (T31.setTop (mkF m 66 #[.val (.ref a1), .val (.double ps), .second] [(.ref a1), (.double d64)])) t → Steps p.tables e below (s₁.setTop (entryFrame m #[(.ref a1), (.double ps)] 3)) t := fun t k => c32 t (by
            show Steps p.tables e below (T31.setTop (mkF m 63 #[.val (.ref a1), .val (.double ps), .second] [(.double p3)])) _
            refine XS.dloadN X31.here hx rfl (hb hby d6_63) rfl ?_
            show Steps p.tables e below (T31.setTop (mkF m 64 #[.val (.ref a1), .val (.double ps), .second] [(.double ps), (.double p3)])) _
            refine XS.dsubS X31.here hx rfl (hb hby d6_64) rfl (hd64 ▸ e64.noNaN) hd64 ?_
            show Steps p.tables e below (T31.setTop (mkF m 65 #[.val (.ref a1), .val (.double ps), .second] [(.double d64)])) _
            refine XS.aloadN X31.here hx rfl (hb hby d6_65) rfl rfl ?_
            show Steps p.tables e below (T31.setTop (mkF m 66 #[.val (.ref a1), .val (.double ps), .second] [(.ref a1), (.double d64)])) _
            exact k)
          obtain ⟨T34, X34, e34, st34⟩ := getF X31 hx hZ hown (host := "") (Or.inl (hw _ (List.mem_of_getElem? (i := 29) rfl))) Via.refl e31 G_2 (g := (mkF m 66 #[.val (.ref a1), .val (.double ps), .second] [(.ref a1), (.double d64)])) rfl rfl (hb hby d6_66)
          have c35 : ∀ t, Steps p.tables e below (T34.setTop (mkF m 69 #[.val (.ref a1), .val (.double ps), .second] [(.double p3), (.double d64)])) t → Steps p.tables e below (s₁.setTop (entryFrame m #[(.ref a1), (.double ps)] 3)) t := fun t k => c33 t (st34 _ k)
          have c36 : ∀ t, Steps p.tables e below (T34.setTop (mkF m 70 #[.val (.ref a1), .val (.double ps), .second] [(.ref a1), (.double p3), (.double d64)])) t → Steps p.tables e below (s₁.setTop (entryFrame m #[(.ref a1), (.double ps)] 3)) t := fun t k => c35 t (by
            show Steps p.tables e below (T34.setTop (mkF m 69 #[.val (.ref a1), .val (.double ps), .second] [(.double p3), (.double d64)])) _
            refine XS.aloadN X34.here hx rfl (hb hby d6_69) rfl rfl ?_
            show Steps p.tables e below (T34.setTop (mkF m 70 #[.val (.ref a1), .val (.double ps), .second] [(.ref a1), (.double p3), (.double d64)])) _
            exact k)
          obtain ⟨T37, X37, e37, st37⟩ := getF X34 hx hZ hown (host := "") (Or.inl (hw _ (List.mem_of_getElem? (i := 27) rfl))) Via.refl e34 G_1 (g := (mkF m 70 #[.val (.ref a1), .val (.double ps), .second] [(.ref a1), (.double p3), (.double d64)])) rfl rfl (hb hby d6_70)
          have c38 : ∀ t, Steps p.tables e below (T37.setTop (mkF m 73 #[.val (.ref a1), .val (.double ps), .second] [(.double p2), (.double p3), (.double d64)])) t → Steps p.tables e below (s₁.setTop (entryFrame m #[(.ref a1), (.double ps)] 3)) t := fun t k => c36 t (st37 _ k)
          obtain ⟨d73, hd73⟩ : ∃ v : UInt64, FP.dsub p3 p2 = v := ⟨_, rfl⟩
          have e73 : DS (r_ - p_) 0 d73 := hd73 ▸ d3.sub d2 (by omega) (by decide)
          obtain ⟨d74, hd74⟩ : ∃ v : UInt64, FP.ddiv d64 d73 = v := ⟨_, rfl⟩
          have c39 : ∀ t, Steps p.tables e below (T37.setTop (mkF m 75 #[.val (.ref a1), .val (.double ps), .second] [(.double d74)])) t → Steps p.tables e below (s₁.setTop (entryFrame m #[(.ref a1), (.double ps)] 3)) t := fun t k => c38 t (by
            show Steps p.tables e below (T37.setTop (mkF m 73 #[.val (.ref a1), .val (.double ps), .second] [(.double p2), (.double p3), (.double d64)])) _
            refine XS.dsubS X37.here hx rfl (hb hby d6_73) rfl (hd73 ▸ e73.noNaN) hd73 ?_
            show Steps p.tables e below (T37.setTop (mkF m 74 #[.val (.ref a1), .val (.double ps), .second] [(.double d73), (.double d64)])) _
            refine XS.ddivS X37.here hx rfl (hb hby d6_74) rfl (noNaN_of (ddiv_nn e64.1 e73.1 (e73.pos (by omega)))) hd74 ?_
            show Steps p.tables e below (T37.setTop (mkF m 75 #[.val (.ref a1), .val (.double ps), .second] [(.double d74)])) _
            exact k)
          obtain ⟨fs, hr, hrun, hended, hW, hsame⟩ := X37.leave (v := (some (.double d74))) (fun h => by rw [Bd.returns] at h; cases h)
          refine ⟨_, _, pre0 _ (c39 _ (retOut X37 hx (t := .double) (i := .dreturn) Bd.returns rfl (Or.inr (Or.inr (Or.inl ⟨rfl, rfl, _, rfl⟩))) (hb hby d6_75) hr)), hrun, hended, _, _, rfl, ?_, ⟨_, rfl⟩, hW, hsame.mono (by decide) (by decide)⟩
          show Q_6 Z a1 ps p1 p2 p3 l_ p_ r_ x_ h0 n0 _ T37.heap _
          rw [e37]
          exact ⟨⟨_, rfl, Or.inr (Or.inr (Or.inr ⟨by omega, by omega, d64, d73, e64, e73, by rw [hd74]⟩))⟩, N0, rfl⟩
theorem one4 : DS 4 2 FP.dconst1 := DS.one.up 2
theorem four_c : DS 4 0 (4616189618054758400 : UInt64) := ⟨by rw [Core.fin_bits]; decide, by decide +kernel⟩
/-- the rising side at its quarters -/
theorem mem_up {l_ p k r_ : Int} {r : UInt64} (h : Mem l_ (l_ + 4 * p) r_ (l_ + k * p) r) (hk : 0 ≤ k ∧ k ≤ 4) (hp : 0 < p) (hr : l_ + 4 * p ≤ r_) : DS k 2 r := by
  have e1 : k * p ≤ 4 * p := Int.mul_le_mul_of_nonneg_right hk.2 (by omega)
  have e2 : 0 ≤ k * p := Int.mul_nonneg hk.1 (by omega)
  rcases h with ⟨h, -⟩ | ⟨h, rfl⟩ | ⟨-, -, a, b, da, db, rfl⟩ | ⟨-, h, -⟩
  · omega
  · have : k = 4 := mul_cancel hp (by omega)
    subst this; exact one4
  · rw [show l_ + k * p - l_ = k * p by omega] at da
    rw [show l_ + 4 * p - l_ = 4 * p by omega] at db
    exact da.div db (by omega) (by rw [Int.pow_zero, Int.mul_one, Int.mul_one, show (2 : Int) ^ 2 = 4 by decide, Int.mul_left_comm k 4 p]; omega) (by omega) (by decide)
  · omega
theorem mem_down {l_ c q k : Int} {r : UInt64} (h : Mem l_ c (c + 4 * q) (c + k * q) r) (hk : 0 ≤ k ∧ k ≤ 4) (hq : 0 < q) (hl : l_ ≤ c) : DS (4 - k) 2 r := by
  have e1 : k * q ≤ 4 * q := Int.mul_le_mul_of_nonneg_right hk.2 (by omega)
  have e2 : 0 ≤ k * q := Int.mul_nonneg hk.1 (by omega)
  rcases h with ⟨h, -⟩ | ⟨h, rfl⟩ | ⟨-, h, -⟩ | ⟨-, -, a, b, da, db, rfl⟩
  · omega
  · have : k = 0 := mul_cancel hq (by omega)
    subst this; exact one4
  · omega
  · rw [show c + 4 * q - (c + k * q) = (4 - k) * q by rw [Int.sub_mul]; omega] at da
    rw [show c + 4 * q - c = 4 * q by omega] at db
    exact da.div db (by omega) (by simp; ac_rfl) (by omega) (by decide)
theorem zvo : zv FP.dconst1 = U := by have := DS.one.2; rwa [Int.pow_zero, Int.mul_one, Int.one_mul] at this
/-- the membership of any place -/
theorem mem_any {l_ p_ r_ x_ : Int} {r : UInt64} (h : Mem l_ p_ r_ x_ r) (h1 : l_ ≤ p_) (h2 : p_ ≤ r_) (b1 : p_ - l_ < 2 ^ 18) (b2 : r_ - p_ < 2 ^ 18) :
    Core.DFin r ∧ 0 ≤ zv r ∧ zv r ≤ U ∧ (0 < zv r ↔ (l_ < x_ ∧ x_ < r_) ∨ x_ = p_) ∧ (zv r = U ↔ x_ = p_) := by
  have hU := U_pos
  have main : ∀ {a b : UInt64} {n d : Int}, DS n 0 a → DS d 0 b → 0 ≤ n → n < d → d < 2 ^ 18 → Core.DFin (FP.ddiv a b) ∧ 0 ≤ zv (FP.ddiv a b) ∧ zv (FP.ddiv a b) < U ∧ (0 < zv (FP.ddiv a b) ↔ 0 < n) := by
    intro a b n d da db n0 nd dd
    have g0 : Ge (FP.ddiv a b) 0 0 := div_Ge da db (by omega) (by simp; omega) (by decide) (by decide)
    have l1 : Le (FP.ddiv a b) (2 ^ 18 - 1) 18 := div_Le da db (by omega) (by simp only [Int.pow_zero, Int.mul_one]; omega) (by decide) (by decide)
    have f := fin_of (ddiv_nn da.1 db.1 (db.pos (by omega))) g0 l1 (by decide) (by decide) (by decide) (by decide)
    unfold Ge at g0; unfold Le at l1
    refine ⟨f, by omega, by omega, fun q => ?_, fun q => ?_⟩
    · refine Int.lt_of_not_ge fun z => ?_
      have : Le (FP.ddiv a b) 0 0 := div_Le da db (by omega) (by simp only [Int.pow_zero, Int.mul_one]; omega) (by decide) (by decide)
      unfold Le at this; omega
    · have : Ge (FP.ddiv a b) 1 18 := div_Ge da db (by omega) (by simp only [Int.pow_zero, Int.mul_one]; omega) (by decide) (by decide)
      unfold Ge at this; omega
  rcases h with ⟨h, rfl⟩ | ⟨h, rfl⟩ | ⟨ha, hb, a, b, da, db, rfl⟩ | ⟨ha, hb, a, b, da, db, rfl⟩
  · refine ⟨DS.zero.1, ?_⟩; rw [zv_zero]; omega
  · refine ⟨DS.one.1, ?_⟩; rw [zvo]; omega
  · obtain ⟨m1, m2, m3, m4⟩ := main da db (by omega) (by omega) (by omega)
    refine ⟨m1, m2, by omega, by rw [m4]; omega, by omega⟩
  · obtain ⟨m1, m2, m3, m4⟩ := main da db (by omega) (by omega) (by omega)
    refine ⟨m1, m2, by omega, by rw [m4]; omega, by omega⟩
theorem m16 (x : Int32) : 0 ≤ (x &&& (65535 : Int32)).toInt64.toInt ∧ (x &&& (65535 : Int32)).toInt64.toInt < 2 ^ 16 := by
  have h1 := Kit.i32_mask x 65535 (k := 16) (by decide) (by decide)
  rw [Kit.i64_of_i32]; omega
theorem m24 (x : Int32) : 0 ≤ (x &&& (16777215 : Int32)).toInt64.toInt ∧ (x &&& (16777215 : Int32)).toInt64.toInt < 2 ^ 24 := by
  have h1 := Kit.i32_mask x 16777215 (k := 24) (by decide) (by decide)
  rw [Kit.i64_of_i32]; omega
theorem rem5 (x : Int32) : 0 ≤ ((x &&& (2147483647 : Int32)) % (5 : Int32)).toInt ∧ ((x &&& (2147483647 : Int32)) % (5 : Int32)).toInt < 5 := by
  have h1 := Kit.i32_mask x 2147483647 (k := 31) (by decide) (by decide)
  have h2 := Kit.i32_rem_nonneg (x := x &&& (2147483647 : Int32)) (y := 5) (by omega)
  rw [show (5 : Int32).toInt = 5 by decide] at h2
  omega
theorem z64 {x : Int64} : x = 0 ↔ x.toInt = 0 := ⟨fun h => by rw [h]; rfl, fun h => Int64.toInt_inj.mp (by rw [h]; rfl)⟩
theorem q_k {p q q2 : Int64} (hp : 0 ≤ p.toInt) (hq : 0 ≤ q.toInt ∧ q.toInt < 2 ^ 16) (h : q2 = (if p = (0 : Int64) then (if q = (0 : Int64) then (1 : Int64) else q) else q)) : 0 ≤ q2.toInt ∧ q2.toInt < 2 ^ 16 ∧ (p.toInt = 0 → 0 < q2.toInt) := by
  by_cases c1 : p = 0
  · rw [if_pos c1] at h
    by_cases c2 : q = 0
    · rw [if_pos c2] at h; rw [h, show (1 : Int64).toInt = 1 by decide]; omega
    · rw [if_neg c2] at h; have : ¬ q.toInt = 0 := fun z => c2 (z64.mpr z)
      rw [h]; omega
  · rw [if_neg c1] at h; have : ¬ p.toInt = 0 := fun z => c1 (z64.mpr z)
    rw [h]; omega
theorem four_k {p : Int64} (h : 0 ≤ p.toInt ∧ p.toInt < 2 ^ 16) : ((4 : Int64) * p).toInt = 4 * p.toInt := by
  have e : (4 : Int64).toInt = 4 := by decide
  rw [Kit.i64_mul (by rw [e]; omega) (by rw [e]; omega), e]
theorem kp_k {k : Int32} {p : Int64} (hk : 0 ≤ k.toInt ∧ k.toInt < 5) (h : 0 ≤ p.toInt ∧ p.toInt < 2 ^ 16) : (k.toInt64 * p).toInt = k.toInt * p.toInt ∧ 0 ≤ k.toInt * p.toInt ∧ k.toInt * p.toInt ≤ 4 * p.toInt := by
  have e := Kit.i64_of_i32 k
  have e1 : k.toInt * p.toInt ≤ 4 * p.toInt := Int.mul_le_mul_of_nonneg_right (by omega) (by omega)
  have e2 : 0 ≤ k.toInt * p.toInt := Int.mul_nonneg hk.1 h.1
  refine ⟨?_, e2, e1⟩
  rw [Kit.i64_mul (by rw [e]; omega) (by rw [e]; omega), e]
theorem ef_0 (m : MethodId) (y1 : Int32) (y2 : Int32) (y3 : Int32) (y4 : Int32) (y5 : Int32) (y6 : Int32) : entryFrame m #[(.int y1), (.int y2), (.int y3), (.int y4), (.int y5), (.int y6)] maxLocals = (mkF m 0 #[.val (.int y1), .val (.int y2), .val (.int y3), .val (.int y4), .val (.int y5), .val (.int y6), .unset, .unset, .unset, .unset, .unset, .unset, .unset, .unset, .unset, .unset, .unset, .unset, .unset, .unset, .unset, .unset, .unset, .unset, .unset, .unset, .unset, .unset, .unset, .unset, .unset] []) := by first | (simp [entryFrame, mkF, argsToLocals, Value.category, maxLocals]; done) | rfl
def Q_0 (Z : State) (y1 : Int32) (y2 : Int32) (y3 : Int32) (y4 : Int32) (y5 : Int32) (y6 : Int32) (h0 : Heap) (n0 : Nat) (v : Option Value) (h : Heap) (L : List Loc) : Prop := v = some (.int 1) ∧ Fr n0 L
set_option maxRecDepth 65536 in
set_option maxHeartbeats 2000000 in
theorem rm_0 (l : Launch) (Z : State) (a0 : Array Value) (hw : ∀ d ∈ tables_1, d.before a0 Z = true) (ws : List Jvm.Cond) (y1 : Int32) (y2 : Int32) (y3 : Int32) (y4 : Int32) (y5 : Int32) (y6 : Int32) (h0 : Heap) (n0 : Nat) (Z0 : n0 ≤ h0.size)  :
    MetFree l x (head1 (Jvm.Cond.code x code maxLocals ret :: ws) room_1) (fun aa UU => aa = #[(.int y1), (.int y2), (.int y3), (.int y4), (.int y5), (.int y6)] ∧ Z.Warmed39 UU.vm ∧ UU.heap = h0) (fun _ _ _ _ _ => True) (fun _ UU oo UU' => ∃ v L, oo = .returned v ∧ Q_0 Z y1 y2 y3 y4 y5 y6 h0 n0 v UU'.heap L ∧ FrameEnd UU oo UU' L 16 128) := by
  refine MetFree.of_bodySF (plainFor_of_name pn_com_example_foglane_foglane_uncertainty_TermMembershipPinLaw) hisR ?_
  intro p e s m args below meth c s₁ Bd hml0 hP hK
  obtain ⟨rfl, hZ, hh⟩ := hP
  have hx := Bd.exec
  have hby := Bd.bytes
  have hml : c.maxLocals = 31 := hml0
  have hown : s.vm.findClass "com/example/foglane/foglane/uncertainty/TermMembershipPinLaw" = some m.cls := findClass_of_methodNamed Bd.named
  have hnaM := (name_of_methodNamed Bd.named Bd.method).1
  have X0 : Stand p l e room_1 s m #[(.int y1), (.int y2), (.int y3), (.int y4), (.int y5), (.int y6)] below meth c s₁ [] 0 0 := Stand.of_body Bd
  have e0 : s₁.heap = h0 := by rw [← hh, Bd.state]; rfl
  have N0 := Fr.nil n0
  have pre0 : ∀ t, Steps p.tables e below (s₁.setTop (entryFrame m #[(.int y1), (.int y2), (.int y3), (.int y4), (.int y5), (.int y6)] maxLocals)) t → Steps p.tables e below (s₁.setTop (entryFrame m #[(.int y1), (.int y2), (.int y3), (.int y4), (.int y5), (.int y6)] maxLocals)) t := fun t k => k
  have c0 : ∀ t, Steps p.tables e below (s₁.setTop (mkF m 0 #[.val (.int y1), .val (.int y2), .val (.int y3), .val (.int y4), .val (.int y5), .val (.int y6), .unset, .unset, .unset, .unset, .unset, .unset, .unset, .unset, .unset, .unset, .unset, .unset, .unset, .unset, .unset, .unset, .unset, .unset, .unset, .unset, .unset, .unset, .unset, .unset, .unset] [])) t → Steps p.tables e below (s₁.setTop (entryFrame m #[(.int y1), (.int y2), (.int y3), (.int y4), (.int y5), (.int y6)] maxLocals)) t := fun t k => castTop (ef_0 m y1 y2 y3 y4 y5 y6) k
  obtain ⟨pp, hpp⟩ : ∃ v : Int64, v = ((y2 &&& (65535 : Int32)).toInt64) := ⟨_, rfl⟩
  have c1 : ∀ t, Steps p.tables e below (s₁.setTop (mkF m 7 #[.val (.int y1), .val (.int y2), .val (.int y3), .val (.int y4), .val (.int y5), .val (.int y6), .val (.long pp), .second, .unset, .unset, .unset, .unset, .unset, .unset, .unset, .unset, .unset, .unset, .unset, .unset, .unset, .unset, .unset, .unset, .unset, .unset, .unset, .unset, .unset, .unset, .unset] [])) t → Steps p.tables e below (s₁.setTop (entryFrame m #[(.int y1), (.int y2), (.int y3), (.int y4), (.int y5), (.int y6)] maxLocals)) t := fun t k => c0 t (by
    rw [hpp] at k
    show Steps p.tables e below (s₁.setTop (mkF m 0 #[.val (.int y1), .val (.int y2), .val (.int y3), .val (.int y4), .val (.int y5), .val (.int y6), .unset, .unset, .unset, .unset, .unset, .unset, .unset, .unset, .unset, .unset, .unset, .unset, .unset, .unset, .unset, .unset, .unset, .unset, .unset, .unset, .unset, .unset, .unset, .unset, .unset] [])) _
    refine XS.iloadN X0.here hx rfl (hb hby at_0) rfl ?_
    show Steps p.tables e below (s₁.setTop (mkF m 1 #[.val (.int y1), .val (.int y2), .val (.int y3), .val (.int y4), .val (.int y5), .val (.int y6), .unset, .unset, .unset, .unset, .unset, .unset, .unset, .unset, .unset, .unset, .unset, .unset, .unset, .unset, .unset, .unset, .unset, .unset, .unset, .unset, .unset, .unset, .unset, .unset, .unset] [(.int y2)])) _
    refine Jvm.Stand.ldcI X0 hx hown (mvT hZ (hw _ (List.mem_of_getElem? (i := 0) rfl))) rfl (hb hby at_1) ?_
    show Steps p.tables e below (s₁.setTop (mkF m 3 #[.val (.int y1), .val (.int y2), .val (.int y3), .val (.int y4), .val (.int y5), .val (.int y6), .unset, .unset, .unset, .unset, .unset, .unset, .unset, .unset, .unset, .unset, .unset, .unset, .unset, .unset, .unset, .unset, .unset, .unset, .unset, .unset, .unset, .unset, .unset, .unset, .unset] [(.int (65535 : Int32)), (.int y2)])) _
    refine XS.iand X0.here hx rfl (hb hby at_3) rfl ?_
    show Steps p.tables e below (s₁.setTop (mkF m 4 #[.val (.int y1), .val (.int y2), .val (.int y3), .val (.int y4), .val (.int y5), .val (.int y6), .unset, .unset, .unset, .unset, .unset, .unset, .unset, .unset, .unset, .unset, .unset, .unset, .unset, .unset, .unset, .unset, .unset, .unset, .unset, .unset, .unset, .unset, .unset, .unset, .unset] [(.int (y2 &&& (65535 : Int32)))])) _
    refine XT.i2l X0.here hx rfl (hb hby at_4) rfl ?_
    show Steps p.tables e below (s₁.setTop (mkF m 5 #[.val (.int y1), .val (.int y2), .val (.int y3), .val (.int y4), .val (.int y5), .val (.int y6), .unset, .unset, .unset, .unset, .unset, .unset, .unset, .unset, .unset, .unset, .unset, .unset, .unset, .unset, .unset, .unset, .unset, .unset, .unset, .unset, .unset, .unset, .unset, .unset, .unset] [(.long ((y2 &&& (65535 : Int32)).toInt64))])) _
    refine XT.lstore X0.here hx rfl (hb hby at_5) rfl (l' := #[.val (.int y1), .val (.int y2), .val (.int y3), .val (.int y4), .val (.int y5), .val (.int y6), .val (.long ((y2 &&& (65535 : Int32)).toInt64)), .second, .unset, .unset, .unset, .unset, .unset, .unset, .unset, .unset, .unset, .unset, .unset, .unset, .unset, .unset, .unset, .unset, .unset, .unset, .unset, .unset, .unset, .unset, .unset]) rfl ?_
    show Steps p.tables e below (s₁.setTop (mkF m 7 #[.val (.int y1), .val (.int y2), .val (.int y3), .val (.int y4), .val (.int y5), .val (.int y6), .val (.long ((y2 &&& (65535 : Int32)).toInt64)), .second, .unset, .unset, .unset, .unset, .unset, .unset, .unset, .unset, .unset, .unset, .unset, .unset, .unset, .unset, .unset, .unset, .unset, .unset, .unset, .unset, .unset, .unset, .unset] [])) _
    exact k)
  obtain ⟨q0, hq0⟩ : ∃ v : Int64, v = ((y3 &&& (65535 : Int32)).toInt64) := ⟨_, rfl⟩
  have c2 : ∀ t, Steps p.tables e below (s₁.setTop (mkF m 14 #[.val (.int y1), .val (.int y2), .val (.int y3), .val (.int y4), .val (.int y5), .val (.int y6), .val (.long pp), .second, .val (.long q0), .second, .unset, .unset, .unset, .unset, .unset, .unset, .unset, .unset, .unset, .unset, .unset, .unset, .unset, .unset, .unset, .unset, .unset, .unset, .unset, .unset, .unset] [])) t → Steps p.tables e below (s₁.setTop (entryFrame m #[(.int y1), (.int y2), (.int y3), (.int y4), (.int y5), (.int y6)] maxLocals)) t := fun t k => c1 t (by
    rw [hq0] at k
    show Steps p.tables e below (s₁.setTop (mkF m 7 #[.val (.int y1), .val (.int y2), .val (.int y3), .val (.int y4), .val (.int y5), .val (.int y6), .val (.long pp), .second, .unset, .unset, .unset, .unset, .unset, .unset, .unset, .unset, .unset, .unset, .unset, .unset, .unset, .unset, .unset, .unset, .unset, .unset, .unset, .unset, .unset, .unset, .unset] [])) _
    refine XS.iloadN X0.here hx rfl (hb hby at_7) rfl ?_
    show Steps p.tables e below (s₁.setTop (mkF m 8 #[.val (.int y1), .val (.int y2), .val (.int y3), .val (.int y4), .val (.int y5), .val (.int y6), .val (.long pp), .second, .unset, .unset, .unset, .unset, .unset, .unset, .unset, .unset, .unset, .unset, .unset, .unset, .unset, .unset, .unset, .unset, .unset, .unset, .unset, .unset, .unset, .unset, .unset] [(.int y3)])) _
    refine Jvm.Stand.ldcI X0 hx hown (mvT hZ (hw _ (List.mem_of_getElem? (i := 0) rfl))) rfl (hb hby at_8) ?_
    show Steps p.tables e below (s₁.setTop (mkF m 10 #[.val (.int y1), .val (.int y2), .val (.int y3), .val (.int y4), .val (.int y5), .val (.int y6), .val (.long pp), .second, .unset, .unset, .unset, .unset, .unset, .unset, .unset, .unset, .unset, .unset, .unset, .unset, .unset, .unset, .unset, .unset, .unset, .unset, .unset, .unset, .unset, .unset, .unset] [(.int (65535 : Int32)), (.int y3)])) _
    refine XS.iand X0.here hx rfl (hb hby at_10) rfl ?_
    show Steps p.tables e below (s₁.setTop (mkF m 11 #[.val (.int y1), .val (.int y2), .val (.int y3), .val (.int y4), .val (.int y5), .val (.int y6), .val (.long pp), .second, .unset, .unset, .unset, .unset, .unset, .unset, .unset, .unset, .unset, .unset, .unset, .unset, .unset, .unset, .unset, .unset, .unset, .unset, .unset, .unset, .unset, .unset, .unset] [(.int (y3 &&& (65535 : Int32)))])) _
    refine XT.i2l X0.here hx rfl (hb hby at_11) rfl ?_
    show Steps p.tables e below (s₁.setTop (mkF m 12 #[.val (.int y1), .val (.int y2), .val (.int y3), .val (.int y4), .val (.int y5), .val (.int y6), .val (.long pp), .second, .unset, .unset, .unset, .unset, .unset, .unset, .unset, .unset, .unset, .unset, .unset, .unset, .unset, .unset, .unset, .unset, .unset, .unset, .unset, .unset, .unset, .unset, .unset] [(.long ((y3 &&& (65535 : Int32)).toInt64))])) _
    refine XT.lstore X0.here hx rfl (hb hby at_12) rfl (l' := #[.val (.int y1), .val (.int y2), .val (.int y3), .val (.int y4), .val (.int y5), .val (.int y6), .val (.long pp), .second, .val (.long ((y3 &&& (65535 : Int32)).toInt64)), .second, .unset, .unset, .unset, .unset, .unset, .unset, .unset, .unset, .unset, .unset, .unset, .unset, .unset, .unset, .unset, .unset, .unset, .unset, .unset, .unset, .unset]) rfl ?_
    show Steps p.tables e below (s₁.setTop (mkF m 14 #[.val (.int y1), .val (.int y2), .val (.int y3), .val (.int y4), .val (.int y5), .val (.int y6), .val (.long pp), .second, .val (.long ((y3 &&& (65535 : Int32)).toInt64)), .second, .unset, .unset, .unset, .unset, .unset, .unset, .unset, .unset, .unset, .unset, .unset, .unset, .unset, .unset, .unset, .unset, .unset, .unset, .unset, .unset, .unset] [])) _
    exact k)
  have P1 := m16 y2
  rw [← hpp] at P1
  have Q0 := m16 y3
  rw [← hq0] at Q0
  have c3 : ∀ t, Steps p.tables e below (s₁.setTop (mkF m 18 #[.val (.int y1), .val (.int y2), .val (.int y3), .val (.int y4), .val (.int y5), .val (.int y6), .val (.long pp), .second, .val (.long q0), .second, .unset, .unset, .unset, .unset, .unset, .unset, .unset, .unset, .unset, .unset, .unset, .unset, .unset, .unset, .unset, .unset, .unset, .unset, .unset, .unset, .unset] [(.int (XT.cmpL pp (0 : Int64)))])) t → Steps p.tables e below (s₁.setTop (entryFrame m #[(.int y1), (.int y2), (.int y3), (.int y4), (.int y5), (.int y6)] maxLocals)) t := fun t k => c2 t (by
    show Steps p.tables e below (s₁.setTop (mkF m 14 #[.val (.int y1), .val (.int y2), .val (.int y3), .val (.int y4), .val (.int y5), .val (.int y6), .val (.long pp), .second, .val (.long q0), .second, .unset, .unset, .unset, .unset, .unset, .unset, .unset, .unset, .unset, .unset, .unset, .unset, .unset, .unset, .unset, .unset, .unset, .unset, .unset, .unset, .unset] [])) _
    refine XT.lload X0.here hx rfl (hb hby at_14) rfl ?_
    show Steps p.tables e below (s₁.setTop (mkF m 16 #[.val (.int y1), .val (.int y2), .val (.int y3), .val (.int y4), .val (.int y5), .val (.int y6), .val (.long pp), .second, .val (.long q0), .second, .unset, .unset, .unset, .unset, .unset, .unset, .unset, .unset, .unset, .unset, .unset, .unset, .unset, .unset, .unset, .unset, .unset, .unset, .unset, .unset, .unset] [(.long pp)])) _
    refine XT.lconst X0.here hx rfl (hb hby at_16) ?_
    show Steps p.tables e below (s₁.setTop (mkF m 17 #[.val (.int y1), .val (.int y2), .val (.int y3), .val (.int y4), .val (.int y5), .val (.int y6), .val (.long pp), .second, .val (.long q0), .second, .unset, .unset, .unset, .unset, .unset, .unset, .unset, .unset, .unset, .unset, .unset, .unset, .unset, .unset, .unset, .unset, .unset, .unset, .unset, .unset, .unset] [(.long (0 : Int64)), (.long pp)])) _
    refine XT.lcmp X0.here hx rfl (hb hby at_17) rfl ?_
    show Steps p.tables e below (s₁.setTop (mkF m 18 #[.val (.int y1), .val (.int y2), .val (.int y3), .val (.int y4), .val (.int y5), .val (.int y6), .val (.long pp), .second, .val (.long q0), .second, .unset, .unset, .unset, .unset, .unset, .unset, .unset, .unset, .unset, .unset, .unset, .unset, .unset, .unset, .unset, .unset, .unset, .unset, .unset, .unset, .unset] [(.int (XT.cmpL pp (0 : Int64)))])) _
    exact k)
  obtain ⟨q2, hq2⟩ : ∃ v : Int64, v = (if pp = (0 : Int64) then (if q0 = (0 : Int64) then (1 : Int64) else q0) else q0) := ⟨_, rfl⟩
  have c4 : ∀ t, Steps p.tables e below (s₁.setTop (mkF m 31 #[.val (.int y1), .val (.int y2), .val (.int y3), .val (.int y4), .val (.int y5), .val (.int y6), .val (.long pp), .second, .val (.long q2), .second, .unset, .unset, .unset, .unset, .unset, .unset, .unset, .unset, .unset, .unset, .unset, .unset, .unset, .unset, .unset, .unset, .unset, .unset, .unset, .unset, .unset] [])) t → Steps p.tables e below (s₁.setTop (entryFrame m #[(.int y1), (.int y2), (.int y3), (.int y4), (.int y5), (.int y6)] maxLocals)) t := fun t k => c3 t (by
    rw [hq2] at k
    show Steps p.tables e below (s₁.setTop (mkF m 18 #[.val (.int y1), .val (.int y2), .val (.int y3), .val (.int y4), .val (.int y5), .val (.int y6), .val (.long pp), .second, .val (.long q0), .second, .unset, .unset, .unset, .unset, .unset, .unset, .unset, .unset, .unset, .unset, .unset, .unset, .unset, .unset, .unset, .unset, .unset, .unset, .unset, .unset, .unset] [(.int (XT.cmpL pp (0 : Int64)))])) _
    by_cases q18_0 : pp = (0 : Int64)
    · try simp only [if_pos q18_0] at k
      refine XS.ifNo X0.here hx rfl (hb hby at_18) rfl (XT.ll_ne_f q18_0) ?_
      show Steps p.tables e below (s₁.setTop (mkF m 21 #[.val (.int y1), .val (.int y2), .val (.int y3), .val (.int y4), .val (.int y5), .val (.int y6), .val (.long pp), .second, .val (.long q0), .second, .unset, .unset, .unset, .unset, .unset, .unset, .unset, .unset, .unset, .unset, .unset, .unset, .unset, .unset, .unset, .unset, .unset, .unset, .unset, .unset, .unset] [])) _
      refine XT.lload X0.here hx rfl (hb hby at_21) rfl ?_
      show Steps p.tables e below (s₁.setTop (mkF m 23 #[.val (.int y1), .val (.int y2), .val (.int y3), .val (.int y4), .val (.int y5), .val (.int y6), .val (.long pp), .second, .val (.long q0), .second, .unset, .unset, .unset, .unset, .unset, .unset, .unset, .unset, .unset, .unset, .unset, .unset, .unset, .unset, .unset, .unset, .unset, .unset, .unset, .unset, .unset] [(.long q0)])) _
      refine XT.lconst X0.here hx rfl (hb hby at_23) ?_
      show Steps p.tables e below (s₁.setTop (mkF m 24 #[.val (.int y1), .val (.int y2), .val (.int y3), .val (.int y4), .val (.int y5), .val (.int y6), .val (.long pp), .second, .val (.long q0), .second, .unset, .unset, .unset, .unset, .unset, .unset, .unset, .unset, .unset, .unset, .unset, .unset, .unset, .unset, .unset, .unset, .unset, .unset, .unset, .unset, .unset] [(.long (0 : Int64)), (.long q0)])) _
      refine XT.lcmp X0.here hx rfl (hb hby at_24) rfl ?_
      show Steps p.tables e below (s₁.setTop (mkF m 25 #[.val (.int y1), .val (.int y2), .val (.int y3), .val (.int y4), .val (.int y5), .val (.int y6), .val (.long pp), .second, .val (.long q0), .second, .unset, .unset, .unset, .unset, .unset, .unset, .unset, .unset, .unset, .unset, .unset, .unset, .unset, .unset, .unset, .unset, .unset, .unset, .unset, .unset, .unset] [(.int (XT.cmpL q0 (0 : Int64)))])) _
      by_cases q25_1 : q0 = (0 : Int64)
      · try simp only [if_pos q25_1] at k
        refine XS.ifNo X0.here hx rfl (hb hby at_25) rfl (XT.ll_ne_f q25_1) ?_
        show Steps p.tables e below (s₁.setTop (mkF m 28 #[.val (.int y1), .val (.int y2), .val (.int y3), .val (.int y4), .val (.int y5), .val (.int y6), .val (.long pp), .second, .val (.long q0), .second, .unset, .unset, .unset, .unset, .unset, .unset, .unset, .unset, .unset, .unset, .unset, .unset, .unset, .unset, .unset, .unset, .unset, .unset, .unset, .unset, .unset] [])) _
        refine XT.lconst X0.here hx rfl (hb hby at_28) ?_
        show Steps p.tables e below (s₁.setTop (mkF m 29 #[.val (.int y1), .val (.int y2), .val (.int y3), .val (.int y4), .val (.int y5), .val (.int y6), .val (.long pp), .second, .val (.long q0), .second, .unset, .unset, .unset, .unset, .unset, .unset, .unset, .unset, .unset, .unset, .unset, .unset, .unset, .unset, .unset, .unset, .unset, .unset, .unset, .unset, .unset] [(.long (1 : Int64))])) _
        refine XT.lstore X0.here hx rfl (hb hby at_29) rfl (l' := #[.val (.int y1), .val (.int y2), .val (.int y3), .val (.int y4), .val (.int y5), .val (.int y6), .val (.long pp), .second, .val (.long (1 : Int64)), .second, .unset, .unset, .unset, .unset, .unset, .unset, .unset, .unset, .unset, .unset, .unset, .unset, .unset, .unset, .unset, .unset, .unset, .unset, .unset, .unset, .unset]) rfl ?_
        show Steps p.tables e below (s₁.setTop (mkF m 31 #[.val (.int y1), .val (.int y2), .val (.int y3), .val (.int y4), .val (.int y5), .val (.int y6), .val (.long pp), .second, .val (.long (1 : Int64)), .second, .unset, .unset, .unset, .unset, .unset, .unset, .unset, .unset, .unset, .unset, .unset, .unset, .unset, .unset, .unset, .unset, .unset, .unset, .unset, .unset, .unset] [])) _
        exact k
      · try simp only [if_neg q25_1] at k
        refine XS.ifYes X0.here hx rfl (pc0 := 25) (pc' := 31) rfl (hb hby at_25) rfl (XT.ll_ne_t q25_1) (by decide) (by decide) ?_
        show Steps p.tables e below (s₁.setTop (mkF m 31 #[.val (.int y1), .val (.int y2), .val (.int y3), .val (.int y4), .val (.int y5), .val (.int y6), .val (.long pp), .second, .val (.long q0), .second, .unset, .unset, .unset, .unset, .unset, .unset, .unset, .unset, .unset, .unset, .unset, .unset, .unset, .unset, .unset, .unset, .unset, .unset, .unset, .unset, .unset] [])) _
        exact k
    · try simp only [if_neg q18_0] at k
      refine XS.ifYes X0.here hx rfl (pc0 := 18) (pc' := 31) rfl (hb hby at_18) rfl (XT.ll_ne_t q18_0) (by decide) (by decide) ?_
      show Steps p.tables e below (s₁.setTop (mkF m 31 #[.val (.int y1), .val (.int y2), .val (.int y3), .val (.int y4), .val (.int y5), .val (.int y6), .val (.long pp), .second, .val (.long q0), .second, .unset, .unset, .unset, .unset, .unset, .unset, .unset, .unset, .unset, .unset, .unset, .unset, .unset, .unset, .unset, .unset, .unset, .unset, .unset, .unset, .unset] [])) _
      exact k)
  have Q2 := q_k P1.1 Q0 hq2
  have P4 := four_k P1
  have Q4 := four_k (p := q2) (by omega)
  obtain ⟨lo, hlo⟩ : ∃ v : Int64, v = (y1.toInt64) := ⟨_, rfl⟩
  have c5 : ∀ t, Steps p.tables e below (s₁.setTop (mkF m 35 #[.val (.int y1), .val (.int y2), .val (.int y3), .val (.int y4), .val (.int y5), .val (.int y6), .val (.long pp), .second, .val (.long q2), .second, .val (.long lo), .second, .unset, .unset, .unset, .unset, .unset, .unset, .unset, .unset, .unset, .unset, .unset, .unset, .unset, .unset, .unset, .unset, .unset, .unset, .unset] [])) t → Steps p.tables e below (s₁.setTop (entryFrame m #[(.int y1), (.int y2), (.int y3), (.int y4), (.int y5), (.int y6)] maxLocals)) t := fun t k => c4 t (by
    rw [hlo] at k
    show Steps p.tables e below (s₁.setTop (mkF m 31 #[.val (.int y1), .val (.int y2), .val (.int y3), .val (.int y4), .val (.int y5), .val (.int y6), .val (.long pp), .second, .val (.long q2), .second, .unset, .unset, .unset, .unset, .unset, .unset, .unset, .unset, .unset, .unset, .unset, .unset, .unset, .unset, .unset, .unset, .unset, .unset, .unset, .unset, .unset] [])) _
    refine XS.iloadN X0.here hx rfl (hb hby at_31) rfl ?_
    show Steps p.tables e below (s₁.setTop (mkF m 32 #[.val (.int y1), .val (.int y2), .val (.int y3), .val (.int y4), .val (.int y5), .val (.int y6), .val (.long pp), .second, .val (.long q2), .second, .unset, .unset, .unset, .unset, .unset, .unset, .unset, .unset, .unset, .unset, .unset, .unset, .unset, .unset, .unset, .unset, .unset, .unset, .unset, .unset, .unset] [(.int y1)])) _
    refine XT.i2l X0.here hx rfl (hb hby at_32) rfl ?_
    show Steps p.tables e below (s₁.setTop (mkF m 33 #[.val (.int y1), .val (.int y2), .val (.int y3), .val (.int y4), .val (.int y5), .val (.int y6), .val (.long pp), .second, .val (.long q2), .second, .unset, .unset, .unset, .unset, .unset, .unset, .unset, .unset, .unset, .unset, .unset, .unset, .unset, .unset, .unset, .unset, .unset, .unset, .unset, .unset, .unset] [(.long (y1.toInt64))])) _
    refine XT.lstore X0.here hx rfl (hb hby at_33) rfl (l' := #[.val (.int y1), .val (.int y2), .val (.int y3), .val (.int y4), .val (.int y5), .val (.int y6), .val (.long pp), .second, .val (.long q2), .second, .val (.long (y1.toInt64)), .second, .unset, .unset, .unset, .unset, .unset, .unset, .unset, .unset, .unset, .unset, .unset, .unset, .unset, .unset, .unset, .unset, .unset, .unset, .unset]) rfl ?_
    show Steps p.tables e below (s₁.setTop (mkF m 35 #[.val (.int y1), .val (.int y2), .val (.int y3), .val (.int y4), .val (.int y5), .val (.int y6), .val (.long pp), .second, .val (.long q2), .second, .val (.long (y1.toInt64)), .second, .unset, .unset, .unset, .unset, .unset, .unset, .unset, .unset, .unset, .unset, .unset, .unset, .unset, .unset, .unset, .unset, .unset, .unset, .unset] [])) _
    exact k)
  have L1 : lo.toInt = y1.toInt := by rw [hlo]; exact Kit.i64_of_i32 y1
  have L2 := Int32.le_toInt y1
  have L3 := Int32.toInt_lt y1
  obtain ⟨pk, hpk⟩ : ∃ v : Int64, v = (lo + ((4 : Int64) * pp)) := ⟨_, rfl⟩
  have c6 : ∀ t, Steps p.tables e below (s₁.setTop (mkF m 46 #[.val (.int y1), .val (.int y2), .val (.int y3), .val (.int y4), .val (.int y5), .val (.int y6), .val (.long pp), .second, .val (.long q2), .second, .val (.long lo), .second, .val (.long pk), .second, .unset, .unset, .unset, .unset, .unset, .unset, .unset, .unset, .unset, .unset, .unset, .unset, .unset, .unset, .unset, .unset, .unset] [])) t → Steps p.tables e below (s₁.setTop (entryFrame m #[(.int y1), (.int y2), (.int y3), (.int y4), (.int y5), (.int y6)] maxLocals)) t := fun t k => c5 t (by
    rw [hpk] at k
    show Steps p.tables e below (s₁.setTop (mkF m 35 #[.val (.int y1), .val (.int y2), .val (.int y3), .val (.int y4), .val (.int y5), .val (.int y6), .val (.long pp), .second, .val (.long q2), .second, .val (.long lo), .second, .unset, .unset, .unset, .unset, .unset, .unset, .unset, .unset, .unset, .unset, .unset, .unset, .unset, .unset, .unset, .unset, .unset, .unset, .unset] [])) _
    refine XT.lload X0.here hx rfl (hb hby at_35) rfl ?_
    show Steps p.tables e below (s₁.setTop (mkF m 37 #[.val (.int y1), .val (.int y2), .val (.int y3), .val (.int y4), .val (.int y5), .val (.int y6), .val (.long pp), .second, .val (.long q2), .second, .val (.long lo), .second, .unset, .unset, .unset, .unset, .unset, .unset, .unset, .unset, .unset, .unset, .unset, .unset, .unset, .unset, .unset, .unset, .unset, .unset, .unset] [(.long lo)])) _
    refine Jvm.Stand.ldc2J X0 hx hown (mvT hZ (hw _ (List.mem_of_getElem? (i := 1) rfl))) rfl (hb hby at_37) ?_
    show Steps p.tables e below (s₁.setTop (mkF m 40 #[.val (.int y1), .val (.int y2), .val (.int y3), .val (.int y4), .val (.int y5), .val (.int y6), .val (.long pp), .second, .val (.long q2), .second, .val (.long lo), .second, .unset, .unset, .unset, .unset, .unset, .unset, .unset, .unset, .unset, .unset, .unset, .unset, .unset, .unset, .unset, .unset, .unset, .unset, .unset] [(.long (4 : Int64)), (.long lo)])) _
    refine XT.lload X0.here hx rfl (hb hby at_40) rfl ?_
    show Steps p.tables e below (s₁.setTop (mkF m 42 #[.val (.int y1), .val (.int y2), .val (.int y3), .val (.int y4), .val (.int y5), .val (.int y6), .val (.long pp), .second, .val (.long q2), .second, .val (.long lo), .second, .unset, .unset, .unset, .unset, .unset, .unset, .unset, .unset, .unset, .unset, .unset, .unset, .unset, .unset, .unset, .unset, .unset, .unset, .unset] [(.long pp), (.long (4 : Int64)), (.long lo)])) _
    refine XT.lmul X0.here hx rfl (hb hby at_42) rfl ?_
    show Steps p.tables e below (s₁.setTop (mkF m 43 #[.val (.int y1), .val (.int y2), .val (.int y3), .val (.int y4), .val (.int y5), .val (.int y6), .val (.long pp), .second, .val (.long q2), .second, .val (.long lo), .second, .unset, .unset, .unset, .unset, .unset, .unset, .unset, .unset, .unset, .unset, .unset, .unset, .unset, .unset, .unset, .unset, .unset, .unset, .unset] [(.long ((4 : Int64) * pp)), (.long lo)])) _
    refine XT.ladd X0.here hx rfl (hb hby at_43) rfl ?_
    show Steps p.tables e below (s₁.setTop (mkF m 44 #[.val (.int y1), .val (.int y2), .val (.int y3), .val (.int y4), .val (.int y5), .val (.int y6), .val (.long pp), .second, .val (.long q2), .second, .val (.long lo), .second, .unset, .unset, .unset, .unset, .unset, .unset, .unset, .unset, .unset, .unset, .unset, .unset, .unset, .unset, .unset, .unset, .unset, .unset, .unset] [(.long (lo + ((4 : Int64) * pp)))])) _
    refine XT.lstore X0.here hx rfl (hb hby at_44) rfl (l' := #[.val (.int y1), .val (.int y2), .val (.int y3), .val (.int y4), .val (.int y5), .val (.int y6), .val (.long pp), .second, .val (.long q2), .second, .val (.long lo), .second, .val (.long (lo + ((4 : Int64) * pp))), .second, .unset, .unset, .unset, .unset, .unset, .unset, .unset, .unset, .unset, .unset, .unset, .unset, .unset, .unset, .unset, .unset, .unset]) rfl ?_
    show Steps p.tables e below (s₁.setTop (mkF m 46 #[.val (.int y1), .val (.int y2), .val (.int y3), .val (.int y4), .val (.int y5), .val (.int y6), .val (.long pp), .second, .val (.long q2), .second, .val (.long lo), .second, .val (.long (lo + ((4 : Int64) * pp))), .second, .unset, .unset, .unset, .unset, .unset, .unset, .unset, .unset, .unset, .unset, .unset, .unset, .unset, .unset, .unset, .unset, .unset] [])) _
    exact k)
  have K1 : pk.toInt = lo.toInt + 4 * pp.toInt := by rw [hpk, Kit.i64_add (by omega) (by omega), P4]
  obtain ⟨hi, hhi⟩ : ∃ v : Int64, v = (pk + ((4 : Int64) * q2)) := ⟨_, rfl⟩
  have c7 : ∀ t, Steps p.tables e below (s₁.setTop (mkF m 57 #[.val (.int y1), .val (.int y2), .val (.int y3), .val (.int y4), .val (.int y5), .val (.int y6), .val (.long pp), .second, .val (.long q2), .second, .val (.long lo), .second, .val (.long pk), .second, .val (.long hi), .second, .unset, .unset, .unset, .unset, .unset, .unset, .unset, .unset, .unset, .unset, .unset, .unset, .unset, .unset, .unset] [])) t → Steps p.tables e below (s₁.setTop (entryFrame m #[(.int y1), (.int y2), (.int y3), (.int y4), (.int y5), (.int y6)] maxLocals)) t := fun t k => c6 t (by
    rw [hhi] at k
    show Steps p.tables e below (s₁.setTop (mkF m 46 #[.val (.int y1), .val (.int y2), .val (.int y3), .val (.int y4), .val (.int y5), .val (.int y6), .val (.long pp), .second, .val (.long q2), .second, .val (.long lo), .second, .val (.long pk), .second, .unset, .unset, .unset, .unset, .unset, .unset, .unset, .unset, .unset, .unset, .unset, .unset, .unset, .unset, .unset, .unset, .unset] [])) _
    refine XT.lload X0.here hx rfl (hb hby at_46) rfl ?_
    show Steps p.tables e below (s₁.setTop (mkF m 48 #[.val (.int y1), .val (.int y2), .val (.int y3), .val (.int y4), .val (.int y5), .val (.int y6), .val (.long pp), .second, .val (.long q2), .second, .val (.long lo), .second, .val (.long pk), .second, .unset, .unset, .unset, .unset, .unset, .unset, .unset, .unset, .unset, .unset, .unset, .unset, .unset, .unset, .unset, .unset, .unset] [(.long pk)])) _
    refine Jvm.Stand.ldc2J X0 hx hown (mvT hZ (hw _ (List.mem_of_getElem? (i := 1) rfl))) rfl (hb hby at_48) ?_
    show Steps p.tables e below (s₁.setTop (mkF m 51 #[.val (.int y1), .val (.int y2), .val (.int y3), .val (.int y4), .val (.int y5), .val (.int y6), .val (.long pp), .second, .val (.long q2), .second, .val (.long lo), .second, .val (.long pk), .second, .unset, .unset, .unset, .unset, .unset, .unset, .unset, .unset, .unset, .unset, .unset, .unset, .unset, .unset, .unset, .unset, .unset] [(.long (4 : Int64)), (.long pk)])) _
    refine XT.lload X0.here hx rfl (hb hby at_51) rfl ?_
    show Steps p.tables e below (s₁.setTop (mkF m 53 #[.val (.int y1), .val (.int y2), .val (.int y3), .val (.int y4), .val (.int y5), .val (.int y6), .val (.long pp), .second, .val (.long q2), .second, .val (.long lo), .second, .val (.long pk), .second, .unset, .unset, .unset, .unset, .unset, .unset, .unset, .unset, .unset, .unset, .unset, .unset, .unset, .unset, .unset, .unset, .unset] [(.long q2), (.long (4 : Int64)), (.long pk)])) _
    refine XT.lmul X0.here hx rfl (hb hby at_53) rfl ?_
    show Steps p.tables e below (s₁.setTop (mkF m 54 #[.val (.int y1), .val (.int y2), .val (.int y3), .val (.int y4), .val (.int y5), .val (.int y6), .val (.long pp), .second, .val (.long q2), .second, .val (.long lo), .second, .val (.long pk), .second, .unset, .unset, .unset, .unset, .unset, .unset, .unset, .unset, .unset, .unset, .unset, .unset, .unset, .unset, .unset, .unset, .unset] [(.long ((4 : Int64) * q2)), (.long pk)])) _
    refine XT.ladd X0.here hx rfl (hb hby at_54) rfl ?_
    show Steps p.tables e below (s₁.setTop (mkF m 55 #[.val (.int y1), .val (.int y2), .val (.int y3), .val (.int y4), .val (.int y5), .val (.int y6), .val (.long pp), .second, .val (.long q2), .second, .val (.long lo), .second, .val (.long pk), .second, .unset, .unset, .unset, .unset, .unset, .unset, .unset, .unset, .unset, .unset, .unset, .unset, .unset, .unset, .unset, .unset, .unset] [(.long (pk + ((4 : Int64) * q2)))])) _
    refine XT.lstore X0.here hx rfl (hb hby at_55) rfl (l' := #[.val (.int y1), .val (.int y2), .val (.int y3), .val (.int y4), .val (.int y5), .val (.int y6), .val (.long pp), .second, .val (.long q2), .second, .val (.long lo), .second, .val (.long pk), .second, .val (.long (pk + ((4 : Int64) * q2))), .second, .unset, .unset, .unset, .unset, .unset, .unset, .unset, .unset, .unset, .unset, .unset, .unset, .unset, .unset, .unset]) rfl ?_
    show Steps p.tables e below (s₁.setTop (mkF m 57 #[.val (.int y1), .val (.int y2), .val (.int y3), .val (.int y4), .val (.int y5), .val (.int y6), .val (.long pp), .second, .val (.long q2), .second, .val (.long lo), .second, .val (.long pk), .second, .val (.long (pk + ((4 : Int64) * q2))), .second, .unset, .unset, .unset, .unset, .unset, .unset, .unset, .unset, .unset, .unset, .unset, .unset, .unset, .unset, .unset] [])) _
    exact k)
  have H1 : hi.toInt = pk.toInt + 4 * q2.toInt := by rw [hhi, Kit.i64_add (by omega) (by omega), Q4]
  have hb_ : lo.toInt ≤ pk.toInt ∧ pk.toInt ≤ hi.toInt ∧ lo.toInt.natAbs ≤ 2 ^ 40 ∧ hi.toInt.natAbs ≤ 2 ^ 40 := by omega
  obtain ⟨dl, hdl⟩ : ∃ v : UInt64, FP.l2d lo = v := ⟨_, rfl⟩
  have Dl : DS lo.toInt 0 dl := hdl ▸ DS.l2d (by omega)
  obtain ⟨dp, hdp⟩ : ∃ v : UInt64, FP.l2d pk = v := ⟨_, rfl⟩
  have Dp : DS pk.toInt 0 dp := hdp ▸ DS.l2d (by omega)
  obtain ⟨dr, hdr⟩ : ∃ v : UInt64, FP.l2d hi = v := ⟨_, rfl⟩
  have Dr : DS hi.toInt 0 dr := hdr ▸ DS.l2d (by omega)
  have c8 : ∀ t, Steps p.tables e below (s₁.setTop (mkF m 72 #[.val (.int y1), .val (.int y2), .val (.int y3), .val (.int y4), .val (.int y5), .val (.int y6), .val (.long pp), .second, .val (.long q2), .second, .val (.long lo), .second, .val (.long pk), .second, .val (.long hi), .second, .val (.double dl), .second, .val (.double dp), .second, .val (.double dr), .second, .unset, .unset, .unset, .unset, .unset, .unset, .unset, .unset, .unset] [])) t → Steps p.tables e below (s₁.setTop (entryFrame m #[(.int y1), (.int y2), (.int y3), (.int y4), (.int y5), (.int y6)] maxLocals)) t := fun t k => c7 t (by
    show Steps p.tables e below (s₁.setTop (mkF m 57 #[.val (.int y1), .val (.int y2), .val (.int y3), .val (.int y4), .val (.int y5), .val (.int y6), .val (.long pp), .second, .val (.long q2), .second, .val (.long lo), .second, .val (.long pk), .second, .val (.long hi), .second, .unset, .unset, .unset, .unset, .unset, .unset, .unset, .unset, .unset, .unset, .unset, .unset, .unset, .unset, .unset] [])) _
    refine XT.lload X0.here hx rfl (hb hby at_57) rfl ?_
    show Steps p.tables e below (s₁.setTop (mkF m 59 #[.val (.int y1), .val (.int y2), .val (.int y3), .val (.int y4), .val (.int y5), .val (.int y6), .val (.long pp), .second, .val (.long q2), .second, .val (.long lo), .second, .val (.long pk), .second, .val (.long hi), .second, .unset, .unset, .unset, .unset, .unset, .unset, .unset, .unset, .unset, .unset, .unset, .unset, .unset, .unset, .unset] [(.long lo)])) _
    refine XS.l2dS X0.here hx rfl (hb hby at_59) rfl hdl ?_
    show Steps p.tables e below (s₁.setTop (mkF m 60 #[.val (.int y1), .val (.int y2), .val (.int y3), .val (.int y4), .val (.int y5), .val (.int y6), .val (.long pp), .second, .val (.long q2), .second, .val (.long lo), .second, .val (.long pk), .second, .val (.long hi), .second, .unset, .unset, .unset, .unset, .unset, .unset, .unset, .unset, .unset, .unset, .unset, .unset, .unset, .unset, .unset] [(.double dl)])) _
    refine XS.dstore X0.here hx rfl (hb hby at_60) rfl (l' := #[.val (.int y1), .val (.int y2), .val (.int y3), .val (.int y4), .val (.int y5), .val (.int y6), .val (.long pp), .second, .val (.long q2), .second, .val (.long lo), .second, .val (.long pk), .second, .val (.long hi), .second, .val (.double dl), .second, .unset, .unset, .unset, .unset, .unset, .unset, .unset, .unset, .unset, .unset, .unset, .unset, .unset]) rfl ?_
    show Steps p.tables e below (s₁.setTop (mkF m 62 #[.val (.int y1), .val (.int y2), .val (.int y3), .val (.int y4), .val (.int y5), .val (.int y6), .val (.long pp), .second, .val (.long q2), .second, .val (.long lo), .second, .val (.long pk), .second, .val (.long hi), .second, .val (.double dl), .second, .unset, .unset, .unset, .unset, .unset, .unset, .unset, .unset, .unset, .unset, .unset, .unset, .unset] [])) _
    refine XT.lload X0.here hx rfl (hb hby at_62) rfl ?_
    show Steps p.tables e below (s₁.setTop (mkF m 64 #[.val (.int y1), .val (.int y2), .val (.int y3), .val (.int y4), .val (.int y5), .val (.int y6), .val (.long pp), .second, .val (.long q2), .second, .val (.long lo), .second, .val (.long pk), .second, .val (.long hi), .second, .val (.double dl), .second, .unset, .unset, .unset, .unset, .unset, .unset, .unset, .unset, .unset, .unset, .unset, .unset, .unset] [(.long pk)])) _
    refine XS.l2dS X0.here hx rfl (hb hby at_64) rfl hdp ?_
    show Steps p.tables e below (s₁.setTop (mkF m 65 #[.val (.int y1), .val (.int y2), .val (.int y3), .val (.int y4), .val (.int y5), .val (.int y6), .val (.long pp), .second, .val (.long q2), .second, .val (.long lo), .second, .val (.long pk), .second, .val (.long hi), .second, .val (.double dl), .second, .unset, .unset, .unset, .unset, .unset, .unset, .unset, .unset, .unset, .unset, .unset, .unset, .unset] [(.double dp)])) _
    refine XS.dstore X0.here hx rfl (hb hby at_65) rfl (l' := #[.val (.int y1), .val (.int y2), .val (.int y3), .val (.int y4), .val (.int y5), .val (.int y6), .val (.long pp), .second, .val (.long q2), .second, .val (.long lo), .second, .val (.long pk), .second, .val (.long hi), .second, .val (.double dl), .second, .val (.double dp), .second, .unset, .unset, .unset, .unset, .unset, .unset, .unset, .unset, .unset, .unset, .unset]) rfl ?_
    show Steps p.tables e below (s₁.setTop (mkF m 67 #[.val (.int y1), .val (.int y2), .val (.int y3), .val (.int y4), .val (.int y5), .val (.int y6), .val (.long pp), .second, .val (.long q2), .second, .val (.long lo), .second, .val (.long pk), .second, .val (.long hi), .second, .val (.double dl), .second, .val (.double dp), .second, .unset, .unset, .unset, .unset, .unset, .unset, .unset, .unset, .unset, .unset, .unset] [])) _
    refine XT.lload X0.here hx rfl (hb hby at_67) rfl ?_
    show Steps p.tables e below (s₁.setTop (mkF m 69 #[.val (.int y1), .val (.int y2), .val (.int y3), .val (.int y4), .val (.int y5), .val (.int y6), .val (.long pp), .second, .val (.long q2), .second, .val (.long lo), .second, .val (.long pk), .second, .val (.long hi), .second, .val (.double dl), .second, .val (.double dp), .second, .unset, .unset, .unset, .unset, .unset, .unset, .unset, .unset, .unset, .unset, .unset] [(.long hi)])) _
    refine XS.l2dS X0.here hx rfl (hb hby at_69) rfl hdr ?_
    show Steps p.tables e below (s₁.setTop (mkF m 70 #[.val (.int y1), .val (.int y2), .val (.int y3), .val (.int y4), .val (.int y5), .val (.int y6), .val (.long pp), .second, .val (.long q2), .second, .val (.long lo), .second, .val (.long pk), .second, .val (.long hi), .second, .val (.double dl), .second, .val (.double dp), .second, .unset, .unset, .unset, .unset, .unset, .unset, .unset, .unset, .unset, .unset, .unset] [(.double dr)])) _
    refine XS.dstore X0.here hx rfl (hb hby at_70) rfl (l' := #[.val (.int y1), .val (.int y2), .val (.int y3), .val (.int y4), .val (.int y5), .val (.int y6), .val (.long pp), .second, .val (.long q2), .second, .val (.long lo), .second, .val (.long pk), .second, .val (.long hi), .second, .val (.double dl), .second, .val (.double dp), .second, .val (.double dr), .second, .unset, .unset, .unset, .unset, .unset, .unset, .unset, .unset, .unset]) rfl ?_
    show Steps p.tables e below (s₁.setTop (mkF m 72 #[.val (.int y1), .val (.int y2), .val (.int y3), .val (.int y4), .val (.int y5), .val (.int y6), .val (.long pp), .second, .val (.long q2), .second, .val (.long lo), .second, .val (.long pk), .second, .val (.long hi), .second, .val (.double dl), .second, .val (.double dp), .second, .val (.double dr), .second, .unset, .unset, .unset, .unset, .unset, .unset, .unset, .unset, .unset] [])) _
    exact k)
  obtain ⟨T9, h9, X9, e9, E9, A9, D9, -, st9⟩ := newO X0 hx hZ hown (hw _ (List.mem_of_getElem? (i := 2) rfl)) (hw _ (List.mem_of_getElem? (i := 3) rfl)) (hw _ (List.mem_of_getElem? (i := 4) rfl)) e0 (g := (mkF m 72 #[.val (.int y1), .val (.int y2), .val (.int y3), .val (.int y4), .val (.int y5), .val (.int y6), .val (.long pp), .second, .val (.long q2), .second, .val (.long lo), .second, .val (.long pk), .second, .val (.long hi), .second, .val (.double dl), .second, .val (.double dp), .second, .val (.double dr), .second, .unset, .unset, .unset, .unset, .unset, .unset, .unset, .unset, .unset] [])) rfl (hb hby at_72) (by decide) (by decide)
  obtain ⟨ob, g9⟩ : ∃ z, z = h0.size := ⟨_, rfl⟩
  rw [← g9] at A9 D9 st9
  have F10 : Fld Z h9 ob "com/example/foglane/foglane/uncertainty/FuzzyRuleBase$Term" "left" "D" (.double (0 : UInt64)) := (D9 (Or.inr (hw _ (List.mem_of_getElem? (i := 26) rfl))) (ty := .double) (by decide))
  have F11 : Fld Z h9 ob "com/example/foglane/foglane/uncertainty/FuzzyRuleBase$Term" "peak" "D" (.double (0 : UInt64)) := (D9 (Or.inr (hw _ (List.mem_of_getElem? (i := 28) rfl))) (ty := .double) (by decide))
  have F12 : Fld Z h9 ob "com/example/foglane/foglane/uncertainty/FuzzyRuleBase$Term" "right" "D" (.double (0 : UInt64)) := (D9 (Or.inr (hw _ (List.mem_of_getElem? (i := 30) rfl))) (ty := .double) (by decide))
  have c13 : ∀ t, Steps p.tables e below (T9.setTop (mkF m 75 #[.val (.int y1), .val (.int y2), .val (.int y3), .val (.int y4), .val (.int y5), .val (.int y6), .val (.long pp), .second, .val (.long q2), .second, .val (.long lo), .second, .val (.long pk), .second, .val (.long hi), .second, .val (.double dl), .second, .val (.double dp), .second, .val (.double dr), .second, .unset, .unset, .unset, .unset, .unset, .unset, .unset, .unset, .unset] [(.ref ob)])) t → Steps p.tables e below (s₁.setTop (entryFrame m #[(.int y1), (.int y2), (.int y3), (.int y4), (.int y5), (.int y6)] maxLocals)) t := fun t k => c8 t (st9 _ k)
  have c14 : ∀ t, Steps p.tables e below (T9.setTop (mkF m 82 #[.val (.int y1), .val (.int y2), .val (.int y3), .val (.int y4), .val (.int y5), .val (.int y6), .val (.long pp), .second, .val (.long q2), .second, .val (.long lo), .second, .val (.long pk), .second, .val (.long hi), .second, .val (.double dl), .second, .val (.double dp), .second, .val (.double dr), .second, .unset, .unset, .unset, .unset, .unset, .unset, .unset, .unset, .unset] [(.double dr), (.double dp), (.double dl), (.ref ob), (.ref ob)])) t → Steps p.tables e below (s₁.setTop (entryFrame m #[(.int y1), (.int y2), (.int y3), (.int y4), (.int y5), (.int y6)] maxLocals)) t := fun t k => c13 t (by
    show Steps p.tables e below (T9.setTop (mkF m 75 #[.val (.int y1), .val (.int y2), .val (.int y3), .val (.int y4), .val (.int y5), .val (.int y6), .val (.long pp), .second, .val (.long q2), .second, .val (.long lo), .second, .val (.long pk), .second, .val (.long hi), .second, .val (.double dl), .second, .val (.double dp), .second, .val (.double dr), .second, .unset, .unset, .unset, .unset, .unset, .unset, .unset, .unset, .unset] [(.ref ob)])) _
    refine XS.dup X9.here hx rfl (hb hby at_75) rfl rfl ?_
    show Steps p.tables e below (T9.setTop (mkF m 76 #[.val (.int y1), .val (.int y2), .val (.int y3), .val (.int y4), .val (.int y5), .val (.int y6), .val (.long pp), .second, .val (.long q2), .second, .val (.long lo), .second, .val (.long pk), .second, .val (.long hi), .second, .val (.double dl), .second, .val (.double dp), .second, .val (.double dr), .second, .unset, .unset, .unset, .unset, .unset, .unset, .unset, .unset, .unset] [(.ref ob), (.ref ob)])) _
    refine XS.dload X9.here hx rfl (hb hby at_76) rfl ?_
    show Steps p.tables e below (T9.setTop (mkF m 78 #[.val (.int y1), .val (.int y2), .val (.int y3), .val (.int y4), .val (.int y5), .val (.int y6), .val (.long pp), .second, .val (.long q2), .second, .val (.long lo), .second, .val (.long pk), .second, .val (.long hi), .second, .val (.double dl), .second, .val (.double dp), .second, .val (.double dr), .second, .unset, .unset, .unset, .unset, .unset, .unset, .unset, .unset, .unset] [(.double dl), (.ref ob), (.ref ob)])) _
    refine XS.dload X9.here hx rfl (hb hby at_78) rfl ?_
    show Steps p.tables e below (T9.setTop (mkF m 80 #[.val (.int y1), .val (.int y2), .val (.int y3), .val (.int y4), .val (.int y5), .val (.int y6), .val (.long pp), .second, .val (.long q2), .second, .val (.long lo), .second, .val (.long pk), .second, .val (.long hi), .second, .val (.double dl), .second, .val (.double dp), .second, .val (.double dr), .second, .unset, .unset, .unset, .unset, .unset, .unset, .unset, .unset, .unset] [(.double dp), (.double dl), (.ref ob), (.ref ob)])) _
    refine XS.dload X9.here hx rfl (hb hby at_80) rfl ?_
    show Steps p.tables e below (T9.setTop (mkF m 82 #[.val (.int y1), .val (.int y2), .val (.int y3), .val (.int y4), .val (.int y5), .val (.int y6), .val (.long pp), .second, .val (.long q2), .second, .val (.long lo), .second, .val (.long pk), .second, .val (.long hi), .second, .val (.double dl), .second, .val (.double dp), .second, .val (.double dr), .second, .unset, .unset, .unset, .unset, .unset, .unset, .unset, .unset, .unset] [(.double dr), (.double dp), (.double dl), (.ref ob), (.ref ob)])) _
    exact k)
  obtain ⟨_, _, ⟨T15, L15, k15', n15⟩, -, X15, ⟨Lc15, hQ15, l15, y15, z15⟩, st15⟩ := X9.specialBack hx (y := (⟨"com/example/foglane/foglane/uncertainty/FuzzyRuleBase$Term", "<init>", "(DDD)V"⟩ : MethodName)) rfl hown (mvT hZ (hw _ (List.mem_of_getElem? (i := 5) rfl))) (mvT hZ (hw _ (List.mem_of_getElem? (i := 6) rfl))) (mvT hZ (hw _ (List.mem_of_getElem? (i := 7) rfl))) (by decide) (backOf (W := 1) (rm_1 l Z a0 hw [] ob dl dp dr h9 n0 (Nat.le_trans Z0 E9.1) A9 F10 F11 F12 (Nat.le_trans Z0 (Nat.le_of_eq g9.symm)) Dl.1 Dp.1 Dr.1 (le_of Dl.le Dp.ge (by omega)) (le_of Dp.le Dr.ge (by omega)) (lt_of Dl.le Dr.ge (by omega))) hZ (hw _ (List.mem_of_getElem? (i := 7) rfl)) (hw _ (List.mem_of_getElem? (i := 4) rfl)) (by decide) (by decide)) (g := (mkF m 82 #[.val (.int y1), .val (.int y2), .val (.int y3), .val (.int y4), .val (.int y5), .val (.int y6), .val (.long pp), .second, .val (.long q2), .second, .val (.long lo), .second, .val (.long pk), .second, .val (.long hi), .second, .val (.double dl), .second, .val (.double dp), .second, .val (.double dr), .second, .unset, .unset, .unset, .unset, .unset, .unset, .unset, .unset, .unset] [(.double dr), (.double dp), (.double dl), (.ref ob), (.ref ob)])) rfl (by rw [hml]; rfl) (Steps.refl _) (a := ob) (argsL := [(.double dl), (.double dp), (.double dr)]) (rest := [(.ref ob)]) (lenOf pd__DDD_V rfl) rfl (by show 2 * 0 + _ ≤ _; exact Nat.le_of_eq rfl) (hb hby at_82) (fun _ _ => ⟨rfl, e9, (by decide : 1 + 0 ≤ _), (by decide : 3 + 0 ≤ _)⟩)
  dsimp only [Pt.U, Pt.locs, Pt.cells, Pt.slots] at X15 l15 y15 z15 st15 hQ15
  subst l15 y15 z15
  obtain ⟨rfl, N15, K15, G15_0, G15_1, G15_2, G15_3⟩ := hQ15
  have M15 := Fr.app N0 N15
  have F16 : Exa Z T15.heap ob "com/example/foglane/foglane/uncertainty/FuzzyRuleBase$Term" := (A9.keep K15)
  have c17 : ∀ t, Steps p.tables e below (T15.setTop (mkF m 85 #[.val (.int y1), .val (.int y2), .val (.int y3), .val (.int y4), .val (.int y5), .val (.int y6), .val (.long pp), .second, .val (.long q2), .second, .val (.long lo), .second, .val (.long pk), .second, .val (.long hi), .second, .val (.double dl), .second, .val (.double dp), .second, .val (.double dr), .second, .unset, .unset, .unset, .unset, .unset, .unset, .unset, .unset, .unset] [(.ref ob)])) t → Steps p.tables e below (s₁.setTop (entryFrame m #[(.int y1), (.int y2), (.int y3), (.int y4), (.int y5), (.int y6)] maxLocals)) t := fun t k => c14 t (st15.trans k)
  obtain ⟨md, hmd⟩ : ∃ v : Int32, v = ((y6 &&& (2147483647 : Int32)) % (5 : Int32)) := ⟨_, rfl⟩
  have c18 : ∀ t, Steps p.tables e below (T15.setTop (mkF m 96 #[.val (.int y1), .val (.int y2), .val (.int y3), .val (.int y4), .val (.int y5), .val (.int y6), .val (.long pp), .second, .val (.long q2), .second, .val (.long lo), .second, .val (.long pk), .second, .val (.long hi), .second, .val (.double dl), .second, .val (.double dp), .second, .val (.double dr), .second, .val (.ref ob), .val (.int md), .unset, .unset, .unset, .unset, .unset, .unset, .unset] [])) t → Steps p.tables e below (s₁.setTop (entryFrame m #[(.int y1), (.int y2), (.int y3), (.int y4), (.int y5), (.int y6)] maxLocals)) t := fun t k => c17 t (by
    rw [hmd] at k
    show Steps p.tables e below (T15.setTop (mkF m 85 #[.val (.int y1), .val (.int y2), .val (.int y3), .val (.int y4), .val (.int y5), .val (.int y6), .val (.long pp), .second, .val (.long q2), .second, .val (.long lo), .second, .val (.long pk), .second, .val (.long hi), .second, .val (.double dl), .second, .val (.double dp), .second, .val (.double dr), .second, .unset, .unset, .unset, .unset, .unset, .unset, .unset, .unset, .unset] [(.ref ob)])) _
    refine XS.astore X15.here hx rfl (hb hby at_85) rfl rfl (l' := #[.val (.int y1), .val (.int y2), .val (.int y3), .val (.int y4), .val (.int y5), .val (.int y6), .val (.long pp), .second, .val (.long q2), .second, .val (.long lo), .second, .val (.long pk), .second, .val (.long hi), .second, .val (.double dl), .second, .val (.double dp), .second, .val (.double dr), .second, .val (.ref ob), .unset, .unset, .unset, .unset, .unset, .unset, .unset, .unset]) rfl ?_
    show Steps p.tables e below (T15.setTop (mkF m 87 #[.val (.int y1), .val (.int y2), .val (.int y3), .val (.int y4), .val (.int y5), .val (.int y6), .val (.long pp), .second, .val (.long q2), .second, .val (.long lo), .second, .val (.long pk), .second, .val (.long hi), .second, .val (.double dl), .second, .val (.double dp), .second, .val (.double dr), .second, .val (.ref ob), .unset, .unset, .unset, .unset, .unset, .unset, .unset, .unset] [])) _
    refine XS.iload X15.here hx rfl (hb hby at_87) rfl ?_
    show Steps p.tables e below (T15.setTop (mkF m 89 #[.val (.int y1), .val (.int y2), .val (.int y3), .val (.int y4), .val (.int y5), .val (.int y6), .val (.long pp), .second, .val (.long q2), .second, .val (.long lo), .second, .val (.long pk), .second, .val (.long hi), .second, .val (.double dl), .second, .val (.double dp), .second, .val (.double dr), .second, .val (.ref ob), .unset, .unset, .unset, .unset, .unset, .unset, .unset, .unset] [(.int y6)])) _
    refine Jvm.Stand.ldcI X15 hx hown (mvT hZ (hw _ (List.mem_of_getElem? (i := 31) rfl))) rfl (hb hby at_89) ?_
    show Steps p.tables e below (T15.setTop (mkF m 91 #[.val (.int y1), .val (.int y2), .val (.int y3), .val (.int y4), .val (.int y5), .val (.int y6), .val (.long pp), .second, .val (.long q2), .second, .val (.long lo), .second, .val (.long pk), .second, .val (.long hi), .second, .val (.double dl), .second, .val (.double dp), .second, .val (.double dr), .second, .val (.ref ob), .unset, .unset, .unset, .unset, .unset, .unset, .unset, .unset] [(.int (2147483647 : Int32)), (.int y6)])) _
    refine XS.iand X15.here hx rfl (hb hby at_91) rfl ?_
    show Steps p.tables e below (T15.setTop (mkF m 92 #[.val (.int y1), .val (.int y2), .val (.int y3), .val (.int y4), .val (.int y5), .val (.int y6), .val (.long pp), .second, .val (.long q2), .second, .val (.long lo), .second, .val (.long pk), .second, .val (.long hi), .second, .val (.double dl), .second, .val (.double dp), .second, .val (.double dr), .second, .val (.ref ob), .unset, .unset, .unset, .unset, .unset, .unset, .unset, .unset] [(.int (y6 &&& (2147483647 : Int32)))])) _
    refine XS.iconst X15.here hx rfl (hb hby at_92) ?_
    show Steps p.tables e below (T15.setTop (mkF m 93 #[.val (.int y1), .val (.int y2), .val (.int y3), .val (.int y4), .val (.int y5), .val (.int y6), .val (.long pp), .second, .val (.long q2), .second, .val (.long lo), .second, .val (.long pk), .second, .val (.long hi), .second, .val (.double dl), .second, .val (.double dp), .second, .val (.double dr), .second, .val (.ref ob), .unset, .unset, .unset, .unset, .unset, .unset, .unset, .unset] [(.int (5 : Int32)), (.int (y6 &&& (2147483647 : Int32)))])) _
    refine iremM X15 hx rfl (hb hby at_93) rfl (by decide) ?_
    show Steps p.tables e below (T15.setTop (mkF m 94 #[.val (.int y1), .val (.int y2), .val (.int y3), .val (.int y4), .val (.int y5), .val (.int y6), .val (.long pp), .second, .val (.long q2), .second, .val (.long lo), .second, .val (.long pk), .second, .val (.long hi), .second, .val (.double dl), .second, .val (.double dp), .second, .val (.double dr), .second, .val (.ref ob), .unset, .unset, .unset, .unset, .unset, .unset, .unset, .unset] [(.int ((y6 &&& (2147483647 : Int32)) % (5 : Int32)))])) _
    refine XS.istore X15.here hx rfl (hb hby at_94) rfl (l' := #[.val (.int y1), .val (.int y2), .val (.int y3), .val (.int y4), .val (.int y5), .val (.int y6), .val (.long pp), .second, .val (.long q2), .second, .val (.long lo), .second, .val (.long pk), .second, .val (.long hi), .second, .val (.double dl), .second, .val (.double dp), .second, .val (.double dr), .second, .val (.ref ob), .val (.int ((y6 &&& (2147483647 : Int32)) % (5 : Int32))), .unset, .unset, .unset, .unset, .unset, .unset, .unset]) rfl ?_
    show Steps p.tables e below (T15.setTop (mkF m 96 #[.val (.int y1), .val (.int y2), .val (.int y3), .val (.int y4), .val (.int y5), .val (.int y6), .val (.long pp), .second, .val (.long q2), .second, .val (.long lo), .second, .val (.long pk), .second, .val (.long hi), .second, .val (.double dl), .second, .val (.double dp), .second, .val (.double dr), .second, .val (.ref ob), .val (.int ((y6 &&& (2147483647 : Int32)) % (5 : Int32))), .unset, .unset, .unset, .unset, .unset, .unset, .unset] [])) _
    exact k)
  obtain ⟨kk, hkk⟩ : ∃ v : Int32, v = ((y4 &&& (2147483647 : Int32)) % (5 : Int32)) := ⟨_, rfl⟩
  have c19 : ∀ t, Steps p.tables e below (T15.setTop (mkF m 104 #[.val (.int y1), .val (.int y2), .val (.int y3), .val (.int y4), .val (.int y5), .val (.int y6), .val (.long pp), .second, .val (.long q2), .second, .val (.long lo), .second, .val (.long pk), .second, .val (.long hi), .second, .val (.double dl), .second, .val (.double dp), .second, .val (.double dr), .second, .val (.ref ob), .val (.int md), .val (.int kk), .unset, .unset, .unset, .unset, .unset, .unset] [])) t → Steps p.tables e below (s₁.setTop (entryFrame m #[(.int y1), (.int y2), (.int y3), (.int y4), (.int y5), (.int y6)] maxLocals)) t := fun t k => c18 t (by
    rw [hkk] at k
    show Steps p.tables e below (T15.setTop (mkF m 96 #[.val (.int y1), .val (.int y2), .val (.int y3), .val (.int y4), .val (.int y5), .val (.int y6), .val (.long pp), .second, .val (.long q2), .second, .val (.long lo), .second, .val (.long pk), .second, .val (.long hi), .second, .val (.double dl), .second, .val (.double dp), .second, .val (.double dr), .second, .val (.ref ob), .val (.int md), .unset, .unset, .unset, .unset, .unset, .unset, .unset] [])) _
    refine XS.iloadN X15.here hx rfl (hb hby at_96) rfl ?_
    show Steps p.tables e below (T15.setTop (mkF m 97 #[.val (.int y1), .val (.int y2), .val (.int y3), .val (.int y4), .val (.int y5), .val (.int y6), .val (.long pp), .second, .val (.long q2), .second, .val (.long lo), .second, .val (.long pk), .second, .val (.long hi), .second, .val (.double dl), .second, .val (.double dp), .second, .val (.double dr), .second, .val (.ref ob), .val (.int md), .unset, .unset, .unset, .unset, .unset, .unset, .unset] [(.int y4)])) _
    refine Jvm.Stand.ldcI X15 hx hown (mvT hZ (hw _ (List.mem_of_getElem? (i := 31) rfl))) rfl (hb hby at_97) ?_
    show Steps p.tables e below (T15.setTop (mkF m 99 #[.val (.int y1), .val (.int y2), .val (.int y3), .val (.int y4), .val (.int y5), .val (.int y6), .val (.long pp), .second, .val (.long q2), .second, .val (.long lo), .second, .val (.long pk), .second, .val (.long hi), .second, .val (.double dl), .second, .val (.double dp), .second, .val (.double dr), .second, .val (.ref ob), .val (.int md), .unset, .unset, .unset, .unset, .unset, .unset, .unset] [(.int (2147483647 : Int32)), (.int y4)])) _
    refine XS.iand X15.here hx rfl (hb hby at_99) rfl ?_
    show Steps p.tables e below (T15.setTop (mkF m 100 #[.val (.int y1), .val (.int y2), .val (.int y3), .val (.int y4), .val (.int y5), .val (.int y6), .val (.long pp), .second, .val (.long q2), .second, .val (.long lo), .second, .val (.long pk), .second, .val (.long hi), .second, .val (.double dl), .second, .val (.double dp), .second, .val (.double dr), .second, .val (.ref ob), .val (.int md), .unset, .unset, .unset, .unset, .unset, .unset, .unset] [(.int (y4 &&& (2147483647 : Int32)))])) _
    refine XS.iconst X15.here hx rfl (hb hby at_100) ?_
    show Steps p.tables e below (T15.setTop (mkF m 101 #[.val (.int y1), .val (.int y2), .val (.int y3), .val (.int y4), .val (.int y5), .val (.int y6), .val (.long pp), .second, .val (.long q2), .second, .val (.long lo), .second, .val (.long pk), .second, .val (.long hi), .second, .val (.double dl), .second, .val (.double dp), .second, .val (.double dr), .second, .val (.ref ob), .val (.int md), .unset, .unset, .unset, .unset, .unset, .unset, .unset] [(.int (5 : Int32)), (.int (y4 &&& (2147483647 : Int32)))])) _
    refine iremM X15 hx rfl (hb hby at_101) rfl (by decide) ?_
    show Steps p.tables e below (T15.setTop (mkF m 102 #[.val (.int y1), .val (.int y2), .val (.int y3), .val (.int y4), .val (.int y5), .val (.int y6), .val (.long pp), .second, .val (.long q2), .second, .val (.long lo), .second, .val (.long pk), .second, .val (.long hi), .second, .val (.double dl), .second, .val (.double dp), .second, .val (.double dr), .second, .val (.ref ob), .val (.int md), .unset, .unset, .unset, .unset, .unset, .unset, .unset] [(.int ((y4 &&& (2147483647 : Int32)) % (5 : Int32)))])) _
    refine XS.istore X15.here hx rfl (hb hby at_102) rfl (l' := #[.val (.int y1), .val (.int y2), .val (.int y3), .val (.int y4), .val (.int y5), .val (.int y6), .val (.long pp), .second, .val (.long q2), .second, .val (.long lo), .second, .val (.long pk), .second, .val (.long hi), .second, .val (.double dl), .second, .val (.double dp), .second, .val (.double dr), .second, .val (.ref ob), .val (.int md), .val (.int ((y4 &&& (2147483647 : Int32)) % (5 : Int32))), .unset, .unset, .unset, .unset, .unset, .unset]) rfl ?_
    show Steps p.tables e below (T15.setTop (mkF m 104 #[.val (.int y1), .val (.int y2), .val (.int y3), .val (.int y4), .val (.int y5), .val (.int y6), .val (.long pp), .second, .val (.long q2), .second, .val (.long lo), .second, .val (.long pk), .second, .val (.long hi), .second, .val (.double dl), .second, .val (.double dp), .second, .val (.double dr), .second, .val (.ref ob), .val (.int md), .val (.int ((y4 &&& (2147483647 : Int32)) % (5 : Int32))), .unset, .unset, .unset, .unset, .unset, .unset] [])) _
    exact k)
  have MD := rem5 y6
  rw [← hmd] at MD
  have KK := rem5 y4
  rw [← hkk] at KK
  have c20 : ∀ t, Steps p.tables e below (T15.setTop (mkF m 106 #[.val (.int y1), .val (.int y2), .val (.int y3), .val (.int y4), .val (.int y5), .val (.int y6), .val (.long pp), .second, .val (.long q2), .second, .val (.long lo), .second, .val (.long pk), .second, .val (.long hi), .second, .val (.double dl), .second, .val (.double dp), .second, .val (.double dr), .second, .val (.ref ob), .val (.int md), .val (.int kk), .unset, .unset, .unset, .unset, .unset, .unset] [(.int md)])) t → Steps p.tables e below (s₁.setTop (entryFrame m #[(.int y1), (.int y2), (.int y3), (.int y4), (.int y5), (.int y6)] maxLocals)) t := fun t k => c19 t (by
    show Steps p.tables e below (T15.setTop (mkF m 104 #[.val (.int y1), .val (.int y2), .val (.int y3), .val (.int y4), .val (.int y5), .val (.int y6), .val (.long pp), .second, .val (.long q2), .second, .val (.long lo), .second, .val (.long pk), .second, .val (.long hi), .second, .val (.double dl), .second, .val (.double dp), .second, .val (.double dr), .second, .val (.ref ob), .val (.int md), .val (.int kk), .unset, .unset, .unset, .unset, .unset, .unset] [])) _
    refine XS.iload X15.here hx rfl (hb hby at_104) rfl ?_
    show Steps p.tables e below (T15.setTop (mkF m 106 #[.val (.int y1), .val (.int y2), .val (.int y3), .val (.int y4), .val (.int y5), .val (.int y6), .val (.long pp), .second, .val (.long q2), .second, .val (.long lo), .second, .val (.long pk), .second, .val (.long hi), .second, .val (.double dl), .second, .val (.double dp), .second, .val (.double dr), .second, .val (.ref ob), .val (.int md), .val (.int kk), .unset, .unset, .unset, .unset, .unset, .unset] [(.int md)])) _
    exact k)
  by_cases q106 : md = 0
  · skip
    obtain ⟨d118, hd118⟩ : ∃ v : UInt64, FP.l2d (lo + ((kk.toInt64) * pp)) = v := ⟨_, rfl⟩
    obtain ⟨kp1, kp2, kp3⟩ := kp_k KK P1
    have X1 : (lo + kk.toInt64 * pp).toInt = lo.toInt + kk.toInt * pp.toInt := by rw [Kit.i64_add (by omega) (by omega), kp1]
    have Dx : DS (lo.toInt + kk.toInt * pp.toInt) 0 d118 := by rw [← hd118, ← X1]; exact DS.l2d (by omega)
    have c21 : ∀ t, Steps p.tables e below (T15.setTop (mkF m 125 #[.val (.int y1), .val (.int y2), .val (.int y3), .val (.int y4), .val (.int y5), .val (.int y6), .val (.long pp), .second, .val (.long q2), .second, .val (.long lo), .second, .val (.long pk), .second, .val (.long hi), .second, .val (.double dl), .second, .val (.double dp), .second, .val (.double dr), .second, .val (.ref ob), .val (.int md), .val (.int kk), .val (.double d118), .second, .unset, .unset, .unset, .unset] [(.double d118), (.ref ob)])) t → Steps p.tables e below (s₁.setTop (entryFrame m #[(.int y1), (.int y2), (.int y3), (.int y4), (.int y5), (.int y6)] maxLocals)) t := fun t k => c20 t (by
      show Steps p.tables e below (T15.setTop (mkF m 106 #[.val (.int y1), .val (.int y2), .val (.int y3), .val (.int y4), .val (.int y5), .val (.int y6), .val (.long pp), .second, .val (.long q2), .second, .val (.long lo), .second, .val (.long pk), .second, .val (.long hi), .second, .val (.double dl), .second, .val (.double dp), .second, .val (.double dr), .second, .val (.ref ob), .val (.int md), .val (.int kk), .unset, .unset, .unset, .unset, .unset, .unset] [(.int md)])) _
      refine XS.ifNo X15.here hx rfl (hb hby at_106) rfl (XT.i0_ne_f q106) ?_
      show Steps p.tables e below (T15.setTop (mkF m 109 #[.val (.int y1), .val (.int y2), .val (.int y3), .val (.int y4), .val (.int y5), .val (.int y6), .val (.long pp), .second, .val (.long q2), .second, .val (.long lo), .second, .val (.long pk), .second, .val (.long hi), .second, .val (.double dl), .second, .val (.double dp), .second, .val (.double dr), .second, .val (.ref ob), .val (.int md), .val (.int kk), .unset, .unset, .unset, .unset, .unset, .unset] [])) _
      refine XT.lload X15.here hx rfl (hb hby at_109) rfl ?_
      show Steps p.tables e below (T15.setTop (mkF m 111 #[.val (.int y1), .val (.int y2), .val (.int y3), .val (.int y4), .val (.int y5), .val (.int y6), .val (.long pp), .second, .val (.long q2), .second, .val (.long lo), .second, .val (.long pk), .second, .val (.long hi), .second, .val (.double dl), .second, .val (.double dp), .second, .val (.double dr), .second, .val (.ref ob), .val (.int md), .val (.int kk), .unset, .unset, .unset, .unset, .unset, .unset] [(.long lo)])) _
      refine XS.iload X15.here hx rfl (hb hby at_111) rfl ?_
      show Steps p.tables e below (T15.setTop (mkF m 113 #[.val (.int y1), .val (.int y2), .val (.int y3), .val (.int y4), .val (.int y5), .val (.int y6), .val (.long pp), .second, .val (.long q2), .second, .val (.long lo), .second, .val (.long pk), .second, .val (.long hi), .second, .val (.double dl), .second, .val (.double dp), .second, .val (.double dr), .second, .val (.ref ob), .val (.int md), .val (.int kk), .unset, .unset, .unset, .unset, .unset, .unset] [(.int kk), (.long lo)])) _
      refine XT.i2l X15.here hx rfl (hb hby at_113) rfl ?_
      show Steps p.tables e below (T15.setTop (mkF m 114 #[.val (.int y1), .val (.int y2), .val (.int y3), .val (.int y4), .val (.int y5), .val (.int y6), .val (.long pp), .second, .val (.long q2), .second, .val (.long lo), .second, .val (.long pk), .second, .val (.long hi), .second, .val (.double dl), .second, .val (.double dp), .second, .val (.double dr), .second, .val (.ref ob), .val (.int md), .val (.int kk), .unset, .unset, .unset, .unset, .unset, .unset] [(.long (kk.toInt64)), (.long lo)])) _
      refine XT.lload X15.here hx rfl (hb hby at_114) rfl ?_
      show Steps p.tables e below (T15.setTop (mkF m 116 #[.val (.int y1), .val (.int y2), .val (.int y3), .val (.int y4), .val (.int y5), .val (.int y6), .val (.long pp), .second, .val (.long q2), .second, .val (.long lo), .second, .val (.long pk), .second, .val (.long hi), .second, .val (.double dl), .second, .val (.double dp), .second, .val (.double dr), .second, .val (.ref ob), .val (.int md), .val (.int kk), .unset, .unset, .unset, .unset, .unset, .unset] [(.long pp), (.long (kk.toInt64)), (.long lo)])) _
      refine XT.lmul X15.here hx rfl (hb hby at_116) rfl ?_
      show Steps p.tables e below (T15.setTop (mkF m 117 #[.val (.int y1), .val (.int y2), .val (.int y3), .val (.int y4), .val (.int y5), .val (.int y6), .val (.long pp), .second, .val (.long q2), .second, .val (.long lo), .second, .val (.long pk), .second, .val (.long hi), .second, .val (.double dl), .second, .val (.double dp), .second, .val (.double dr), .second, .val (.ref ob), .val (.int md), .val (.int kk), .unset, .unset, .unset, .unset, .unset, .unset] [(.long ((kk.toInt64) * pp)), (.long lo)])) _
      refine XT.ladd X15.here hx rfl (hb hby at_117) rfl ?_
      show Steps p.tables e below (T15.setTop (mkF m 118 #[.val (.int y1), .val (.int y2), .val (.int y3), .val (.int y4), .val (.int y5), .val (.int y6), .val (.long pp), .second, .val (.long q2), .second, .val (.long lo), .second, .val (.long pk), .second, .val (.long hi), .second, .val (.double dl), .second, .val (.double dp), .second, .val (.double dr), .second, .val (.ref ob), .val (.int md), .val (.int kk), .unset, .unset, .unset, .unset, .unset, .unset] [(.long (lo + ((kk.toInt64) * pp)))])) _
      refine XS.l2dS X15.here hx rfl (hb hby at_118) rfl hd118 ?_
      show Steps p.tables e below (T15.setTop (mkF m 119 #[.val (.int y1), .val (.int y2), .val (.int y3), .val (.int y4), .val (.int y5), .val (.int y6), .val (.long pp), .second, .val (.long q2), .second, .val (.long lo), .second, .val (.long pk), .second, .val (.long hi), .second, .val (.double dl), .second, .val (.double dp), .second, .val (.double dr), .second, .val (.ref ob), .val (.int md), .val (.int kk), .unset, .unset, .unset, .unset, .unset, .unset] [(.double d118)])) _
      refine XS.dstore X15.here hx rfl (hb hby at_119) rfl (l' := #[.val (.int y1), .val (.int y2), .val (.int y3), .val (.int y4), .val (.int y5), .val (.int y6), .val (.long pp), .second, .val (.long q2), .second, .val (.long lo), .second, .val (.long pk), .second, .val (.long hi), .second, .val (.double dl), .second, .val (.double dp), .second, .val (.double dr), .second, .val (.ref ob), .val (.int md), .val (.int kk), .val (.double d118), .second, .unset, .unset, .unset, .unset]) rfl ?_
      show Steps p.tables e below (T15.setTop (mkF m 121 #[.val (.int y1), .val (.int y2), .val (.int y3), .val (.int y4), .val (.int y5), .val (.int y6), .val (.long pp), .second, .val (.long q2), .second, .val (.long lo), .second, .val (.long pk), .second, .val (.long hi), .second, .val (.double dl), .second, .val (.double dp), .second, .val (.double dr), .second, .val (.ref ob), .val (.int md), .val (.int kk), .val (.double d118), .second, .unset, .unset, .unset, .unset] [])) _
      refine XS.aload X15.here hx rfl (hb hby at_121) rfl rfl ?_
      show Steps p.tables e below (T15.setTop (mkF m 123 #[.val (.int y1), .val (.int y2), .val (.int y3), .val (.int y4), .val (.int y5), .val (.int y6), .val (.long pp), .second, .val (.long q2), .second, .val (.long lo), .second, .val (.long pk), .second, .val (.long hi), .second, .val (.double dl), .second, .val (.double dp), .second, .val (.double dr), .second, .val (.ref ob), .val (.int md), .val (.int kk), .val (.double d118), .second, .unset, .unset, .unset, .unset] [(.ref ob)])) _
      refine XS.dload X15.here hx rfl (hb hby at_123) rfl ?_
      show Steps p.tables e below (T15.setTop (mkF m 125 #[.val (.int y1), .val (.int y2), .val (.int y3), .val (.int y4), .val (.int y5), .val (.int y6), .val (.long pp), .second, .val (.long q2), .second, .val (.long lo), .second, .val (.long pk), .second, .val (.long hi), .second, .val (.double dl), .second, .val (.double dp), .second, .val (.double dr), .second, .val (.ref ob), .val (.int md), .val (.int kk), .val (.double d118), .second, .unset, .unset, .unset, .unset] [(.double d118), (.ref ob)])) _
      exact k)
    obtain ⟨cq22, kq22, q22a, q22b, q22c⟩ := isOf hZ rfl G15_0
    obtain ⟨_, _, ⟨T22, L22, k22', n22⟩, -, X22, ⟨Lc22, hQ22, l22, y22, z22⟩, st22⟩ := X15.virtualBack hx (y := (⟨"com/example/foglane/foglane/uncertainty/FuzzyRuleBase$Term", "membership", "(D)D"⟩ : MethodName)) (z := (⟨"com/example/foglane/foglane/uncertainty/FuzzyRuleBase$Term", "membership", "(D)D"⟩ : MethodName)) hown (mvT hZ (hw _ (List.mem_of_getElem? (i := 33) rfl))) (mvT hZ (hw _ (List.mem_of_getElem? (i := 34) rfl))) (notFace_of_selects (args := #[]) (mvT hZ (hw _ (List.mem_of_getElem? (i := 36) rfl)))) (mvT hZ (hw _ (List.mem_of_getElem? (i := 36) rfl))) (mvT hZ (hw _ (List.mem_of_getElem? (i := 35) rfl))) (by decide) (backOf (W := 0) (rm_6 l Z a0 hw [] ob d118 dl dp dr lo.toInt pk.toInt hi.toInt (lo.toInt + kk.toInt * pp.toInt) T15.heap n0 (Nat.le_trans (Nat.le_trans Z0 E9.1) K15.1) G15_1 G15_2 G15_3 Dl Dp Dr Dx (by omega)) hZ (hw _ (List.mem_of_getElem? (i := 37) rfl)) (hw _ (List.mem_of_getElem? (i := 4) rfl)) (by decide) (by decide)) q22a q22c (g := (mkF m 125 #[.val (.int y1), .val (.int y2), .val (.int y3), .val (.int y4), .val (.int y5), .val (.int y6), .val (.long pp), .second, .val (.long q2), .second, .val (.long lo), .second, .val (.long pk), .second, .val (.long hi), .second, .val (.double dl), .second, .val (.double dp), .second, .val (.double dr), .second, .val (.ref ob), .val (.int md), .val (.int kk), .val (.double d118), .second, .unset, .unset, .unset, .unset] [(.double d118), (.ref ob)])) rfl (by rw [hml]; rfl) (Steps.refl _) (argsL := [(.double d118)]) (rest := []) (lenOf pd__D_D rfl) rfl (by show 2 * 0 + _ ≤ _; exact Nat.le_of_eq rfl) (hb hby at_125) (fun _ _ => ⟨rfl, rfl, (by decide : 1 + 0 ≤ _), (by decide : 3 + 0 ≤ _)⟩)
    dsimp only [Pt.U, Pt.locs, Pt.cells, Pt.slots] at X22 l22 y22 z22 st22 hQ22
    subst l22 y22 z22
    obtain ⟨⟨rs, rfl, hrs⟩, N22, e22⟩ := hQ22
    have M22 := Fr.app M15 N22
    have c23 : ∀ t, Steps p.tables e below (T22.setTop (mkF m 128 #[.val (.int y1), .val (.int y2), .val (.int y3), .val (.int y4), .val (.int y5), .val (.int y6), .val (.long pp), .second, .val (.long q2), .second, .val (.long lo), .second, .val (.long pk), .second, .val (.long hi), .second, .val (.double dl), .second, .val (.double dp), .second, .val (.double dr), .second, .val (.ref ob), .val (.int md), .val (.int kk), .val (.double d118), .second, .unset, .unset, .unset, .unset] [(.double rs)])) t → Steps p.tables e below (s₁.setTop (entryFrame m #[(.int y1), (.int y2), (.int y3), (.int y4), (.int y5), (.int y6)] maxLocals)) t := fun t k => c21 t (st22.trans k)
    have c24 : ∀ t, Steps p.tables e below (T22.setTop (mkF m 134 #[.val (.int y1), .val (.int y2), .val (.int y3), .val (.int y4), .val (.int y5), .val (.int y6), .val (.long pp), .second, .val (.long q2), .second, .val (.long lo), .second, .val (.long pk), .second, .val (.long hi), .second, .val (.double dl), .second, .val (.double dp), .second, .val (.double dr), .second, .val (.ref ob), .val (.int md), .val (.int kk), .val (.double d118), .second, .val (.double rs), .second, .unset, .unset] [(.int (XT.cmpL pp (0 : Int64)))])) t → Steps p.tables e below (s₁.setTop (entryFrame m #[(.int y1), (.int y2), (.int y3), (.int y4), (.int y5), (.int y6)] maxLocals)) t := fun t k => c23 t (by
      show Steps p.tables e below (T22.setTop (mkF m 128 #[.val (.int y1), .val (.int y2), .val (.int y3), .val (.int y4), .val (.int y5), .val (.int y6), .val (.long pp), .second, .val (.long q2), .second, .val (.long lo), .second, .val (.long pk), .second, .val (.long hi), .second, .val (.double dl), .second, .val (.double dp), .second, .val (.double dr), .second, .val (.ref ob), .val (.int md), .val (.int kk), .val (.double d118), .second, .unset, .unset, .unset, .unset] [(.double rs)])) _
      refine XS.dstore X22.here hx rfl (hb hby at_128) rfl (l' := #[.val (.int y1), .val (.int y2), .val (.int y3), .val (.int y4), .val (.int y5), .val (.int y6), .val (.long pp), .second, .val (.long q2), .second, .val (.long lo), .second, .val (.long pk), .second, .val (.long hi), .second, .val (.double dl), .second, .val (.double dp), .second, .val (.double dr), .second, .val (.ref ob), .val (.int md), .val (.int kk), .val (.double d118), .second, .val (.double rs), .second, .unset, .unset]) rfl ?_
      show Steps p.tables e below (T22.setTop (mkF m 130 #[.val (.int y1), .val (.int y2), .val (.int y3), .val (.int y4), .val (.int y5), .val (.int y6), .val (.long pp), .second, .val (.long q2), .second, .val (.long lo), .second, .val (.long pk), .second, .val (.long hi), .second, .val (.double dl), .second, .val (.double dp), .second, .val (.double dr), .second, .val (.ref ob), .val (.int md), .val (.int kk), .val (.double d118), .second, .val (.double rs), .second, .unset, .unset] [])) _
      refine XT.lload X22.here hx rfl (hb hby at_130) rfl ?_
      show Steps p.tables e below (T22.setTop (mkF m 132 #[.val (.int y1), .val (.int y2), .val (.int y3), .val (.int y4), .val (.int y5), .val (.int y6), .val (.long pp), .second, .val (.long q2), .second, .val (.long lo), .second, .val (.long pk), .second, .val (.long hi), .second, .val (.double dl), .second, .val (.double dp), .second, .val (.double dr), .second, .val (.ref ob), .val (.int md), .val (.int kk), .val (.double d118), .second, .val (.double rs), .second, .unset, .unset] [(.long pp)])) _
      refine XT.lconst X22.here hx rfl (hb hby at_132) ?_
      show Steps p.tables e below (T22.setTop (mkF m 133 #[.val (.int y1), .val (.int y2), .val (.int y3), .val (.int y4), .val (.int y5), .val (.int y6), .val (.long pp), .second, .val (.long q2), .second, .val (.long lo), .second, .val (.long pk), .second, .val (.long hi), .second, .val (.double dl), .second, .val (.double dp), .second, .val (.double dr), .second, .val (.ref ob), .val (.int md), .val (.int kk), .val (.double d118), .second, .val (.double rs), .second, .unset, .unset] [(.long (0 : Int64)), (.long pp)])) _
      refine XT.lcmp X22.here hx rfl (hb hby at_133) rfl ?_
      show Steps p.tables e below (T22.setTop (mkF m 134 #[.val (.int y1), .val (.int y2), .val (.int y3), .val (.int y4), .val (.int y5), .val (.int y6), .val (.long pp), .second, .val (.long q2), .second, .val (.long lo), .second, .val (.long pk), .second, .val (.long hi), .second, .val (.double dl), .second, .val (.double dp), .second, .val (.double dr), .second, .val (.ref ob), .val (.int md), .val (.int kk), .val (.double d118), .second, .val (.double rs), .second, .unset, .unset] [(.int (XT.cmpL pp (0 : Int64)))])) _
      exact k)
    by_cases q134 : pp = (0 : Int64)
    · skip
      have z134 := z64.mp q134
      have hr0 : DS 1 0 rs := by
        rw [z134, Int.mul_zero] at hrs
        rcases hrs with ⟨q, _⟩ | ⟨_, rfl⟩ | ⟨_, q, _⟩ | ⟨_, q, _⟩ <;> first | exact DS.one | (exfalso; omega)
      obtain ⟨k154, hk154⟩ : ∃ v : Int32, cmpValue (FP.dcmp rs FP.dconst1) .l = v := ⟨_, rfl⟩
      have e154 : k154 = 0 := by rw [← hk154, hr0.cmp DS.one .l, if_neg (by omega), if_pos rfl]
      have c25 : ∀ t, Steps p.tables e below (T22.setTop (mkF m 163 #[.val (.int y1), .val (.int y2), .val (.int y3), .val (.int y4), .val (.int y5), .val (.int y6), .val (.long pp), .second, .val (.long q2), .second, .val (.long lo), .second, .val (.long pk), .second, .val (.long hi), .second, .val (.double dl), .second, .val (.double dp), .second, .val (.double dr), .second, .val (.ref ob), .val (.int md), .val (.int kk), .val (.double d118), .second, .val (.double rs), .second, .val (.double FP.dconst1), .second] [(.int (1 : Int32))])) t → Steps p.tables e below (s₁.setTop (entryFrame m #[(.int y1), (.int y2), (.int y3), (.int y4), (.int y5), (.int y6)] maxLocals)) t := fun t k => c24 t (by
        show Steps p.tables e below (T22.setTop (mkF m 134 #[.val (.int y1), .val (.int y2), .val (.int y3), .val (.int y4), .val (.int y5), .val (.int y6), .val (.long pp), .second, .val (.long q2), .second, .val (.long lo), .second, .val (.long pk), .second, .val (.long hi), .second, .val (.double dl), .second, .val (.double dp), .second, .val (.double dr), .second, .val (.ref ob), .val (.int md), .val (.int kk), .val (.double d118), .second, .val (.double rs), .second, .unset, .unset] [(.int (XT.cmpL pp (0 : Int64)))])) _
        refine XS.ifNo X22.here hx rfl (hb hby at_134) rfl (XT.ll_ne_f q134) ?_
        show Steps p.tables e below (T22.setTop (mkF m 137 #[.val (.int y1), .val (.int y2), .val (.int y3), .val (.int y4), .val (.int y5), .val (.int y6), .val (.long pp), .second, .val (.long q2), .second, .val (.long lo), .second, .val (.long pk), .second, .val (.long hi), .second, .val (.double dl), .second, .val (.double dp), .second, .val (.double dr), .second, .val (.ref ob), .val (.int md), .val (.int kk), .val (.double d118), .second, .val (.double rs), .second, .unset, .unset] [])) _
        refine XS.dconst1 X22.here hx rfl (hb hby at_137) rfl ?_
        show Steps p.tables e below (T22.setTop (mkF m 138 #[.val (.int y1), .val (.int y2), .val (.int y3), .val (.int y4), .val (.int y5), .val (.int y6), .val (.long pp), .second, .val (.long q2), .second, .val (.long lo), .second, .val (.long pk), .second, .val (.long hi), .second, .val (.double dl), .second, .val (.double dp), .second, .val (.double dr), .second, .val (.ref ob), .val (.int md), .val (.int kk), .val (.double d118), .second, .val (.double rs), .second, .unset, .unset] [(.double FP.dconst1)])) _
        refine XS.goto X22.here hx rfl (pc0 := 138) (pc' := 148) rfl (hb hby at_138) (by decide) (by decide) ?_
        show Steps p.tables e below (T22.setTop (mkF m 148 #[.val (.int y1), .val (.int y2), .val (.int y3), .val (.int y4), .val (.int y5), .val (.int y6), .val (.long pp), .second, .val (.long q2), .second, .val (.long lo), .second, .val (.long pk), .second, .val (.long hi), .second, .val (.double dl), .second, .val (.double dp), .second, .val (.double dr), .second, .val (.ref ob), .val (.int md), .val (.int kk), .val (.double d118), .second, .val (.double rs), .second, .unset, .unset] [(.double FP.dconst1)])) _
        refine XS.dstore X22.here hx rfl (hb hby at_148) rfl (l' := #[.val (.int y1), .val (.int y2), .val (.int y3), .val (.int y4), .val (.int y5), .val (.int y6), .val (.long pp), .second, .val (.long q2), .second, .val (.long lo), .second, .val (.long pk), .second, .val (.long hi), .second, .val (.double dl), .second, .val (.double dp), .second, .val (.double dr), .second, .val (.ref ob), .val (.int md), .val (.int kk), .val (.double d118), .second, .val (.double rs), .second, .val (.double FP.dconst1), .second]) rfl ?_
        show Steps p.tables e below (T22.setTop (mkF m 150 #[.val (.int y1), .val (.int y2), .val (.int y3), .val (.int y4), .val (.int y5), .val (.int y6), .val (.long pp), .second, .val (.long q2), .second, .val (.long lo), .second, .val (.long pk), .second, .val (.long hi), .second, .val (.double dl), .second, .val (.double dp), .second, .val (.double dr), .second, .val (.ref ob), .val (.int md), .val (.int kk), .val (.double d118), .second, .val (.double rs), .second, .val (.double FP.dconst1), .second] [])) _
        refine XS.dload X22.here hx rfl (hb hby at_150) rfl ?_
        show Steps p.tables e below (T22.setTop (mkF m 152 #[.val (.int y1), .val (.int y2), .val (.int y3), .val (.int y4), .val (.int y5), .val (.int y6), .val (.long pp), .second, .val (.long q2), .second, .val (.long lo), .second, .val (.long pk), .second, .val (.long hi), .second, .val (.double dl), .second, .val (.double dp), .second, .val (.double dr), .second, .val (.ref ob), .val (.int md), .val (.int kk), .val (.double d118), .second, .val (.double rs), .second, .val (.double FP.dconst1), .second] [(.double rs)])) _
        refine XS.dload X22.here hx rfl (hb hby at_152) rfl ?_
        show Steps p.tables e below (T22.setTop (mkF m 154 #[.val (.int y1), .val (.int y2), .val (.int y3), .val (.int y4), .val (.int y5), .val (.int y6), .val (.long pp), .second, .val (.long q2), .second, .val (.long lo), .second, .val (.long pk), .second, .val (.long hi), .second, .val (.double dl), .second, .val (.double dp), .second, .val (.double dr), .second, .val (.ref ob), .val (.int md), .val (.int kk), .val (.double d118), .second, .val (.double rs), .second, .val (.double FP.dconst1), .second] [(.double FP.dconst1), (.double rs)])) _
        refine XS.dcmpS X22.here hx rfl (hb hby at_154) rfl hk154 ?_
        show Steps p.tables e below (T22.setTop (mkF m 155 #[.val (.int y1), .val (.int y2), .val (.int y3), .val (.int y4), .val (.int y5), .val (.int y6), .val (.long pp), .second, .val (.long q2), .second, .val (.long lo), .second, .val (.long pk), .second, .val (.long hi), .second, .val (.double dl), .second, .val (.double dp), .second, .val (.double dr), .second, .val (.ref ob), .val (.int md), .val (.int kk), .val (.double d118), .second, .val (.double rs), .second, .val (.double FP.dconst1), .second] [(.int k154)])) _
        refine XS.ifNo X22.here hx rfl (hb hby at_155) rfl (XT.i0_ne_f e154) ?_
        show Steps p.tables e below (T22.setTop (mkF m 158 #[.val (.int y1), .val (.int y2), .val (.int y3), .val (.int y4), .val (.int y5), .val (.int y6), .val (.long pp), .second, .val (.long q2), .second, .val (.long lo), .second, .val (.long pk), .second, .val (.long hi), .second, .val (.double dl), .second, .val (.double dp), .second, .val (.double dr), .second, .val (.ref ob), .val (.int md), .val (.int kk), .val (.double d118), .second, .val (.double rs), .second, .val (.double FP.dconst1), .second] [])) _
        refine XS.iconst X22.here hx rfl (hb hby at_158) ?_
        show Steps p.tables e below (T22.setTop (mkF m 159 #[.val (.int y1), .val (.int y2), .val (.int y3), .val (.int y4), .val (.int y5), .val (.int y6), .val (.long pp), .second, .val (.long q2), .second, .val (.long lo), .second, .val (.long pk), .second, .val (.long hi), .second, .val (.double dl), .second, .val (.double dp), .second, .val (.double dr), .second, .val (.ref ob), .val (.int md), .val (.int kk), .val (.double d118), .second, .val (.double rs), .second, .val (.double FP.dconst1), .second] [(.int (1 : Int32))])) _
        refine XS.goto X22.here hx rfl (pc0 := 159) (pc' := 163) rfl (hb hby at_159) (by decide) (by decide) ?_
        show Steps p.tables e below (T22.setTop (mkF m 163 #[.val (.int y1), .val (.int y2), .val (.int y3), .val (.int y4), .val (.int y5), .val (.int y6), .val (.long pp), .second, .val (.long q2), .second, .val (.long lo), .second, .val (.long pk), .second, .val (.long hi), .second, .val (.double dl), .second, .val (.double dp), .second, .val (.double dr), .second, .val (.ref ob), .val (.int md), .val (.int kk), .val (.double d118), .second, .val (.double rs), .second, .val (.double FP.dconst1), .second] [(.int (1 : Int32))])) _
        exact k)
      obtain ⟨fs, hr, hrun, hended, hW, hsame⟩ := X22.leave (v := (some (.int (1 : Int32)))) (fun h => by rw [Bd.returns] at h; cases h)
      refine ⟨_, _, pre0 _ (c25 _ (retN X22 hx (t := .boolean) Bd.returns (by simp) (hb hby at_163) hr)), hrun, hended, _, _, rfl, ?_, ⟨_, rfl⟩, hW, hsame.mono (by decide) (by decide)⟩
      show Q_0 Z y1 y2 y3 y4 y5 y6 h0 n0 _ T22.heap _
      rw [e22]
      exact ⟨rfl, M22⟩
    · skip
      have z134 : ¬ pp.toInt = 0 := fun q => q134 (z64.mpr q)
      have hr0 : DS kk.toInt 2 rs := mem_up (K1 ▸ hrs) (by omega) (by omega) (by omega)
      obtain ⟨d143, hd143⟩ : ∃ v : UInt64, FP.i2d kk = v := ⟨_, rfl⟩
      obtain ⟨d147, hd147⟩ : ∃ v : UInt64, FP.ddiv d143 (4616189618054758400 : UInt64) = v := ⟨_, rfl⟩
      have D147 : DS kk.toInt 2 d147 := hd147 ▸ (hd143 ▸ DS.i2d kk).div four_c (by decide) (by simp) (by omega) (by decide)
      obtain ⟨k154, hk154⟩ : ∃ v : Int32, cmpValue (FP.dcmp rs d147) .l = v := ⟨_, rfl⟩
      have e154 : k154 = 0 := by rw [← hk154, hr0.cmp D147 .l, if_neg (by omega), if_pos rfl]
      have c26 : ∀ t, Steps p.tables e below (T22.setTop (mkF m 163 #[.val (.int y1), .val (.int y2), .val (.int y3), .val (.int y4), .val (.int y5), .val (.int y6), .val (.long pp), .second, .val (.long q2), .second, .val (.long lo), .second, .val (.long pk), .second, .val (.long hi), .second, .val (.double dl), .second, .val (.double dp), .second, .val (.double dr), .second, .val (.ref ob), .val (.int md), .val (.int kk), .val (.double d118), .second, .val (.double rs), .second, .val (.double d147), .second] [(.int (1 : Int32))])) t → Steps p.tables e below (s₁.setTop (entryFrame m #[(.int y1), (.int y2), (.int y3), (.int y4), (.int y5), (.int y6)] maxLocals)) t := fun t k => c24 t (by
        show Steps p.tables e below (T22.setTop (mkF m 134 #[.val (.int y1), .val (.int y2), .val (.int y3), .val (.int y4), .val (.int y5), .val (.int y6), .val (.long pp), .second, .val (.long q2), .second, .val (.long lo), .second, .val (.long pk), .second, .val (.long hi), .second, .val (.double dl), .second, .val (.double dp), .second, .val (.double dr), .second, .val (.ref ob), .val (.int md), .val (.int kk), .val (.double d118), .second, .val (.double rs), .second, .unset, .unset] [(.int (XT.cmpL pp (0 : Int64)))])) _
        refine XS.ifYes X22.here hx rfl (pc0 := 134) (pc' := 141) rfl (hb hby at_134) rfl (XT.ll_ne_t q134) (by decide) (by decide) ?_
        show Steps p.tables e below (T22.setTop (mkF m 141 #[.val (.int y1), .val (.int y2), .val (.int y3), .val (.int y4), .val (.int y5), .val (.int y6), .val (.long pp), .second, .val (.long q2), .second, .val (.long lo), .second, .val (.long pk), .second, .val (.long hi), .second, .val (.double dl), .second, .val (.double dp), .second, .val (.double dr), .second, .val (.ref ob), .val (.int md), .val (.int kk), .val (.double d118), .second, .val (.double rs), .second, .unset, .unset] [])) _
        refine XS.iload X22.here hx rfl (hb hby at_141) rfl ?_
        show Steps p.tables e below (T22.setTop (mkF m 143 #[.val (.int y1), .val (.int y2), .val (.int y3), .val (.int y4), .val (.int y5), .val (.int y6), .val (.long pp), .second, .val (.long q2), .second, .val (.long lo), .second, .val (.long pk), .second, .val (.long hi), .second, .val (.double dl), .second, .val (.double dp), .second, .val (.double dr), .second, .val (.ref ob), .val (.int md), .val (.int kk), .val (.double d118), .second, .val (.double rs), .second, .unset, .unset] [(.int kk)])) _
        refine XS.i2dS X22.here hx rfl (hb hby at_143) rfl hd143 ?_
        show Steps p.tables e below (T22.setTop (mkF m 144 #[.val (.int y1), .val (.int y2), .val (.int y3), .val (.int y4), .val (.int y5), .val (.int y6), .val (.long pp), .second, .val (.long q2), .second, .val (.long lo), .second, .val (.long pk), .second, .val (.long hi), .second, .val (.double dl), .second, .val (.double dp), .second, .val (.double dr), .second, .val (.ref ob), .val (.int md), .val (.int kk), .val (.double d118), .second, .val (.double rs), .second, .unset, .unset] [(.double d143)])) _
        refine Jvm.Stand.ldc2DoubleC X22 hx hown (mvT hZ (hw _ (List.mem_of_getElem? (i := 38) rfl))) (g := (mkF m 144 #[.val (.int y1), .val (.int y2), .val (.int y3), .val (.int y4), .val (.int y5), .val (.int y6), .val (.long pp), .second, .val (.long q2), .second, .val (.long lo), .second, .val (.long pk), .second, .val (.long hi), .second, .val (.double dl), .second, .val (.double dp), .second, .val (.double dr), .second, .val (.ref ob), .val (.int md), .val (.int kk), .val (.double d118), .second, .val (.double rs), .second, .unset, .unset] [(.double d143)])) rfl (hb hby at_144) _ ?_
        show Steps p.tables e below (T22.setTop (mkF m 147 #[.val (.int y1), .val (.int y2), .val (.int y3), .val (.int y4), .val (.int y5), .val (.int y6), .val (.long pp), .second, .val (.long q2), .second, .val (.long lo), .second, .val (.long pk), .second, .val (.long hi), .second, .val (.double dl), .second, .val (.double dp), .second, .val (.double dr), .second, .val (.ref ob), .val (.int md), .val (.int kk), .val (.double d118), .second, .val (.double rs), .second, .unset, .unset] [(.double (4616189618054758400 : UInt64)), (.double d143)])) _
        refine XS.ddivS X22.here hx rfl (hb hby at_147) rfl (hd147 ▸ D147.noNaN) hd147 ?_
        show Steps p.tables e below (T22.setTop (mkF m 148 #[.val (.int y1), .val (.int y2), .val (.int y3), .val (.int y4), .val (.int y5), .val (.int y6), .val (.long pp), .second, .val (.long q2), .second, .val (.long lo), .second, .val (.long pk), .second, .val (.long hi), .second, .val (.double dl), .second, .val (.double dp), .second, .val (.double dr), .second, .val (.ref ob), .val (.int md), .val (.int kk), .val (.double d118), .second, .val (.double rs), .second, .unset, .unset] [(.double d147)])) _
        refine XS.dstore X22.here hx rfl (hb hby at_148) rfl (l' := #[.val (.int y1), .val (.int y2), .val (.int y3), .val (.int y4), .val (.int y5), .val (.int y6), .val (.long pp), .second, .val (.long q2), .second, .val (.long lo), .second, .val (.long pk), .second, .val (.long hi), .second, .val (.double dl), .second, .val (.double dp), .second, .val (.double dr), .second, .val (.ref ob), .val (.int md), .val (.int kk), .val (.double d118), .second, .val (.double rs), .second, .val (.double d147), .second]) rfl ?_
        show Steps p.tables e below (T22.setTop (mkF m 150 #[.val (.int y1), .val (.int y2), .val (.int y3), .val (.int y4), .val (.int y5), .val (.int y6), .val (.long pp), .second, .val (.long q2), .second, .val (.long lo), .second, .val (.long pk), .second, .val (.long hi), .second, .val (.double dl), .second, .val (.double dp), .second, .val (.double dr), .second, .val (.ref ob), .val (.int md), .val (.int kk), .val (.double d118), .second, .val (.double rs), .second, .val (.double d147), .second] [])) _
        refine XS.dload X22.here hx rfl (hb hby at_150) rfl ?_
        show Steps p.tables e below (T22.setTop (mkF m 152 #[.val (.int y1), .val (.int y2), .val (.int y3), .val (.int y4), .val (.int y5), .val (.int y6), .val (.long pp), .second, .val (.long q2), .second, .val (.long lo), .second, .val (.long pk), .second, .val (.long hi), .second, .val (.double dl), .second, .val (.double dp), .second, .val (.double dr), .second, .val (.ref ob), .val (.int md), .val (.int kk), .val (.double d118), .second, .val (.double rs), .second, .val (.double d147), .second] [(.double rs)])) _
        refine XS.dload X22.here hx rfl (hb hby at_152) rfl ?_
        show Steps p.tables e below (T22.setTop (mkF m 154 #[.val (.int y1), .val (.int y2), .val (.int y3), .val (.int y4), .val (.int y5), .val (.int y6), .val (.long pp), .second, .val (.long q2), .second, .val (.long lo), .second, .val (.long pk), .second, .val (.long hi), .second, .val (.double dl), .second, .val (.double dp), .second, .val (.double dr), .second, .val (.ref ob), .val (.int md), .val (.int kk), .val (.double d118), .second, .val (.double rs), .second, .val (.double d147), .second] [(.double d147), (.double rs)])) _
        refine XS.dcmpS X22.here hx rfl (hb hby at_154) rfl hk154 ?_
        show Steps p.tables e below (T22.setTop (mkF m 155 #[.val (.int y1), .val (.int y2), .val (.int y3), .val (.int y4), .val (.int y5), .val (.int y6), .val (.long pp), .second, .val (.long q2), .second, .val (.long lo), .second, .val (.long pk), .second, .val (.long hi), .second, .val (.double dl), .second, .val (.double dp), .second, .val (.double dr), .second, .val (.ref ob), .val (.int md), .val (.int kk), .val (.double d118), .second, .val (.double rs), .second, .val (.double d147), .second] [(.int k154)])) _
        refine XS.ifNo X22.here hx rfl (hb hby at_155) rfl (XT.i0_ne_f e154) ?_
        show Steps p.tables e below (T22.setTop (mkF m 158 #[.val (.int y1), .val (.int y2), .val (.int y3), .val (.int y4), .val (.int y5), .val (.int y6), .val (.long pp), .second, .val (.long q2), .second, .val (.long lo), .second, .val (.long pk), .second, .val (.long hi), .second, .val (.double dl), .second, .val (.double dp), .second, .val (.double dr), .second, .val (.ref ob), .val (.int md), .val (.int kk), .val (.double d118), .second, .val (.double rs), .second, .val (.double d147), .second] [])) _
        refine XS.iconst X22.here hx rfl (hb hby at_158) ?_
        show Steps p.tables e below (T22.setTop (mkF m 159 #[.val (.int y1), .val (.int y2), .val (.int y3), .val (.int y4), .val (.int y5), .val (.int y6), .val (.long pp), .second, .val (.long q2), .second, .val (.long lo), .second, .val (.long pk), .second, .val (.long hi), .second, .val (.double dl), .second, .val (.double dp), .second, .val (.double dr), .second, .val (.ref ob), .val (.int md), .val (.int kk), .val (.double d118), .second, .val (.double rs), .second, .val (.double d147), .second] [(.int (1 : Int32))])) _
        refine XS.goto X22.here hx rfl (pc0 := 159) (pc' := 163) rfl (hb hby at_159) (by decide) (by decide) ?_
        show Steps p.tables e below (T22.setTop (mkF m 163 #[.val (.int y1), .val (.int y2), .val (.int y3), .val (.int y4), .val (.int y5), .val (.int y6), .val (.long pp), .second, .val (.long q2), .second, .val (.long lo), .second, .val (.long pk), .second, .val (.long hi), .second, .val (.double dl), .second, .val (.double dp), .second, .val (.double dr), .second, .val (.ref ob), .val (.int md), .val (.int kk), .val (.double d118), .second, .val (.double rs), .second, .val (.double d147), .second] [(.int (1 : Int32))])) _
        exact k)
      obtain ⟨fs, hr, hrun, hended, hW, hsame⟩ := X22.leave (v := (some (.int (1 : Int32)))) (fun h => by rw [Bd.returns] at h; cases h)
      refine ⟨_, _, pre0 _ (c26 _ (retN X22 hx (t := .boolean) Bd.returns (by simp) (hb hby at_163) hr)), hrun, hended, _, _, rfl, ?_, ⟨_, rfl⟩, hW, hsame.mono (by decide) (by decide)⟩
      show Q_0 Z y1 y2 y3 y4 y5 y6 h0 n0 _ T22.heap _
      rw [e22]
      exact ⟨rfl, M22⟩
  · skip
    have c27 : ∀ t, Steps p.tables e below (T15.setTop (mkF m 167 #[.val (.int y1), .val (.int y2), .val (.int y3), .val (.int y4), .val (.int y5), .val (.int y6), .val (.long pp), .second, .val (.long q2), .second, .val (.long lo), .second, .val (.long pk), .second, .val (.long hi), .second, .val (.double dl), .second, .val (.double dp), .second, .val (.double dr), .second, .val (.ref ob), .val (.int md), .val (.int kk), .unset, .unset, .unset, .unset, .unset, .unset] [(.int (1 : Int32)), (.int md)])) t → Steps p.tables e below (s₁.setTop (entryFrame m #[(.int y1), (.int y2), (.int y3), (.int y4), (.int y5), (.int y6)] maxLocals)) t := fun t k => c20 t (by
      show Steps p.tables e below (T15.setTop (mkF m 106 #[.val (.int y1), .val (.int y2), .val (.int y3), .val (.int y4), .val (.int y5), .val (.int y6), .val (.long pp), .second, .val (.long q2), .second, .val (.long lo), .second, .val (.long pk), .second, .val (.long hi), .second, .val (.double dl), .second, .val (.double dp), .second, .val (.double dr), .second, .val (.ref ob), .val (.int md), .val (.int kk), .unset, .unset, .unset, .unset, .unset, .unset] [(.int md)])) _
      refine XS.ifYes X15.here hx rfl (pc0 := 106) (pc' := 164) rfl (hb hby at_106) rfl (XT.i0_ne_t q106) (by decide) (by decide) ?_
      show Steps p.tables e below (T15.setTop (mkF m 164 #[.val (.int y1), .val (.int y2), .val (.int y3), .val (.int y4), .val (.int y5), .val (.int y6), .val (.long pp), .second, .val (.long q2), .second, .val (.long lo), .second, .val (.long pk), .second, .val (.long hi), .second, .val (.double dl), .second, .val (.double dp), .second, .val (.double dr), .second, .val (.ref ob), .val (.int md), .val (.int kk), .unset, .unset, .unset, .unset, .unset, .unset] [])) _
      refine XS.iload X15.here hx rfl (hb hby at_164) rfl ?_
      show Steps p.tables e below (T15.setTop (mkF m 166 #[.val (.int y1), .val (.int y2), .val (.int y3), .val (.int y4), .val (.int y5), .val (.int y6), .val (.long pp), .second, .val (.long q2), .second, .val (.long lo), .second, .val (.long pk), .second, .val (.long hi), .second, .val (.double dl), .second, .val (.double dp), .second, .val (.double dr), .second, .val (.ref ob), .val (.int md), .val (.int kk), .unset, .unset, .unset, .unset, .unset, .unset] [(.int md)])) _
      refine XS.iconst X15.here hx rfl (hb hby at_166) ?_
      show Steps p.tables e below (T15.setTop (mkF m 167 #[.val (.int y1), .val (.int y2), .val (.int y3), .val (.int y4), .val (.int y5), .val (.int y6), .val (.long pp), .second, .val (.long q2), .second, .val (.long lo), .second, .val (.long pk), .second, .val (.long hi), .second, .val (.double dl), .second, .val (.double dp), .second, .val (.double dr), .second, .val (.ref ob), .val (.int md), .val (.int kk), .unset, .unset, .unset, .unset, .unset, .unset] [(.int (1 : Int32)), (.int md)])) _
      exact k)
    by_cases q167 : md = (1 : Int32)
    · skip
      obtain ⟨d179, hd179⟩ : ∃ v : UInt64, FP.l2d (pk + ((kk.toInt64) * q2)) = v := ⟨_, rfl⟩
      obtain ⟨kp1, kp2, kp3⟩ := kp_k (p := q2) KK (by omega)
      have X1 : (pk + kk.toInt64 * q2).toInt = pk.toInt + kk.toInt * q2.toInt := by rw [Kit.i64_add (by omega) (by omega), kp1]
      have Dx : DS (pk.toInt + kk.toInt * q2.toInt) 0 d179 := by rw [← hd179, ← X1]; exact DS.l2d (by omega)
      have c28 : ∀ t, Steps p.tables e below (T15.setTop (mkF m 186 #[.val (.int y1), .val (.int y2), .val (.int y3), .val (.int y4), .val (.int y5), .val (.int y6), .val (.long pp), .second, .val (.long q2), .second, .val (.long lo), .second, .val (.long pk), .second, .val (.long hi), .second, .val (.double dl), .second, .val (.double dp), .second, .val (.double dr), .second, .val (.ref ob), .val (.int md), .val (.int kk), .val (.double d179), .second, .unset, .unset, .unset, .unset] [(.double d179), (.ref ob)])) t → Steps p.tables e below (s₁.setTop (entryFrame m #[(.int y1), (.int y2), (.int y3), (.int y4), (.int y5), (.int y6)] maxLocals)) t := fun t k => c27 t (by
        show Steps p.tables e below (T15.setTop (mkF m 167 #[.val (.int y1), .val (.int y2), .val (.int y3), .val (.int y4), .val (.int y5), .val (.int y6), .val (.long pp), .second, .val (.long q2), .second, .val (.long lo), .second, .val (.long pk), .second, .val (.long hi), .second, .val (.double dl), .second, .val (.double dp), .second, .val (.double dr), .second, .val (.ref ob), .val (.int md), .val (.int kk), .unset, .unset, .unset, .unset, .unset, .unset] [(.int (1 : Int32)), (.int md)])) _
        refine XS.icmpNo X15.here hx rfl (hb hby at_167) rfl (XT.ii_ne_f q167) ?_
        show Steps p.tables e below (T15.setTop (mkF m 170 #[.val (.int y1), .val (.int y2), .val (.int y3), .val (.int y4), .val (.int y5), .val (.int y6), .val (.long pp), .second, .val (.long q2), .second, .val (.long lo), .second, .val (.long pk), .second, .val (.long hi), .second, .val (.double dl), .second, .val (.double dp), .second, .val (.double dr), .second, .val (.ref ob), .val (.int md), .val (.int kk), .unset, .unset, .unset, .unset, .unset, .unset] [])) _
        refine XT.lload X15.here hx rfl (hb hby at_170) rfl ?_
        show Steps p.tables e below (T15.setTop (mkF m 172 #[.val (.int y1), .val (.int y2), .val (.int y3), .val (.int y4), .val (.int y5), .val (.int y6), .val (.long pp), .second, .val (.long q2), .second, .val (.long lo), .second, .val (.long pk), .second, .val (.long hi), .second, .val (.double dl), .second, .val (.double dp), .second, .val (.double dr), .second, .val (.ref ob), .val (.int md), .val (.int kk), .unset, .unset, .unset, .unset, .unset, .unset] [(.long pk)])) _
        refine XS.iload X15.here hx rfl (hb hby at_172) rfl ?_
        show Steps p.tables e below (T15.setTop (mkF m 174 #[.val (.int y1), .val (.int y2), .val (.int y3), .val (.int y4), .val (.int y5), .val (.int y6), .val (.long pp), .second, .val (.long q2), .second, .val (.long lo), .second, .val (.long pk), .second, .val (.long hi), .second, .val (.double dl), .second, .val (.double dp), .second, .val (.double dr), .second, .val (.ref ob), .val (.int md), .val (.int kk), .unset, .unset, .unset, .unset, .unset, .unset] [(.int kk), (.long pk)])) _
        refine XT.i2l X15.here hx rfl (hb hby at_174) rfl ?_
        show Steps p.tables e below (T15.setTop (mkF m 175 #[.val (.int y1), .val (.int y2), .val (.int y3), .val (.int y4), .val (.int y5), .val (.int y6), .val (.long pp), .second, .val (.long q2), .second, .val (.long lo), .second, .val (.long pk), .second, .val (.long hi), .second, .val (.double dl), .second, .val (.double dp), .second, .val (.double dr), .second, .val (.ref ob), .val (.int md), .val (.int kk), .unset, .unset, .unset, .unset, .unset, .unset] [(.long (kk.toInt64)), (.long pk)])) _
        refine XT.lload X15.here hx rfl (hb hby at_175) rfl ?_
        show Steps p.tables e below (T15.setTop (mkF m 177 #[.val (.int y1), .val (.int y2), .val (.int y3), .val (.int y4), .val (.int y5), .val (.int y6), .val (.long pp), .second, .val (.long q2), .second, .val (.long lo), .second, .val (.long pk), .second, .val (.long hi), .second, .val (.double dl), .second, .val (.double dp), .second, .val (.double dr), .second, .val (.ref ob), .val (.int md), .val (.int kk), .unset, .unset, .unset, .unset, .unset, .unset] [(.long q2), (.long (kk.toInt64)), (.long pk)])) _
        refine XT.lmul X15.here hx rfl (hb hby at_177) rfl ?_
        show Steps p.tables e below (T15.setTop (mkF m 178 #[.val (.int y1), .val (.int y2), .val (.int y3), .val (.int y4), .val (.int y5), .val (.int y6), .val (.long pp), .second, .val (.long q2), .second, .val (.long lo), .second, .val (.long pk), .second, .val (.long hi), .second, .val (.double dl), .second, .val (.double dp), .second, .val (.double dr), .second, .val (.ref ob), .val (.int md), .val (.int kk), .unset, .unset, .unset, .unset, .unset, .unset] [(.long ((kk.toInt64) * q2)), (.long pk)])) _
        refine XT.ladd X15.here hx rfl (hb hby at_178) rfl ?_
        show Steps p.tables e below (T15.setTop (mkF m 179 #[.val (.int y1), .val (.int y2), .val (.int y3), .val (.int y4), .val (.int y5), .val (.int y6), .val (.long pp), .second, .val (.long q2), .second, .val (.long lo), .second, .val (.long pk), .second, .val (.long hi), .second, .val (.double dl), .second, .val (.double dp), .second, .val (.double dr), .second, .val (.ref ob), .val (.int md), .val (.int kk), .unset, .unset, .unset, .unset, .unset, .unset] [(.long (pk + ((kk.toInt64) * q2)))])) _
        refine XS.l2dS X15.here hx rfl (hb hby at_179) rfl hd179 ?_
        show Steps p.tables e below (T15.setTop (mkF m 180 #[.val (.int y1), .val (.int y2), .val (.int y3), .val (.int y4), .val (.int y5), .val (.int y6), .val (.long pp), .second, .val (.long q2), .second, .val (.long lo), .second, .val (.long pk), .second, .val (.long hi), .second, .val (.double dl), .second, .val (.double dp), .second, .val (.double dr), .second, .val (.ref ob), .val (.int md), .val (.int kk), .unset, .unset, .unset, .unset, .unset, .unset] [(.double d179)])) _
        refine XS.dstore X15.here hx rfl (hb hby at_180) rfl (l' := #[.val (.int y1), .val (.int y2), .val (.int y3), .val (.int y4), .val (.int y5), .val (.int y6), .val (.long pp), .second, .val (.long q2), .second, .val (.long lo), .second, .val (.long pk), .second, .val (.long hi), .second, .val (.double dl), .second, .val (.double dp), .second, .val (.double dr), .second, .val (.ref ob), .val (.int md), .val (.int kk), .val (.double d179), .second, .unset, .unset, .unset, .unset]) rfl ?_
        show Steps p.tables e below (T15.setTop (mkF m 182 #[.val (.int y1), .val (.int y2), .val (.int y3), .val (.int y4), .val (.int y5), .val (.int y6), .val (.long pp), .second, .val (.long q2), .second, .val (.long lo), .second, .val (.long pk), .second, .val (.long hi), .second, .val (.double dl), .second, .val (.double dp), .second, .val (.double dr), .second, .val (.ref ob), .val (.int md), .val (.int kk), .val (.double d179), .second, .unset, .unset, .unset, .unset] [])) _
        refine XS.aload X15.here hx rfl (hb hby at_182) rfl rfl ?_
        show Steps p.tables e below (T15.setTop (mkF m 184 #[.val (.int y1), .val (.int y2), .val (.int y3), .val (.int y4), .val (.int y5), .val (.int y6), .val (.long pp), .second, .val (.long q2), .second, .val (.long lo), .second, .val (.long pk), .second, .val (.long hi), .second, .val (.double dl), .second, .val (.double dp), .second, .val (.double dr), .second, .val (.ref ob), .val (.int md), .val (.int kk), .val (.double d179), .second, .unset, .unset, .unset, .unset] [(.ref ob)])) _
        refine XS.dload X15.here hx rfl (hb hby at_184) rfl ?_
        show Steps p.tables e below (T15.setTop (mkF m 186 #[.val (.int y1), .val (.int y2), .val (.int y3), .val (.int y4), .val (.int y5), .val (.int y6), .val (.long pp), .second, .val (.long q2), .second, .val (.long lo), .second, .val (.long pk), .second, .val (.long hi), .second, .val (.double dl), .second, .val (.double dp), .second, .val (.double dr), .second, .val (.ref ob), .val (.int md), .val (.int kk), .val (.double d179), .second, .unset, .unset, .unset, .unset] [(.double d179), (.ref ob)])) _
        exact k)
      obtain ⟨cq29, kq29, q29a, q29b, q29c⟩ := isOf hZ rfl G15_0
      obtain ⟨_, _, ⟨T29, L29, k29', n29⟩, -, X29, ⟨Lc29, hQ29, l29, y29, z29⟩, st29⟩ := X15.virtualBack hx (y := (⟨"com/example/foglane/foglane/uncertainty/FuzzyRuleBase$Term", "membership", "(D)D"⟩ : MethodName)) (z := (⟨"com/example/foglane/foglane/uncertainty/FuzzyRuleBase$Term", "membership", "(D)D"⟩ : MethodName)) hown (mvT hZ (hw _ (List.mem_of_getElem? (i := 33) rfl))) (mvT hZ (hw _ (List.mem_of_getElem? (i := 34) rfl))) (notFace_of_selects (args := #[]) (mvT hZ (hw _ (List.mem_of_getElem? (i := 36) rfl)))) (mvT hZ (hw _ (List.mem_of_getElem? (i := 36) rfl))) (mvT hZ (hw _ (List.mem_of_getElem? (i := 35) rfl))) (by decide) (backOf (W := 0) (rm_6 l Z a0 hw [] ob d179 dl dp dr lo.toInt pk.toInt hi.toInt (pk.toInt + kk.toInt * q2.toInt) T15.heap n0 (Nat.le_trans (Nat.le_trans Z0 E9.1) K15.1) G15_1 G15_2 G15_3 Dl Dp Dr Dx (by omega)) hZ (hw _ (List.mem_of_getElem? (i := 37) rfl)) (hw _ (List.mem_of_getElem? (i := 4) rfl)) (by decide) (by decide)) q29a q29c (g := (mkF m 186 #[.val (.int y1), .val (.int y2), .val (.int y3), .val (.int y4), .val (.int y5), .val (.int y6), .val (.long pp), .second, .val (.long q2), .second, .val (.long lo), .second, .val (.long pk), .second, .val (.long hi), .second, .val (.double dl), .second, .val (.double dp), .second, .val (.double dr), .second, .val (.ref ob), .val (.int md), .val (.int kk), .val (.double d179), .second, .unset, .unset, .unset, .unset] [(.double d179), (.ref ob)])) rfl (by rw [hml]; rfl) (Steps.refl _) (argsL := [(.double d179)]) (rest := []) (lenOf pd__D_D rfl) rfl (by show 2 * 0 + _ ≤ _; exact Nat.le_of_eq rfl) (hb hby at_186) (fun _ _ => ⟨rfl, rfl, (by decide : 1 + 0 ≤ _), (by decide : 3 + 0 ≤ _)⟩)
      dsimp only [Pt.U, Pt.locs, Pt.cells, Pt.slots] at X29 l29 y29 z29 st29 hQ29
      subst l29 y29 z29
      obtain ⟨⟨rs, rfl, hrs⟩, N29, e29⟩ := hQ29
      have M29 := Fr.app M15 N29
      have c30 : ∀ t, Steps p.tables e below (T29.setTop (mkF m 189 #[.val (.int y1), .val (.int y2), .val (.int y3), .val (.int y4), .val (.int y5), .val (.int y6), .val (.long pp), .second, .val (.long q2), .second, .val (.long lo), .second, .val (.long pk), .second, .val (.long hi), .second, .val (.double dl), .second, .val (.double dp), .second, .val (.double dr), .second, .val (.ref ob), .val (.int md), .val (.int kk), .val (.double d179), .second, .unset, .unset, .unset, .unset] [(.double rs)])) t → Steps p.tables e below (s₁.setTop (entryFrame m #[(.int y1), (.int y2), (.int y3), (.int y4), (.int y5), (.int y6)] maxLocals)) t := fun t k => c28 t (st29.trans k)
      have c31 : ∀ t, Steps p.tables e below (T29.setTop (mkF m 195 #[.val (.int y1), .val (.int y2), .val (.int y3), .val (.int y4), .val (.int y5), .val (.int y6), .val (.long pp), .second, .val (.long q2), .second, .val (.long lo), .second, .val (.long pk), .second, .val (.long hi), .second, .val (.double dl), .second, .val (.double dp), .second, .val (.double dr), .second, .val (.ref ob), .val (.int md), .val (.int kk), .val (.double d179), .second, .val (.double rs), .second, .unset, .unset] [(.int (XT.cmpL q2 (0 : Int64)))])) t → Steps p.tables e below (s₁.setTop (entryFrame m #[(.int y1), (.int y2), (.int y3), (.int y4), (.int y5), (.int y6)] maxLocals)) t := fun t k => c30 t (by
        show Steps p.tables e below (T29.setTop (mkF m 189 #[.val (.int y1), .val (.int y2), .val (.int y3), .val (.int y4), .val (.int y5), .val (.int y6), .val (.long pp), .second, .val (.long q2), .second, .val (.long lo), .second, .val (.long pk), .second, .val (.long hi), .second, .val (.double dl), .second, .val (.double dp), .second, .val (.double dr), .second, .val (.ref ob), .val (.int md), .val (.int kk), .val (.double d179), .second, .unset, .unset, .unset, .unset] [(.double rs)])) _
        refine XS.dstore X29.here hx rfl (hb hby at_189) rfl (l' := #[.val (.int y1), .val (.int y2), .val (.int y3), .val (.int y4), .val (.int y5), .val (.int y6), .val (.long pp), .second, .val (.long q2), .second, .val (.long lo), .second, .val (.long pk), .second, .val (.long hi), .second, .val (.double dl), .second, .val (.double dp), .second, .val (.double dr), .second, .val (.ref ob), .val (.int md), .val (.int kk), .val (.double d179), .second, .val (.double rs), .second, .unset, .unset]) rfl ?_
        show Steps p.tables e below (T29.setTop (mkF m 191 #[.val (.int y1), .val (.int y2), .val (.int y3), .val (.int y4), .val (.int y5), .val (.int y6), .val (.long pp), .second, .val (.long q2), .second, .val (.long lo), .second, .val (.long pk), .second, .val (.long hi), .second, .val (.double dl), .second, .val (.double dp), .second, .val (.double dr), .second, .val (.ref ob), .val (.int md), .val (.int kk), .val (.double d179), .second, .val (.double rs), .second, .unset, .unset] [])) _
        refine XT.lload X29.here hx rfl (hb hby at_191) rfl ?_
        show Steps p.tables e below (T29.setTop (mkF m 193 #[.val (.int y1), .val (.int y2), .val (.int y3), .val (.int y4), .val (.int y5), .val (.int y6), .val (.long pp), .second, .val (.long q2), .second, .val (.long lo), .second, .val (.long pk), .second, .val (.long hi), .second, .val (.double dl), .second, .val (.double dp), .second, .val (.double dr), .second, .val (.ref ob), .val (.int md), .val (.int kk), .val (.double d179), .second, .val (.double rs), .second, .unset, .unset] [(.long q2)])) _
        refine XT.lconst X29.here hx rfl (hb hby at_193) ?_
        show Steps p.tables e below (T29.setTop (mkF m 194 #[.val (.int y1), .val (.int y2), .val (.int y3), .val (.int y4), .val (.int y5), .val (.int y6), .val (.long pp), .second, .val (.long q2), .second, .val (.long lo), .second, .val (.long pk), .second, .val (.long hi), .second, .val (.double dl), .second, .val (.double dp), .second, .val (.double dr), .second, .val (.ref ob), .val (.int md), .val (.int kk), .val (.double d179), .second, .val (.double rs), .second, .unset, .unset] [(.long (0 : Int64)), (.long q2)])) _
        refine XT.lcmp X29.here hx rfl (hb hby at_194) rfl ?_
        show Steps p.tables e below (T29.setTop (mkF m 195 #[.val (.int y1), .val (.int y2), .val (.int y3), .val (.int y4), .val (.int y5), .val (.int y6), .val (.long pp), .second, .val (.long q2), .second, .val (.long lo), .second, .val (.long pk), .second, .val (.long hi), .second, .val (.double dl), .second, .val (.double dp), .second, .val (.double dr), .second, .val (.ref ob), .val (.int md), .val (.int kk), .val (.double d179), .second, .val (.double rs), .second, .unset, .unset] [(.int (XT.cmpL q2 (0 : Int64)))])) _
        exact k)
      by_cases q195 : q2 = (0 : Int64)
      · skip
        have z195 := z64.mp q195
        have hr0 : DS 1 0 rs := by
          rw [z195, Int.mul_zero] at hrs
          rcases hrs with ⟨q, _⟩ | ⟨_, rfl⟩ | ⟨_, q, _⟩ | ⟨_, q, _⟩ <;> first | exact DS.one | (exfalso; omega)
        obtain ⟨k217, hk217⟩ : ∃ v : Int32, cmpValue (FP.dcmp rs FP.dconst1) .l = v := ⟨_, rfl⟩
        have e217 : k217 = 0 := by rw [← hk217, hr0.cmp DS.one .l, if_neg (by omega), if_pos rfl]
        have c32 : ∀ t, Steps p.tables e below (T29.setTop (mkF m 226 #[.val (.int y1), .val (.int y2), .val (.int y3), .val (.int y4), .val (.int y5), .val (.int y6), .val (.long pp), .second, .val (.long q2), .second, .val (.long lo), .second, .val (.long pk), .second, .val (.long hi), .second, .val (.double dl), .second, .val (.double dp), .second, .val (.double dr), .second, .val (.ref ob), .val (.int md), .val (.int kk), .val (.double d179), .second, .val (.double rs), .second, .val (.double FP.dconst1), .second] [(.int (1 : Int32))])) t → Steps p.tables e below (s₁.setTop (entryFrame m #[(.int y1), (.int y2), (.int y3), (.int y4), (.int y5), (.int y6)] maxLocals)) t := fun t k => c31 t (by
          show Steps p.tables e below (T29.setTop (mkF m 195 #[.val (.int y1), .val (.int y2), .val (.int y3), .val (.int y4), .val (.int y5), .val (.int y6), .val (.long pp), .second, .val (.long q2), .second, .val (.long lo), .second, .val (.long pk), .second, .val (.long hi), .second, .val (.double dl), .second, .val (.double dp), .second, .val (.double dr), .second, .val (.ref ob), .val (.int md), .val (.int kk), .val (.double d179), .second, .val (.double rs), .second, .unset, .unset] [(.int (XT.cmpL q2 (0 : Int64)))])) _
          refine XS.ifNo X29.here hx rfl (hb hby at_195) rfl (XT.ll_ne_f q195) ?_
          show Steps p.tables e below (T29.setTop (mkF m 198 #[.val (.int y1), .val (.int y2), .val (.int y3), .val (.int y4), .val (.int y5), .val (.int y6), .val (.long pp), .second, .val (.long q2), .second, .val (.long lo), .second, .val (.long pk), .second, .val (.long hi), .second, .val (.double dl), .second, .val (.double dp), .second, .val (.double dr), .second, .val (.ref ob), .val (.int md), .val (.int kk), .val (.double d179), .second, .val (.double rs), .second, .unset, .unset] [])) _
          refine XS.dconst1 X29.here hx rfl (hb hby at_198) rfl ?_
          show Steps p.tables e below (T29.setTop (mkF m 199 #[.val (.int y1), .val (.int y2), .val (.int y3), .val (.int y4), .val (.int y5), .val (.int y6), .val (.long pp), .second, .val (.long q2), .second, .val (.long lo), .second, .val (.long pk), .second, .val (.long hi), .second, .val (.double dl), .second, .val (.double dp), .second, .val (.double dr), .second, .val (.ref ob), .val (.int md), .val (.int kk), .val (.double d179), .second, .val (.double rs), .second, .unset, .unset] [(.double FP.dconst1)])) _
          refine XS.goto X29.here hx rfl (pc0 := 199) (pc' := 211) rfl (hb hby at_199) (by decide) (by decide) ?_
          show Steps p.tables e below (T29.setTop (mkF m 211 #[.val (.int y1), .val (.int y2), .val (.int y3), .val (.int y4), .val (.int y5), .val (.int y6), .val (.long pp), .second, .val (.long q2), .second, .val (.long lo), .second, .val (.long pk), .second, .val (.long hi), .second, .val (.double dl), .second, .val (.double dp), .second, .val (.double dr), .second, .val (.ref ob), .val (.int md), .val (.int kk), .val (.double d179), .second, .val (.double rs), .second, .unset, .unset] [(.double FP.dconst1)])) _
          refine XS.dstore X29.here hx rfl (hb hby at_211) rfl (l' := #[.val (.int y1), .val (.int y2), .val (.int y3), .val (.int y4), .val (.int y5), .val (.int y6), .val (.long pp), .second, .val (.long q2), .second, .val (.long lo), .second, .val (.long pk), .second, .val (.long hi), .second, .val (.double dl), .second, .val (.double dp), .second, .val (.double dr), .second, .val (.ref ob), .val (.int md), .val (.int kk), .val (.double d179), .second, .val (.double rs), .second, .val (.double FP.dconst1), .second]) rfl ?_
          show Steps p.tables e below (T29.setTop (mkF m 213 #[.val (.int y1), .val (.int y2), .val (.int y3), .val (.int y4), .val (.int y5), .val (.int y6), .val (.long pp), .second, .val (.long q2), .second, .val (.long lo), .second, .val (.long pk), .second, .val (.long hi), .second, .val (.double dl), .second, .val (.double dp), .second, .val (.double dr), .second, .val (.ref ob), .val (.int md), .val (.int kk), .val (.double d179), .second, .val (.double rs), .second, .val (.double FP.dconst1), .second] [])) _
          refine XS.dload X29.here hx rfl (hb hby at_213) rfl ?_
          show Steps p.tables e below (T29.setTop (mkF m 215 #[.val (.int y1), .val (.int y2), .val (.int y3), .val (.int y4), .val (.int y5), .val (.int y6), .val (.long pp), .second, .val (.long q2), .second, .val (.long lo), .second, .val (.long pk), .second, .val (.long hi), .second, .val (.double dl), .second, .val (.double dp), .second, .val (.double dr), .second, .val (.ref ob), .val (.int md), .val (.int kk), .val (.double d179), .second, .val (.double rs), .second, .val (.double FP.dconst1), .second] [(.double rs)])) _
          refine XS.dload X29.here hx rfl (hb hby at_215) rfl ?_
          show Steps p.tables e below (T29.setTop (mkF m 217 #[.val (.int y1), .val (.int y2), .val (.int y3), .val (.int y4), .val (.int y5), .val (.int y6), .val (.long pp), .second, .val (.long q2), .second, .val (.long lo), .second, .val (.long pk), .second, .val (.long hi), .second, .val (.double dl), .second, .val (.double dp), .second, .val (.double dr), .second, .val (.ref ob), .val (.int md), .val (.int kk), .val (.double d179), .second, .val (.double rs), .second, .val (.double FP.dconst1), .second] [(.double FP.dconst1), (.double rs)])) _
          refine XS.dcmpS X29.here hx rfl (hb hby at_217) rfl hk217 ?_
          show Steps p.tables e below (T29.setTop (mkF m 218 #[.val (.int y1), .val (.int y2), .val (.int y3), .val (.int y4), .val (.int y5), .val (.int y6), .val (.long pp), .second, .val (.long q2), .second, .val (.long lo), .second, .val (.long pk), .second, .val (.long hi), .second, .val (.double dl), .second, .val (.double dp), .second, .val (.double dr), .second, .val (.ref ob), .val (.int md), .val (.int kk), .val (.double d179), .second, .val (.double rs), .second, .val (.double FP.dconst1), .second] [(.int k217)])) _
          refine XS.ifNo X29.here hx rfl (hb hby at_218) rfl (XT.i0_ne_f e217) ?_
          show Steps p.tables e below (T29.setTop (mkF m 221 #[.val (.int y1), .val (.int y2), .val (.int y3), .val (.int y4), .val (.int y5), .val (.int y6), .val (.long pp), .second, .val (.long q2), .second, .val (.long lo), .second, .val (.long pk), .second, .val (.long hi), .second, .val (.double dl), .second, .val (.double dp), .second, .val (.double dr), .second, .val (.ref ob), .val (.int md), .val (.int kk), .val (.double d179), .second, .val (.double rs), .second, .val (.double FP.dconst1), .second] [])) _
          refine XS.iconst X29.here hx rfl (hb hby at_221) ?_
          show Steps p.tables e below (T29.setTop (mkF m 222 #[.val (.int y1), .val (.int y2), .val (.int y3), .val (.int y4), .val (.int y5), .val (.int y6), .val (.long pp), .second, .val (.long q2), .second, .val (.long lo), .second, .val (.long pk), .second, .val (.long hi), .second, .val (.double dl), .second, .val (.double dp), .second, .val (.double dr), .second, .val (.ref ob), .val (.int md), .val (.int kk), .val (.double d179), .second, .val (.double rs), .second, .val (.double FP.dconst1), .second] [(.int (1 : Int32))])) _
          refine XS.goto X29.here hx rfl (pc0 := 222) (pc' := 226) rfl (hb hby at_222) (by decide) (by decide) ?_
          show Steps p.tables e below (T29.setTop (mkF m 226 #[.val (.int y1), .val (.int y2), .val (.int y3), .val (.int y4), .val (.int y5), .val (.int y6), .val (.long pp), .second, .val (.long q2), .second, .val (.long lo), .second, .val (.long pk), .second, .val (.long hi), .second, .val (.double dl), .second, .val (.double dp), .second, .val (.double dr), .second, .val (.ref ob), .val (.int md), .val (.int kk), .val (.double d179), .second, .val (.double rs), .second, .val (.double FP.dconst1), .second] [(.int (1 : Int32))])) _
          exact k)
        obtain ⟨fs, hr, hrun, hended, hW, hsame⟩ := X29.leave (v := (some (.int (1 : Int32)))) (fun h => by rw [Bd.returns] at h; cases h)
        refine ⟨_, _, pre0 _ (c32 _ (retN X29 hx (t := .boolean) Bd.returns (by simp) (hb hby at_226) hr)), hrun, hended, _, _, rfl, ?_, ⟨_, rfl⟩, hW, hsame.mono (by decide) (by decide)⟩
        show Q_0 Z y1 y2 y3 y4 y5 y6 h0 n0 _ T29.heap _
        rw [e29]
        exact ⟨rfl, M29⟩
      · skip
        have z195 : ¬ q2.toInt = 0 := fun q => q195 (z64.mpr q)
        have hr0 : DS (4 - kk.toInt) 2 rs := mem_down (H1 ▸ hrs) (by omega) (by omega) (by omega)
        obtain ⟨d206, hd206⟩ : ∃ v : UInt64, FP.i2d ((4 : Int32) - kk) = v := ⟨_, rfl⟩
        obtain ⟨d210, hd210⟩ : ∃ v : UInt64, FP.ddiv d206 (4616189618054758400 : UInt64) = v := ⟨_, rfl⟩
        have s4 : ((4 : Int32) - kk).toInt = 4 - kk.toInt := by
          have q : (4 : Int32).toInt = 4 := by decide
          rw [Kit.i32_sub (by omega) (by omega), q]
        have D210 : DS (4 - kk.toInt) 2 d210 := hd210 ▸ (hd206 ▸ s4 ▸ DS.i2d ((4 : Int32) - kk)).div four_c (by decide) (by simp) (by omega) (by decide)
        obtain ⟨k217, hk217⟩ : ∃ v : Int32, cmpValue (FP.dcmp rs d210) .l = v := ⟨_, rfl⟩
        have e217 : k217 = 0 := by rw [← hk217, hr0.cmp D210 .l, if_neg (by omega), if_pos rfl]
        have c33 : ∀ t, Steps p.tables e below (T29.setTop (mkF m 226 #[.val (.int y1), .val (.int y2), .val (.int y3), .val (.int y4), .val (.int y5), .val (.int y6), .val (.long pp), .second, .val (.long q2), .second, .val (.long lo), .second, .val (.long pk), .second, .val (.long hi), .second, .val (.double dl), .second, .val (.double dp), .second, .val (.double dr), .second, .val (.ref ob), .val (.int md), .val (.int kk), .val (.double d179), .second, .val (.double rs), .second, .val (.double d210), .second] [(.int (1 : Int32))])) t → Steps p.tables e below (s₁.setTop (entryFrame m #[(.int y1), (.int y2), (.int y3), (.int y4), (.int y5), (.int y6)] maxLocals)) t := fun t k => c31 t (by
          show Steps p.tables e below (T29.setTop (mkF m 195 #[.val (.int y1), .val (.int y2), .val (.int y3), .val (.int y4), .val (.int y5), .val (.int y6), .val (.long pp), .second, .val (.long q2), .second, .val (.long lo), .second, .val (.long pk), .second, .val (.long hi), .second, .val (.double dl), .second, .val (.double dp), .second, .val (.double dr), .second, .val (.ref ob), .val (.int md), .val (.int kk), .val (.double d179), .second, .val (.double rs), .second, .unset, .unset] [(.int (XT.cmpL q2 (0 : Int64)))])) _
          refine XS.ifYes X29.here hx rfl (pc0 := 195) (pc' := 202) rfl (hb hby at_195) rfl (XT.ll_ne_t q195) (by decide) (by decide) ?_
          show Steps p.tables e below (T29.setTop (mkF m 202 #[.val (.int y1), .val (.int y2), .val (.int y3), .val (.int y4), .val (.int y5), .val (.int y6), .val (.long pp), .second, .val (.long q2), .second, .val (.long lo), .second, .val (.long pk), .second, .val (.long hi), .second, .val (.double dl), .second, .val (.double dp), .second, .val (.double dr), .second, .val (.ref ob), .val (.int md), .val (.int kk), .val (.double d179), .second, .val (.double rs), .second, .unset, .unset] [])) _
          refine XS.iconst X29.here hx rfl (hb hby at_202) ?_
          show Steps p.tables e below (T29.setTop (mkF m 203 #[.val (.int y1), .val (.int y2), .val (.int y3), .val (.int y4), .val (.int y5), .val (.int y6), .val (.long pp), .second, .val (.long q2), .second, .val (.long lo), .second, .val (.long pk), .second, .val (.long hi), .second, .val (.double dl), .second, .val (.double dp), .second, .val (.double dr), .second, .val (.ref ob), .val (.int md), .val (.int kk), .val (.double d179), .second, .val (.double rs), .second, .unset, .unset] [(.int (4 : Int32))])) _
          refine XS.iload X29.here hx rfl (hb hby at_203) rfl ?_
          show Steps p.tables e below (T29.setTop (mkF m 205 #[.val (.int y1), .val (.int y2), .val (.int y3), .val (.int y4), .val (.int y5), .val (.int y6), .val (.long pp), .second, .val (.long q2), .second, .val (.long lo), .second, .val (.long pk), .second, .val (.long hi), .second, .val (.double dl), .second, .val (.double dp), .second, .val (.double dr), .second, .val (.ref ob), .val (.int md), .val (.int kk), .val (.double d179), .second, .val (.double rs), .second, .unset, .unset] [(.int kk), (.int (4 : Int32))])) _
          refine XS.isub X29.here hx rfl (hb hby at_205) rfl ?_
          show Steps p.tables e below (T29.setTop (mkF m 206 #[.val (.int y1), .val (.int y2), .val (.int y3), .val (.int y4), .val (.int y5), .val (.int y6), .val (.long pp), .second, .val (.long q2), .second, .val (.long lo), .second, .val (.long pk), .second, .val (.long hi), .second, .val (.double dl), .second, .val (.double dp), .second, .val (.double dr), .second, .val (.ref ob), .val (.int md), .val (.int kk), .val (.double d179), .second, .val (.double rs), .second, .unset, .unset] [(.int ((4 : Int32) - kk))])) _
          refine XS.i2dS X29.here hx rfl (hb hby at_206) rfl hd206 ?_
          show Steps p.tables e below (T29.setTop (mkF m 207 #[.val (.int y1), .val (.int y2), .val (.int y3), .val (.int y4), .val (.int y5), .val (.int y6), .val (.long pp), .second, .val (.long q2), .second, .val (.long lo), .second, .val (.long pk), .second, .val (.long hi), .second, .val (.double dl), .second, .val (.double dp), .second, .val (.double dr), .second, .val (.ref ob), .val (.int md), .val (.int kk), .val (.double d179), .second, .val (.double rs), .second, .unset, .unset] [(.double d206)])) _
          refine Jvm.Stand.ldc2DoubleC X29 hx hown (mvT hZ (hw _ (List.mem_of_getElem? (i := 38) rfl))) (g := (mkF m 207 #[.val (.int y1), .val (.int y2), .val (.int y3), .val (.int y4), .val (.int y5), .val (.int y6), .val (.long pp), .second, .val (.long q2), .second, .val (.long lo), .second, .val (.long pk), .second, .val (.long hi), .second, .val (.double dl), .second, .val (.double dp), .second, .val (.double dr), .second, .val (.ref ob), .val (.int md), .val (.int kk), .val (.double d179), .second, .val (.double rs), .second, .unset, .unset] [(.double d206)])) rfl (hb hby at_207) _ ?_
          show Steps p.tables e below (T29.setTop (mkF m 210 #[.val (.int y1), .val (.int y2), .val (.int y3), .val (.int y4), .val (.int y5), .val (.int y6), .val (.long pp), .second, .val (.long q2), .second, .val (.long lo), .second, .val (.long pk), .second, .val (.long hi), .second, .val (.double dl), .second, .val (.double dp), .second, .val (.double dr), .second, .val (.ref ob), .val (.int md), .val (.int kk), .val (.double d179), .second, .val (.double rs), .second, .unset, .unset] [(.double (4616189618054758400 : UInt64)), (.double d206)])) _
          refine XS.ddivS X29.here hx rfl (hb hby at_210) rfl (hd210 ▸ D210.noNaN) hd210 ?_
          show Steps p.tables e below (T29.setTop (mkF m 211 #[.val (.int y1), .val (.int y2), .val (.int y3), .val (.int y4), .val (.int y5), .val (.int y6), .val (.long pp), .second, .val (.long q2), .second, .val (.long lo), .second, .val (.long pk), .second, .val (.long hi), .second, .val (.double dl), .second, .val (.double dp), .second, .val (.double dr), .second, .val (.ref ob), .val (.int md), .val (.int kk), .val (.double d179), .second, .val (.double rs), .second, .unset, .unset] [(.double d210)])) _
          refine XS.dstore X29.here hx rfl (hb hby at_211) rfl (l' := #[.val (.int y1), .val (.int y2), .val (.int y3), .val (.int y4), .val (.int y5), .val (.int y6), .val (.long pp), .second, .val (.long q2), .second, .val (.long lo), .second, .val (.long pk), .second, .val (.long hi), .second, .val (.double dl), .second, .val (.double dp), .second, .val (.double dr), .second, .val (.ref ob), .val (.int md), .val (.int kk), .val (.double d179), .second, .val (.double rs), .second, .val (.double d210), .second]) rfl ?_
          show Steps p.tables e below (T29.setTop (mkF m 213 #[.val (.int y1), .val (.int y2), .val (.int y3), .val (.int y4), .val (.int y5), .val (.int y6), .val (.long pp), .second, .val (.long q2), .second, .val (.long lo), .second, .val (.long pk), .second, .val (.long hi), .second, .val (.double dl), .second, .val (.double dp), .second, .val (.double dr), .second, .val (.ref ob), .val (.int md), .val (.int kk), .val (.double d179), .second, .val (.double rs), .second, .val (.double d210), .second] [])) _
          refine XS.dload X29.here hx rfl (hb hby at_213) rfl ?_
          show Steps p.tables e below (T29.setTop (mkF m 215 #[.val (.int y1), .val (.int y2), .val (.int y3), .val (.int y4), .val (.int y5), .val (.int y6), .val (.long pp), .second, .val (.long q2), .second, .val (.long lo), .second, .val (.long pk), .second, .val (.long hi), .second, .val (.double dl), .second, .val (.double dp), .second, .val (.double dr), .second, .val (.ref ob), .val (.int md), .val (.int kk), .val (.double d179), .second, .val (.double rs), .second, .val (.double d210), .second] [(.double rs)])) _
          refine XS.dload X29.here hx rfl (hb hby at_215) rfl ?_
          show Steps p.tables e below (T29.setTop (mkF m 217 #[.val (.int y1), .val (.int y2), .val (.int y3), .val (.int y4), .val (.int y5), .val (.int y6), .val (.long pp), .second, .val (.long q2), .second, .val (.long lo), .second, .val (.long pk), .second, .val (.long hi), .second, .val (.double dl), .second, .val (.double dp), .second, .val (.double dr), .second, .val (.ref ob), .val (.int md), .val (.int kk), .val (.double d179), .second, .val (.double rs), .second, .val (.double d210), .second] [(.double d210), (.double rs)])) _
          refine XS.dcmpS X29.here hx rfl (hb hby at_217) rfl hk217 ?_
          show Steps p.tables e below (T29.setTop (mkF m 218 #[.val (.int y1), .val (.int y2), .val (.int y3), .val (.int y4), .val (.int y5), .val (.int y6), .val (.long pp), .second, .val (.long q2), .second, .val (.long lo), .second, .val (.long pk), .second, .val (.long hi), .second, .val (.double dl), .second, .val (.double dp), .second, .val (.double dr), .second, .val (.ref ob), .val (.int md), .val (.int kk), .val (.double d179), .second, .val (.double rs), .second, .val (.double d210), .second] [(.int k217)])) _
          refine XS.ifNo X29.here hx rfl (hb hby at_218) rfl (XT.i0_ne_f e217) ?_
          show Steps p.tables e below (T29.setTop (mkF m 221 #[.val (.int y1), .val (.int y2), .val (.int y3), .val (.int y4), .val (.int y5), .val (.int y6), .val (.long pp), .second, .val (.long q2), .second, .val (.long lo), .second, .val (.long pk), .second, .val (.long hi), .second, .val (.double dl), .second, .val (.double dp), .second, .val (.double dr), .second, .val (.ref ob), .val (.int md), .val (.int kk), .val (.double d179), .second, .val (.double rs), .second, .val (.double d210), .second] [])) _
          refine XS.iconst X29.here hx rfl (hb hby at_221) ?_
          show Steps p.tables e below (T29.setTop (mkF m 222 #[.val (.int y1), .val (.int y2), .val (.int y3), .val (.int y4), .val (.int y5), .val (.int y6), .val (.long pp), .second, .val (.long q2), .second, .val (.long lo), .second, .val (.long pk), .second, .val (.long hi), .second, .val (.double dl), .second, .val (.double dp), .second, .val (.double dr), .second, .val (.ref ob), .val (.int md), .val (.int kk), .val (.double d179), .second, .val (.double rs), .second, .val (.double d210), .second] [(.int (1 : Int32))])) _
          refine XS.goto X29.here hx rfl (pc0 := 222) (pc' := 226) rfl (hb hby at_222) (by decide) (by decide) ?_
          show Steps p.tables e below (T29.setTop (mkF m 226 #[.val (.int y1), .val (.int y2), .val (.int y3), .val (.int y4), .val (.int y5), .val (.int y6), .val (.long pp), .second, .val (.long q2), .second, .val (.long lo), .second, .val (.long pk), .second, .val (.long hi), .second, .val (.double dl), .second, .val (.double dp), .second, .val (.double dr), .second, .val (.ref ob), .val (.int md), .val (.int kk), .val (.double d179), .second, .val (.double rs), .second, .val (.double d210), .second] [(.int (1 : Int32))])) _
          exact k)
        obtain ⟨fs, hr, hrun, hended, hW, hsame⟩ := X29.leave (v := (some (.int (1 : Int32)))) (fun h => by rw [Bd.returns] at h; cases h)
        refine ⟨_, _, pre0 _ (c33 _ (retN X29 hx (t := .boolean) Bd.returns (by simp) (hb hby at_226) hr)), hrun, hended, _, _, rfl, ?_, ⟨_, rfl⟩, hW, hsame.mono (by decide) (by decide)⟩
        show Q_0 Z y1 y2 y3 y4 y5 y6 h0 n0 _ T29.heap _
        rw [e29]
        exact ⟨rfl, M29⟩
    · skip
      have c34 : ∀ t, Steps p.tables e below (T15.setTop (mkF m 230 #[.val (.int y1), .val (.int y2), .val (.int y3), .val (.int y4), .val (.int y5), .val (.int y6), .val (.long pp), .second, .val (.long q2), .second, .val (.long lo), .second, .val (.long pk), .second, .val (.long hi), .second, .val (.double dl), .second, .val (.double dp), .second, .val (.double dr), .second, .val (.ref ob), .val (.int md), .val (.int kk), .unset, .unset, .unset, .unset, .unset, .unset] [(.int (2 : Int32)), (.int md)])) t → Steps p.tables e below (s₁.setTop (entryFrame m #[(.int y1), (.int y2), (.int y3), (.int y4), (.int y5), (.int y6)] maxLocals)) t := fun t k => c27 t (by
        show Steps p.tables e below (T15.setTop (mkF m 167 #[.val (.int y1), .val (.int y2), .val (.int y3), .val (.int y4), .val (.int y5), .val (.int y6), .val (.long pp), .second, .val (.long q2), .second, .val (.long lo), .second, .val (.long pk), .second, .val (.long hi), .second, .val (.double dl), .second, .val (.double dp), .second, .val (.double dr), .second, .val (.ref ob), .val (.int md), .val (.int kk), .unset, .unset, .unset, .unset, .unset, .unset] [(.int (1 : Int32)), (.int md)])) _
        refine XS.icmpYes X15.here hx rfl (pc0 := 167) (pc' := 227) rfl (hb hby at_167) rfl (XT.ii_ne_t q167) (by decide) (by decide) ?_
        show Steps p.tables e below (T15.setTop (mkF m 227 #[.val (.int y1), .val (.int y2), .val (.int y3), .val (.int y4), .val (.int y5), .val (.int y6), .val (.long pp), .second, .val (.long q2), .second, .val (.long lo), .second, .val (.long pk), .second, .val (.long hi), .second, .val (.double dl), .second, .val (.double dp), .second, .val (.double dr), .second, .val (.ref ob), .val (.int md), .val (.int kk), .unset, .unset, .unset, .unset, .unset, .unset] [])) _
        refine XS.iload X15.here hx rfl (hb hby at_227) rfl ?_
        show Steps p.tables e below (T15.setTop (mkF m 229 #[.val (.int y1), .val (.int y2), .val (.int y3), .val (.int y4), .val (.int y5), .val (.int y6), .val (.long pp), .second, .val (.long q2), .second, .val (.long lo), .second, .val (.long pk), .second, .val (.long hi), .second, .val (.double dl), .second, .val (.double dp), .second, .val (.double dr), .second, .val (.ref ob), .val (.int md), .val (.int kk), .unset, .unset, .unset, .unset, .unset, .unset] [(.int md)])) _
        refine XS.iconst X15.here hx rfl (hb hby at_229) ?_
        show Steps p.tables e below (T15.setTop (mkF m 230 #[.val (.int y1), .val (.int y2), .val (.int y3), .val (.int y4), .val (.int y5), .val (.int y6), .val (.long pp), .second, .val (.long q2), .second, .val (.long lo), .second, .val (.long pk), .second, .val (.long hi), .second, .val (.double dl), .second, .val (.double dp), .second, .val (.double dr), .second, .val (.ref ob), .val (.int md), .val (.int kk), .unset, .unset, .unset, .unset, .unset, .unset] [(.int (2 : Int32)), (.int md)])) _
        exact k)
      by_cases q230 : md = (2 : Int32)
      · skip
        obtain ⟨d244, hd244⟩ : ∃ v : UInt64, FP.l2d ((lo - (1 : Int64)) - ((y5 &&& (16777215 : Int32)).toInt64)) = v := ⟨_, rfl⟩
        have M24 := m24 y5
        have X1 : (lo - (1 : Int64) - (y5 &&& (16777215 : Int32)).toInt64).toInt = lo.toInt - 1 - (y5 &&& (16777215 : Int32)).toInt64.toInt := by
          have e1 : (1 : Int64).toInt = 1 := by decide
          have e2 := Kit.i64_sub (x := lo) (y := 1) (by omega) (by omega)
          rw [Kit.i64_sub (by omega) (by omega)]; omega
        have Dx : DS (lo.toInt - 1 - (y5 &&& (16777215 : Int32)).toInt64.toInt) 0 d244 := by rw [← hd244, ← X1]; exact DS.l2d (by omega)
        have c35 : ∀ t, Steps p.tables e below (T15.setTop (mkF m 251 #[.val (.int y1), .val (.int y2), .val (.int y3), .val (.int y4), .val (.int y5), .val (.int y6), .val (.long pp), .second, .val (.long q2), .second, .val (.long lo), .second, .val (.long pk), .second, .val (.long hi), .second, .val (.double dl), .second, .val (.double dp), .second, .val (.double dr), .second, .val (.ref ob), .val (.int md), .val (.int kk), .val (.double d244), .second, .unset, .unset, .unset, .unset] [(.double d244), (.ref ob)])) t → Steps p.tables e below (s₁.setTop (entryFrame m #[(.int y1), (.int y2), (.int y3), (.int y4), (.int y5), (.int y6)] maxLocals)) t := fun t k => c34 t (by
          show Steps p.tables e below (T15.setTop (mkF m 230 #[.val (.int y1), .val (.int y2), .val (.int y3), .val (.int y4), .val (.int y5), .val (.int y6), .val (.long pp), .second, .val (.long q2), .second, .val (.long lo), .second, .val (.long pk), .second, .val (.long hi), .second, .val (.double dl), .second, .val (.double dp), .second, .val (.double dr), .second, .val (.ref ob), .val (.int md), .val (.int kk), .unset, .unset, .unset, .unset, .unset, .unset] [(.int (2 : Int32)), (.int md)])) _
          refine XS.icmpNo X15.here hx rfl (hb hby at_230) rfl (XT.ii_ne_f q230) ?_
          show Steps p.tables e below (T15.setTop (mkF m 233 #[.val (.int y1), .val (.int y2), .val (.int y3), .val (.int y4), .val (.int y5), .val (.int y6), .val (.long pp), .second, .val (.long q2), .second, .val (.long lo), .second, .val (.long pk), .second, .val (.long hi), .second, .val (.double dl), .second, .val (.double dp), .second, .val (.double dr), .second, .val (.ref ob), .val (.int md), .val (.int kk), .unset, .unset, .unset, .unset, .unset, .unset] [])) _
          refine XT.lload X15.here hx rfl (hb hby at_233) rfl ?_
          show Steps p.tables e below (T15.setTop (mkF m 235 #[.val (.int y1), .val (.int y2), .val (.int y3), .val (.int y4), .val (.int y5), .val (.int y6), .val (.long pp), .second, .val (.long q2), .second, .val (.long lo), .second, .val (.long pk), .second, .val (.long hi), .second, .val (.double dl), .second, .val (.double dp), .second, .val (.double dr), .second, .val (.ref ob), .val (.int md), .val (.int kk), .unset, .unset, .unset, .unset, .unset, .unset] [(.long lo)])) _
          refine XT.lconst X15.here hx rfl (hb hby at_235) ?_
          show Steps p.tables e below (T15.setTop (mkF m 236 #[.val (.int y1), .val (.int y2), .val (.int y3), .val (.int y4), .val (.int y5), .val (.int y6), .val (.long pp), .second, .val (.long q2), .second, .val (.long lo), .second, .val (.long pk), .second, .val (.long hi), .second, .val (.double dl), .second, .val (.double dp), .second, .val (.double dr), .second, .val (.ref ob), .val (.int md), .val (.int kk), .unset, .unset, .unset, .unset, .unset, .unset] [(.long (1 : Int64)), (.long lo)])) _
          refine XT.lsub X15.here hx rfl (hb hby at_236) rfl ?_
          show Steps p.tables e below (T15.setTop (mkF m 237 #[.val (.int y1), .val (.int y2), .val (.int y3), .val (.int y4), .val (.int y5), .val (.int y6), .val (.long pp), .second, .val (.long q2), .second, .val (.long lo), .second, .val (.long pk), .second, .val (.long hi), .second, .val (.double dl), .second, .val (.double dp), .second, .val (.double dr), .second, .val (.ref ob), .val (.int md), .val (.int kk), .unset, .unset, .unset, .unset, .unset, .unset] [(.long (lo - (1 : Int64)))])) _
          refine XS.iload X15.here hx rfl (hb hby at_237) rfl ?_
          show Steps p.tables e below (T15.setTop (mkF m 239 #[.val (.int y1), .val (.int y2), .val (.int y3), .val (.int y4), .val (.int y5), .val (.int y6), .val (.long pp), .second, .val (.long q2), .second, .val (.long lo), .second, .val (.long pk), .second, .val (.long hi), .second, .val (.double dl), .second, .val (.double dp), .second, .val (.double dr), .second, .val (.ref ob), .val (.int md), .val (.int kk), .unset, .unset, .unset, .unset, .unset, .unset] [(.int y5), (.long (lo - (1 : Int64)))])) _
          refine Jvm.Stand.ldcI X15 hx hown (mvT hZ (hw _ (List.mem_of_getElem? (i := 32) rfl))) rfl (hb hby at_239) ?_
          show Steps p.tables e below (T15.setTop (mkF m 241 #[.val (.int y1), .val (.int y2), .val (.int y3), .val (.int y4), .val (.int y5), .val (.int y6), .val (.long pp), .second, .val (.long q2), .second, .val (.long lo), .second, .val (.long pk), .second, .val (.long hi), .second, .val (.double dl), .second, .val (.double dp), .second, .val (.double dr), .second, .val (.ref ob), .val (.int md), .val (.int kk), .unset, .unset, .unset, .unset, .unset, .unset] [(.int (16777215 : Int32)), (.int y5), (.long (lo - (1 : Int64)))])) _
          refine XS.iand X15.here hx rfl (hb hby at_241) rfl ?_
          show Steps p.tables e below (T15.setTop (mkF m 242 #[.val (.int y1), .val (.int y2), .val (.int y3), .val (.int y4), .val (.int y5), .val (.int y6), .val (.long pp), .second, .val (.long q2), .second, .val (.long lo), .second, .val (.long pk), .second, .val (.long hi), .second, .val (.double dl), .second, .val (.double dp), .second, .val (.double dr), .second, .val (.ref ob), .val (.int md), .val (.int kk), .unset, .unset, .unset, .unset, .unset, .unset] [(.int (y5 &&& (16777215 : Int32))), (.long (lo - (1 : Int64)))])) _
          refine XT.i2l X15.here hx rfl (hb hby at_242) rfl ?_
          show Steps p.tables e below (T15.setTop (mkF m 243 #[.val (.int y1), .val (.int y2), .val (.int y3), .val (.int y4), .val (.int y5), .val (.int y6), .val (.long pp), .second, .val (.long q2), .second, .val (.long lo), .second, .val (.long pk), .second, .val (.long hi), .second, .val (.double dl), .second, .val (.double dp), .second, .val (.double dr), .second, .val (.ref ob), .val (.int md), .val (.int kk), .unset, .unset, .unset, .unset, .unset, .unset] [(.long ((y5 &&& (16777215 : Int32)).toInt64)), (.long (lo - (1 : Int64)))])) _
          refine XT.lsub X15.here hx rfl (hb hby at_243) rfl ?_
          show Steps p.tables e below (T15.setTop (mkF m 244 #[.val (.int y1), .val (.int y2), .val (.int y3), .val (.int y4), .val (.int y5), .val (.int y6), .val (.long pp), .second, .val (.long q2), .second, .val (.long lo), .second, .val (.long pk), .second, .val (.long hi), .second, .val (.double dl), .second, .val (.double dp), .second, .val (.double dr), .second, .val (.ref ob), .val (.int md), .val (.int kk), .unset, .unset, .unset, .unset, .unset, .unset] [(.long ((lo - (1 : Int64)) - ((y5 &&& (16777215 : Int32)).toInt64)))])) _
          refine XS.l2dS X15.here hx rfl (hb hby at_244) rfl hd244 ?_
          show Steps p.tables e below (T15.setTop (mkF m 245 #[.val (.int y1), .val (.int y2), .val (.int y3), .val (.int y4), .val (.int y5), .val (.int y6), .val (.long pp), .second, .val (.long q2), .second, .val (.long lo), .second, .val (.long pk), .second, .val (.long hi), .second, .val (.double dl), .second, .val (.double dp), .second, .val (.double dr), .second, .val (.ref ob), .val (.int md), .val (.int kk), .unset, .unset, .unset, .unset, .unset, .unset] [(.double d244)])) _
          refine XS.dstore X15.here hx rfl (hb hby at_245) rfl (l' := #[.val (.int y1), .val (.int y2), .val (.int y3), .val (.int y4), .val (.int y5), .val (.int y6), .val (.long pp), .second, .val (.long q2), .second, .val (.long lo), .second, .val (.long pk), .second, .val (.long hi), .second, .val (.double dl), .second, .val (.double dp), .second, .val (.double dr), .second, .val (.ref ob), .val (.int md), .val (.int kk), .val (.double d244), .second, .unset, .unset, .unset, .unset]) rfl ?_
          show Steps p.tables e below (T15.setTop (mkF m 247 #[.val (.int y1), .val (.int y2), .val (.int y3), .val (.int y4), .val (.int y5), .val (.int y6), .val (.long pp), .second, .val (.long q2), .second, .val (.long lo), .second, .val (.long pk), .second, .val (.long hi), .second, .val (.double dl), .second, .val (.double dp), .second, .val (.double dr), .second, .val (.ref ob), .val (.int md), .val (.int kk), .val (.double d244), .second, .unset, .unset, .unset, .unset] [])) _
          refine XS.aload X15.here hx rfl (hb hby at_247) rfl rfl ?_
          show Steps p.tables e below (T15.setTop (mkF m 249 #[.val (.int y1), .val (.int y2), .val (.int y3), .val (.int y4), .val (.int y5), .val (.int y6), .val (.long pp), .second, .val (.long q2), .second, .val (.long lo), .second, .val (.long pk), .second, .val (.long hi), .second, .val (.double dl), .second, .val (.double dp), .second, .val (.double dr), .second, .val (.ref ob), .val (.int md), .val (.int kk), .val (.double d244), .second, .unset, .unset, .unset, .unset] [(.ref ob)])) _
          refine XS.dload X15.here hx rfl (hb hby at_249) rfl ?_
          show Steps p.tables e below (T15.setTop (mkF m 251 #[.val (.int y1), .val (.int y2), .val (.int y3), .val (.int y4), .val (.int y5), .val (.int y6), .val (.long pp), .second, .val (.long q2), .second, .val (.long lo), .second, .val (.long pk), .second, .val (.long hi), .second, .val (.double dl), .second, .val (.double dp), .second, .val (.double dr), .second, .val (.ref ob), .val (.int md), .val (.int kk), .val (.double d244), .second, .unset, .unset, .unset, .unset] [(.double d244), (.ref ob)])) _
          exact k)
        obtain ⟨cq36, kq36, q36a, q36b, q36c⟩ := isOf hZ rfl G15_0
        obtain ⟨_, _, ⟨T36, L36, k36', n36⟩, -, X36, ⟨Lc36, hQ36, l36, y36, z36⟩, st36⟩ := X15.virtualBack hx (y := (⟨"com/example/foglane/foglane/uncertainty/FuzzyRuleBase$Term", "membership", "(D)D"⟩ : MethodName)) (z := (⟨"com/example/foglane/foglane/uncertainty/FuzzyRuleBase$Term", "membership", "(D)D"⟩ : MethodName)) hown (mvT hZ (hw _ (List.mem_of_getElem? (i := 33) rfl))) (mvT hZ (hw _ (List.mem_of_getElem? (i := 34) rfl))) (notFace_of_selects (args := #[]) (mvT hZ (hw _ (List.mem_of_getElem? (i := 36) rfl)))) (mvT hZ (hw _ (List.mem_of_getElem? (i := 36) rfl))) (mvT hZ (hw _ (List.mem_of_getElem? (i := 35) rfl))) (by decide) (backOf (W := 0) (rm_6 l Z a0 hw [] ob d244 dl dp dr lo.toInt pk.toInt hi.toInt (lo.toInt - 1 - (y5 &&& (16777215 : Int32)).toInt64.toInt) T15.heap n0 (Nat.le_trans (Nat.le_trans Z0 E9.1) K15.1) G15_1 G15_2 G15_3 Dl Dp Dr Dx (by omega)) hZ (hw _ (List.mem_of_getElem? (i := 37) rfl)) (hw _ (List.mem_of_getElem? (i := 4) rfl)) (by decide) (by decide)) q36a q36c (g := (mkF m 251 #[.val (.int y1), .val (.int y2), .val (.int y3), .val (.int y4), .val (.int y5), .val (.int y6), .val (.long pp), .second, .val (.long q2), .second, .val (.long lo), .second, .val (.long pk), .second, .val (.long hi), .second, .val (.double dl), .second, .val (.double dp), .second, .val (.double dr), .second, .val (.ref ob), .val (.int md), .val (.int kk), .val (.double d244), .second, .unset, .unset, .unset, .unset] [(.double d244), (.ref ob)])) rfl (by rw [hml]; rfl) (Steps.refl _) (argsL := [(.double d244)]) (rest := []) (lenOf pd__D_D rfl) rfl (by show 2 * 0 + _ ≤ _; exact Nat.le_of_eq rfl) (hb hby at_251) (fun _ _ => ⟨rfl, rfl, (by decide : 1 + 0 ≤ _), (by decide : 3 + 0 ≤ _)⟩)
        dsimp only [Pt.U, Pt.locs, Pt.cells, Pt.slots] at X36 l36 y36 z36 st36 hQ36
        subst l36 y36 z36
        obtain ⟨⟨rs, rfl, hrs⟩, N36, e36⟩ := hQ36
        have M36 := Fr.app M15 N36
        have c37 : ∀ t, Steps p.tables e below (T36.setTop (mkF m 254 #[.val (.int y1), .val (.int y2), .val (.int y3), .val (.int y4), .val (.int y5), .val (.int y6), .val (.long pp), .second, .val (.long q2), .second, .val (.long lo), .second, .val (.long pk), .second, .val (.long hi), .second, .val (.double dl), .second, .val (.double dp), .second, .val (.double dr), .second, .val (.ref ob), .val (.int md), .val (.int kk), .val (.double d244), .second, .unset, .unset, .unset, .unset] [(.double rs)])) t → Steps p.tables e below (s₁.setTop (entryFrame m #[(.int y1), (.int y2), (.int y3), (.int y4), (.int y5), (.int y6)] maxLocals)) t := fun t k => c35 t (st36.trans k)
        have hr0 : DS 0 0 rs := by
          rcases hrs with ⟨_, rfl⟩ | ⟨q, _⟩ | ⟨q, _⟩ | ⟨_, q, _⟩ <;> first | exact DS.zero | (exfalso; omega)
        obtain ⟨k255, hk255⟩ : ∃ v : Int32, cmpValue (FP.dcmp rs FP.dconst0) .l = v := ⟨_, rfl⟩
        have e255 : k255 = 0 := by rw [← hk255, hr0.cmp DS.zero .l, if_neg (by omega), if_pos rfl]
        have c38 : ∀ t, Steps p.tables e below (T36.setTop (mkF m 264 #[.val (.int y1), .val (.int y2), .val (.int y3), .val (.int y4), .val (.int y5), .val (.int y6), .val (.long pp), .second, .val (.long q2), .second, .val (.long lo), .second, .val (.long pk), .second, .val (.long hi), .second, .val (.double dl), .second, .val (.double dp), .second, .val (.double dr), .second, .val (.ref ob), .val (.int md), .val (.int kk), .val (.double d244), .second, .unset, .unset, .unset, .unset] [(.int (1 : Int32))])) t → Steps p.tables e below (s₁.setTop (entryFrame m #[(.int y1), (.int y2), (.int y3), (.int y4), (.int y5), (.int y6)] maxLocals)) t := fun t k => c37 t (by
          show Steps p.tables e below (T36.setTop (mkF m 254 #[.val (.int y1), .val (.int y2), .val (.int y3), .val (.int y4), .val (.int y5), .val (.int y6), .val (.long pp), .second, .val (.long q2), .second, .val (.long lo), .second, .val (.long pk), .second, .val (.long hi), .second, .val (.double dl), .second, .val (.double dp), .second, .val (.double dr), .second, .val (.ref ob), .val (.int md), .val (.int kk), .val (.double d244), .second, .unset, .unset, .unset, .unset] [(.double rs)])) _
          refine XS.dconst0 X36.here hx rfl (hb hby at_254) rfl ?_
          show Steps p.tables e below (T36.setTop (mkF m 255 #[.val (.int y1), .val (.int y2), .val (.int y3), .val (.int y4), .val (.int y5), .val (.int y6), .val (.long pp), .second, .val (.long q2), .second, .val (.long lo), .second, .val (.long pk), .second, .val (.long hi), .second, .val (.double dl), .second, .val (.double dp), .second, .val (.double dr), .second, .val (.ref ob), .val (.int md), .val (.int kk), .val (.double d244), .second, .unset, .unset, .unset, .unset] [(.double FP.dconst0), (.double rs)])) _
          refine XS.dcmpS X36.here hx rfl (hb hby at_255) rfl hk255 ?_
          show Steps p.tables e below (T36.setTop (mkF m 256 #[.val (.int y1), .val (.int y2), .val (.int y3), .val (.int y4), .val (.int y5), .val (.int y6), .val (.long pp), .second, .val (.long q2), .second, .val (.long lo), .second, .val (.long pk), .second, .val (.long hi), .second, .val (.double dl), .second, .val (.double dp), .second, .val (.double dr), .second, .val (.ref ob), .val (.int md), .val (.int kk), .val (.double d244), .second, .unset, .unset, .unset, .unset] [(.int k255)])) _
          refine XS.ifNo X36.here hx rfl (hb hby at_256) rfl (XT.i0_ne_f e255) ?_
          show Steps p.tables e below (T36.setTop (mkF m 259 #[.val (.int y1), .val (.int y2), .val (.int y3), .val (.int y4), .val (.int y5), .val (.int y6), .val (.long pp), .second, .val (.long q2), .second, .val (.long lo), .second, .val (.long pk), .second, .val (.long hi), .second, .val (.double dl), .second, .val (.double dp), .second, .val (.double dr), .second, .val (.ref ob), .val (.int md), .val (.int kk), .val (.double d244), .second, .unset, .unset, .unset, .unset] [])) _
          refine XS.iconst X36.here hx rfl (hb hby at_259) ?_
          show Steps p.tables e below (T36.setTop (mkF m 260 #[.val (.int y1), .val (.int y2), .val (.int y3), .val (.int y4), .val (.int y5), .val (.int y6), .val (.long pp), .second, .val (.long q2), .second, .val (.long lo), .second, .val (.long pk), .second, .val (.long hi), .second, .val (.double dl), .second, .val (.double dp), .second, .val (.double dr), .second, .val (.ref ob), .val (.int md), .val (.int kk), .val (.double d244), .second, .unset, .unset, .unset, .unset] [(.int (1 : Int32))])) _
          refine XS.goto X36.here hx rfl (pc0 := 260) (pc' := 264) rfl (hb hby at_260) (by decide) (by decide) ?_
          show Steps p.tables e below (T36.setTop (mkF m 264 #[.val (.int y1), .val (.int y2), .val (.int y3), .val (.int y4), .val (.int y5), .val (.int y6), .val (.long pp), .second, .val (.long q2), .second, .val (.long lo), .second, .val (.long pk), .second, .val (.long hi), .second, .val (.double dl), .second, .val (.double dp), .second, .val (.double dr), .second, .val (.ref ob), .val (.int md), .val (.int kk), .val (.double d244), .second, .unset, .unset, .unset, .unset] [(.int (1 : Int32))])) _
          exact k)
        obtain ⟨fs, hr, hrun, hended, hW, hsame⟩ := X36.leave (v := (some (.int (1 : Int32)))) (fun h => by rw [Bd.returns] at h; cases h)
        refine ⟨_, _, pre0 _ (c38 _ (retN X36 hx (t := .boolean) Bd.returns (by simp) (hb hby at_264) hr)), hrun, hended, _, _, rfl, ?_, ⟨_, rfl⟩, hW, hsame.mono (by decide) (by decide)⟩
        show Q_0 Z y1 y2 y3 y4 y5 y6 h0 n0 _ T36.heap _
        rw [e36]
        exact ⟨rfl, M36⟩
      · skip
        have c39 : ∀ t, Steps p.tables e below (T15.setTop (mkF m 268 #[.val (.int y1), .val (.int y2), .val (.int y3), .val (.int y4), .val (.int y5), .val (.int y6), .val (.long pp), .second, .val (.long q2), .second, .val (.long lo), .second, .val (.long pk), .second, .val (.long hi), .second, .val (.double dl), .second, .val (.double dp), .second, .val (.double dr), .second, .val (.ref ob), .val (.int md), .val (.int kk), .unset, .unset, .unset, .unset, .unset, .unset] [(.int (3 : Int32)), (.int md)])) t → Steps p.tables e below (s₁.setTop (entryFrame m #[(.int y1), (.int y2), (.int y3), (.int y4), (.int y5), (.int y6)] maxLocals)) t := fun t k => c34 t (by
          show Steps p.tables e below (T15.setTop (mkF m 230 #[.val (.int y1), .val (.int y2), .val (.int y3), .val (.int y4), .val (.int y5), .val (.int y6), .val (.long pp), .second, .val (.long q2), .second, .val (.long lo), .second, .val (.long pk), .second, .val (.long hi), .second, .val (.double dl), .second, .val (.double dp), .second, .val (.double dr), .second, .val (.ref ob), .val (.int md), .val (.int kk), .unset, .unset, .unset, .unset, .unset, .unset] [(.int (2 : Int32)), (.int md)])) _
          refine XS.icmpYes X15.here hx rfl (pc0 := 230) (pc' := 265) rfl (hb hby at_230) rfl (XT.ii_ne_t q230) (by decide) (by decide) ?_
          show Steps p.tables e below (T15.setTop (mkF m 265 #[.val (.int y1), .val (.int y2), .val (.int y3), .val (.int y4), .val (.int y5), .val (.int y6), .val (.long pp), .second, .val (.long q2), .second, .val (.long lo), .second, .val (.long pk), .second, .val (.long hi), .second, .val (.double dl), .second, .val (.double dp), .second, .val (.double dr), .second, .val (.ref ob), .val (.int md), .val (.int kk), .unset, .unset, .unset, .unset, .unset, .unset] [])) _
          refine XS.iload X15.here hx rfl (hb hby at_265) rfl ?_
          show Steps p.tables e below (T15.setTop (mkF m 267 #[.val (.int y1), .val (.int y2), .val (.int y3), .val (.int y4), .val (.int y5), .val (.int y6), .val (.long pp), .second, .val (.long q2), .second, .val (.long lo), .second, .val (.long pk), .second, .val (.long hi), .second, .val (.double dl), .second, .val (.double dp), .second, .val (.double dr), .second, .val (.ref ob), .val (.int md), .val (.int kk), .unset, .unset, .unset, .unset, .unset, .unset] [(.int md)])) _
          refine XS.iconst X15.here hx rfl (hb hby at_267) ?_
          show Steps p.tables e below (T15.setTop (mkF m 268 #[.val (.int y1), .val (.int y2), .val (.int y3), .val (.int y4), .val (.int y5), .val (.int y6), .val (.long pp), .second, .val (.long q2), .second, .val (.long lo), .second, .val (.long pk), .second, .val (.long hi), .second, .val (.double dl), .second, .val (.double dp), .second, .val (.double dr), .second, .val (.ref ob), .val (.int md), .val (.int kk), .unset, .unset, .unset, .unset, .unset, .unset] [(.int (3 : Int32)), (.int md)])) _
          exact k)
        by_cases q268 : md = (3 : Int32)
        · skip
          obtain ⟨d282, hd282⟩ : ∃ v : UInt64, FP.l2d ((hi + (1 : Int64)) + ((y5 &&& (16777215 : Int32)).toInt64)) = v := ⟨_, rfl⟩
          have M24 := m24 y5
          have X1 : (hi + (1 : Int64) + (y5 &&& (16777215 : Int32)).toInt64).toInt = hi.toInt + 1 + (y5 &&& (16777215 : Int32)).toInt64.toInt := by
            have e1 : (1 : Int64).toInt = 1 := by decide
            have e2 := Kit.i64_add (x := hi) (y := 1) (by omega) (by omega)
            rw [Kit.i64_add (by omega) (by omega)]; omega
          have Dx : DS (hi.toInt + 1 + (y5 &&& (16777215 : Int32)).toInt64.toInt) 0 d282 := by rw [← hd282, ← X1]; exact DS.l2d (by omega)
          have c40 : ∀ t, Steps p.tables e below (T15.setTop (mkF m 289 #[.val (.int y1), .val (.int y2), .val (.int y3), .val (.int y4), .val (.int y5), .val (.int y6), .val (.long pp), .second, .val (.long q2), .second, .val (.long lo), .second, .val (.long pk), .second, .val (.long hi), .second, .val (.double dl), .second, .val (.double dp), .second, .val (.double dr), .second, .val (.ref ob), .val (.int md), .val (.int kk), .val (.double d282), .second, .unset, .unset, .unset, .unset] [(.double d282), (.ref ob)])) t → Steps p.tables e below (s₁.setTop (entryFrame m #[(.int y1), (.int y2), (.int y3), (.int y4), (.int y5), (.int y6)] maxLocals)) t := fun t k => c39 t (by
            show Steps p.tables e below (T15.setTop (mkF m 268 #[.val (.int y1), .val (.int y2), .val (.int y3), .val (.int y4), .val (.int y5), .val (.int y6), .val (.long pp), .second, .val (.long q2), .second, .val (.long lo), .second, .val (.long pk), .second, .val (.long hi), .second, .val (.double dl), .second, .val (.double dp), .second, .val (.double dr), .second, .val (.ref ob), .val (.int md), .val (.int kk), .unset, .unset, .unset, .unset, .unset, .unset] [(.int (3 : Int32)), (.int md)])) _
            refine XS.icmpNo X15.here hx rfl (hb hby at_268) rfl (XT.ii_ne_f q268) ?_
            show Steps p.tables e below (T15.setTop (mkF m 271 #[.val (.int y1), .val (.int y2), .val (.int y3), .val (.int y4), .val (.int y5), .val (.int y6), .val (.long pp), .second, .val (.long q2), .second, .val (.long lo), .second, .val (.long pk), .second, .val (.long hi), .second, .val (.double dl), .second, .val (.double dp), .second, .val (.double dr), .second, .val (.ref ob), .val (.int md), .val (.int kk), .unset, .unset, .unset, .unset, .unset, .unset] [])) _
            refine XT.lload X15.here hx rfl (hb hby at_271) rfl ?_
            show Steps p.tables e below (T15.setTop (mkF m 273 #[.val (.int y1), .val (.int y2), .val (.int y3), .val (.int y4), .val (.int y5), .val (.int y6), .val (.long pp), .second, .val (.long q2), .second, .val (.long lo), .second, .val (.long pk), .second, .val (.long hi), .second, .val (.double dl), .second, .val (.double dp), .second, .val (.double dr), .second, .val (.ref ob), .val (.int md), .val (.int kk), .unset, .unset, .unset, .unset, .unset, .unset] [(.long hi)])) _
            refine XT.lconst X15.here hx rfl (hb hby at_273) ?_
            show Steps p.tables e below (T15.setTop (mkF m 274 #[.val (.int y1), .val (.int y2), .val (.int y3), .val (.int y4), .val (.int y5), .val (.int y6), .val (.long pp), .second, .val (.long q2), .second, .val (.long lo), .second, .val (.long pk), .second, .val (.long hi), .second, .val (.double dl), .second, .val (.double dp), .second, .val (.double dr), .second, .val (.ref ob), .val (.int md), .val (.int kk), .unset, .unset, .unset, .unset, .unset, .unset] [(.long (1 : Int64)), (.long hi)])) _
            refine XT.ladd X15.here hx rfl (hb hby at_274) rfl ?_
            show Steps p.tables e below (T15.setTop (mkF m 275 #[.val (.int y1), .val (.int y2), .val (.int y3), .val (.int y4), .val (.int y5), .val (.int y6), .val (.long pp), .second, .val (.long q2), .second, .val (.long lo), .second, .val (.long pk), .second, .val (.long hi), .second, .val (.double dl), .second, .val (.double dp), .second, .val (.double dr), .second, .val (.ref ob), .val (.int md), .val (.int kk), .unset, .unset, .unset, .unset, .unset, .unset] [(.long (hi + (1 : Int64)))])) _
            refine XS.iload X15.here hx rfl (hb hby at_275) rfl ?_
            show Steps p.tables e below (T15.setTop (mkF m 277 #[.val (.int y1), .val (.int y2), .val (.int y3), .val (.int y4), .val (.int y5), .val (.int y6), .val (.long pp), .second, .val (.long q2), .second, .val (.long lo), .second, .val (.long pk), .second, .val (.long hi), .second, .val (.double dl), .second, .val (.double dp), .second, .val (.double dr), .second, .val (.ref ob), .val (.int md), .val (.int kk), .unset, .unset, .unset, .unset, .unset, .unset] [(.int y5), (.long (hi + (1 : Int64)))])) _
            refine Jvm.Stand.ldcI X15 hx hown (mvT hZ (hw _ (List.mem_of_getElem? (i := 32) rfl))) rfl (hb hby at_277) ?_
            show Steps p.tables e below (T15.setTop (mkF m 279 #[.val (.int y1), .val (.int y2), .val (.int y3), .val (.int y4), .val (.int y5), .val (.int y6), .val (.long pp), .second, .val (.long q2), .second, .val (.long lo), .second, .val (.long pk), .second, .val (.long hi), .second, .val (.double dl), .second, .val (.double dp), .second, .val (.double dr), .second, .val (.ref ob), .val (.int md), .val (.int kk), .unset, .unset, .unset, .unset, .unset, .unset] [(.int (16777215 : Int32)), (.int y5), (.long (hi + (1 : Int64)))])) _
            refine XS.iand X15.here hx rfl (hb hby at_279) rfl ?_
            show Steps p.tables e below (T15.setTop (mkF m 280 #[.val (.int y1), .val (.int y2), .val (.int y3), .val (.int y4), .val (.int y5), .val (.int y6), .val (.long pp), .second, .val (.long q2), .second, .val (.long lo), .second, .val (.long pk), .second, .val (.long hi), .second, .val (.double dl), .second, .val (.double dp), .second, .val (.double dr), .second, .val (.ref ob), .val (.int md), .val (.int kk), .unset, .unset, .unset, .unset, .unset, .unset] [(.int (y5 &&& (16777215 : Int32))), (.long (hi + (1 : Int64)))])) _
            refine XT.i2l X15.here hx rfl (hb hby at_280) rfl ?_
            show Steps p.tables e below (T15.setTop (mkF m 281 #[.val (.int y1), .val (.int y2), .val (.int y3), .val (.int y4), .val (.int y5), .val (.int y6), .val (.long pp), .second, .val (.long q2), .second, .val (.long lo), .second, .val (.long pk), .second, .val (.long hi), .second, .val (.double dl), .second, .val (.double dp), .second, .val (.double dr), .second, .val (.ref ob), .val (.int md), .val (.int kk), .unset, .unset, .unset, .unset, .unset, .unset] [(.long ((y5 &&& (16777215 : Int32)).toInt64)), (.long (hi + (1 : Int64)))])) _
            refine XT.ladd X15.here hx rfl (hb hby at_281) rfl ?_
            show Steps p.tables e below (T15.setTop (mkF m 282 #[.val (.int y1), .val (.int y2), .val (.int y3), .val (.int y4), .val (.int y5), .val (.int y6), .val (.long pp), .second, .val (.long q2), .second, .val (.long lo), .second, .val (.long pk), .second, .val (.long hi), .second, .val (.double dl), .second, .val (.double dp), .second, .val (.double dr), .second, .val (.ref ob), .val (.int md), .val (.int kk), .unset, .unset, .unset, .unset, .unset, .unset] [(.long ((hi + (1 : Int64)) + ((y5 &&& (16777215 : Int32)).toInt64)))])) _
            refine XS.l2dS X15.here hx rfl (hb hby at_282) rfl hd282 ?_
            show Steps p.tables e below (T15.setTop (mkF m 283 #[.val (.int y1), .val (.int y2), .val (.int y3), .val (.int y4), .val (.int y5), .val (.int y6), .val (.long pp), .second, .val (.long q2), .second, .val (.long lo), .second, .val (.long pk), .second, .val (.long hi), .second, .val (.double dl), .second, .val (.double dp), .second, .val (.double dr), .second, .val (.ref ob), .val (.int md), .val (.int kk), .unset, .unset, .unset, .unset, .unset, .unset] [(.double d282)])) _
            refine XS.dstore X15.here hx rfl (hb hby at_283) rfl (l' := #[.val (.int y1), .val (.int y2), .val (.int y3), .val (.int y4), .val (.int y5), .val (.int y6), .val (.long pp), .second, .val (.long q2), .second, .val (.long lo), .second, .val (.long pk), .second, .val (.long hi), .second, .val (.double dl), .second, .val (.double dp), .second, .val (.double dr), .second, .val (.ref ob), .val (.int md), .val (.int kk), .val (.double d282), .second, .unset, .unset, .unset, .unset]) rfl ?_
            show Steps p.tables e below (T15.setTop (mkF m 285 #[.val (.int y1), .val (.int y2), .val (.int y3), .val (.int y4), .val (.int y5), .val (.int y6), .val (.long pp), .second, .val (.long q2), .second, .val (.long lo), .second, .val (.long pk), .second, .val (.long hi), .second, .val (.double dl), .second, .val (.double dp), .second, .val (.double dr), .second, .val (.ref ob), .val (.int md), .val (.int kk), .val (.double d282), .second, .unset, .unset, .unset, .unset] [])) _
            refine XS.aload X15.here hx rfl (hb hby at_285) rfl rfl ?_
            show Steps p.tables e below (T15.setTop (mkF m 287 #[.val (.int y1), .val (.int y2), .val (.int y3), .val (.int y4), .val (.int y5), .val (.int y6), .val (.long pp), .second, .val (.long q2), .second, .val (.long lo), .second, .val (.long pk), .second, .val (.long hi), .second, .val (.double dl), .second, .val (.double dp), .second, .val (.double dr), .second, .val (.ref ob), .val (.int md), .val (.int kk), .val (.double d282), .second, .unset, .unset, .unset, .unset] [(.ref ob)])) _
            refine XS.dload X15.here hx rfl (hb hby at_287) rfl ?_
            show Steps p.tables e below (T15.setTop (mkF m 289 #[.val (.int y1), .val (.int y2), .val (.int y3), .val (.int y4), .val (.int y5), .val (.int y6), .val (.long pp), .second, .val (.long q2), .second, .val (.long lo), .second, .val (.long pk), .second, .val (.long hi), .second, .val (.double dl), .second, .val (.double dp), .second, .val (.double dr), .second, .val (.ref ob), .val (.int md), .val (.int kk), .val (.double d282), .second, .unset, .unset, .unset, .unset] [(.double d282), (.ref ob)])) _
            exact k)
          obtain ⟨cq41, kq41, q41a, q41b, q41c⟩ := isOf hZ rfl G15_0
          obtain ⟨_, _, ⟨T41, L41, k41', n41⟩, -, X41, ⟨Lc41, hQ41, l41, y41, z41⟩, st41⟩ := X15.virtualBack hx (y := (⟨"com/example/foglane/foglane/uncertainty/FuzzyRuleBase$Term", "membership", "(D)D"⟩ : MethodName)) (z := (⟨"com/example/foglane/foglane/uncertainty/FuzzyRuleBase$Term", "membership", "(D)D"⟩ : MethodName)) hown (mvT hZ (hw _ (List.mem_of_getElem? (i := 33) rfl))) (mvT hZ (hw _ (List.mem_of_getElem? (i := 34) rfl))) (notFace_of_selects (args := #[]) (mvT hZ (hw _ (List.mem_of_getElem? (i := 36) rfl)))) (mvT hZ (hw _ (List.mem_of_getElem? (i := 36) rfl))) (mvT hZ (hw _ (List.mem_of_getElem? (i := 35) rfl))) (by decide) (backOf (W := 0) (rm_6 l Z a0 hw [] ob d282 dl dp dr lo.toInt pk.toInt hi.toInt (hi.toInt + 1 + (y5 &&& (16777215 : Int32)).toInt64.toInt) T15.heap n0 (Nat.le_trans (Nat.le_trans Z0 E9.1) K15.1) G15_1 G15_2 G15_3 Dl Dp Dr Dx (by omega)) hZ (hw _ (List.mem_of_getElem? (i := 37) rfl)) (hw _ (List.mem_of_getElem? (i := 4) rfl)) (by decide) (by decide)) q41a q41c (g := (mkF m 289 #[.val (.int y1), .val (.int y2), .val (.int y3), .val (.int y4), .val (.int y5), .val (.int y6), .val (.long pp), .second, .val (.long q2), .second, .val (.long lo), .second, .val (.long pk), .second, .val (.long hi), .second, .val (.double dl), .second, .val (.double dp), .second, .val (.double dr), .second, .val (.ref ob), .val (.int md), .val (.int kk), .val (.double d282), .second, .unset, .unset, .unset, .unset] [(.double d282), (.ref ob)])) rfl (by rw [hml]; rfl) (Steps.refl _) (argsL := [(.double d282)]) (rest := []) (lenOf pd__D_D rfl) rfl (by show 2 * 0 + _ ≤ _; exact Nat.le_of_eq rfl) (hb hby at_289) (fun _ _ => ⟨rfl, rfl, (by decide : 1 + 0 ≤ _), (by decide : 3 + 0 ≤ _)⟩)
          dsimp only [Pt.U, Pt.locs, Pt.cells, Pt.slots] at X41 l41 y41 z41 st41 hQ41
          subst l41 y41 z41
          obtain ⟨⟨rs, rfl, hrs⟩, N41, e41⟩ := hQ41
          have M41 := Fr.app M15 N41
          have c42 : ∀ t, Steps p.tables e below (T41.setTop (mkF m 292 #[.val (.int y1), .val (.int y2), .val (.int y3), .val (.int y4), .val (.int y5), .val (.int y6), .val (.long pp), .second, .val (.long q2), .second, .val (.long lo), .second, .val (.long pk), .second, .val (.long hi), .second, .val (.double dl), .second, .val (.double dp), .second, .val (.double dr), .second, .val (.ref ob), .val (.int md), .val (.int kk), .val (.double d282), .second, .unset, .unset, .unset, .unset] [(.double rs)])) t → Steps p.tables e below (s₁.setTop (entryFrame m #[(.int y1), (.int y2), (.int y3), (.int y4), (.int y5), (.int y6)] maxLocals)) t := fun t k => c40 t (st41.trans k)
          have hr0 : DS 0 0 rs := by
            rcases hrs with ⟨_, rfl⟩ | ⟨q, _⟩ | ⟨_, q, _⟩ | ⟨q, _⟩ <;> first | exact DS.zero | (exfalso; omega)
          obtain ⟨k293, hk293⟩ : ∃ v : Int32, cmpValue (FP.dcmp rs FP.dconst0) .l = v := ⟨_, rfl⟩
          have e293 : k293 = 0 := by rw [← hk293, hr0.cmp DS.zero .l, if_neg (by omega), if_pos rfl]
          have c43 : ∀ t, Steps p.tables e below (T41.setTop (mkF m 302 #[.val (.int y1), .val (.int y2), .val (.int y3), .val (.int y4), .val (.int y5), .val (.int y6), .val (.long pp), .second, .val (.long q2), .second, .val (.long lo), .second, .val (.long pk), .second, .val (.long hi), .second, .val (.double dl), .second, .val (.double dp), .second, .val (.double dr), .second, .val (.ref ob), .val (.int md), .val (.int kk), .val (.double d282), .second, .unset, .unset, .unset, .unset] [(.int (1 : Int32))])) t → Steps p.tables e below (s₁.setTop (entryFrame m #[(.int y1), (.int y2), (.int y3), (.int y4), (.int y5), (.int y6)] maxLocals)) t := fun t k => c42 t (by
            show Steps p.tables e below (T41.setTop (mkF m 292 #[.val (.int y1), .val (.int y2), .val (.int y3), .val (.int y4), .val (.int y5), .val (.int y6), .val (.long pp), .second, .val (.long q2), .second, .val (.long lo), .second, .val (.long pk), .second, .val (.long hi), .second, .val (.double dl), .second, .val (.double dp), .second, .val (.double dr), .second, .val (.ref ob), .val (.int md), .val (.int kk), .val (.double d282), .second, .unset, .unset, .unset, .unset] [(.double rs)])) _
            refine XS.dconst0 X41.here hx rfl (hb hby at_292) rfl ?_
            show Steps p.tables e below (T41.setTop (mkF m 293 #[.val (.int y1), .val (.int y2), .val (.int y3), .val (.int y4), .val (.int y5), .val (.int y6), .val (.long pp), .second, .val (.long q2), .second, .val (.long lo), .second, .val (.long pk), .second, .val (.long hi), .second, .val (.double dl), .second, .val (.double dp), .second, .val (.double dr), .second, .val (.ref ob), .val (.int md), .val (.int kk), .val (.double d282), .second, .unset, .unset, .unset, .unset] [(.double FP.dconst0), (.double rs)])) _
            refine XS.dcmpS X41.here hx rfl (hb hby at_293) rfl hk293 ?_
            show Steps p.tables e below (T41.setTop (mkF m 294 #[.val (.int y1), .val (.int y2), .val (.int y3), .val (.int y4), .val (.int y5), .val (.int y6), .val (.long pp), .second, .val (.long q2), .second, .val (.long lo), .second, .val (.long pk), .second, .val (.long hi), .second, .val (.double dl), .second, .val (.double dp), .second, .val (.double dr), .second, .val (.ref ob), .val (.int md), .val (.int kk), .val (.double d282), .second, .unset, .unset, .unset, .unset] [(.int k293)])) _
            refine XS.ifNo X41.here hx rfl (hb hby at_294) rfl (XT.i0_ne_f e293) ?_
            show Steps p.tables e below (T41.setTop (mkF m 297 #[.val (.int y1), .val (.int y2), .val (.int y3), .val (.int y4), .val (.int y5), .val (.int y6), .val (.long pp), .second, .val (.long q2), .second, .val (.long lo), .second, .val (.long pk), .second, .val (.long hi), .second, .val (.double dl), .second, .val (.double dp), .second, .val (.double dr), .second, .val (.ref ob), .val (.int md), .val (.int kk), .val (.double d282), .second, .unset, .unset, .unset, .unset] [])) _
            refine XS.iconst X41.here hx rfl (hb hby at_297) ?_
            show Steps p.tables e below (T41.setTop (mkF m 298 #[.val (.int y1), .val (.int y2), .val (.int y3), .val (.int y4), .val (.int y5), .val (.int y6), .val (.long pp), .second, .val (.long q2), .second, .val (.long lo), .second, .val (.long pk), .second, .val (.long hi), .second, .val (.double dl), .second, .val (.double dp), .second, .val (.double dr), .second, .val (.ref ob), .val (.int md), .val (.int kk), .val (.double d282), .second, .unset, .unset, .unset, .unset] [(.int (1 : Int32))])) _
            refine XS.goto X41.here hx rfl (pc0 := 298) (pc' := 302) rfl (hb hby at_298) (by decide) (by decide) ?_
            show Steps p.tables e below (T41.setTop (mkF m 302 #[.val (.int y1), .val (.int y2), .val (.int y3), .val (.int y4), .val (.int y5), .val (.int y6), .val (.long pp), .second, .val (.long q2), .second, .val (.long lo), .second, .val (.long pk), .second, .val (.long hi), .second, .val (.double dl), .second, .val (.double dp), .second, .val (.double dr), .second, .val (.ref ob), .val (.int md), .val (.int kk), .val (.double d282), .second, .unset, .unset, .unset, .unset] [(.int (1 : Int32))])) _
            exact k)
          obtain ⟨fs, hr, hrun, hended, hW, hsame⟩ := X41.leave (v := (some (.int (1 : Int32)))) (fun h => by rw [Bd.returns] at h; cases h)
          refine ⟨_, _, pre0 _ (c43 _ (retN X41 hx (t := .boolean) Bd.returns (by simp) (hb hby at_302) hr)), hrun, hended, _, _, rfl, ?_, ⟨_, rfl⟩, hW, hsame.mono (by decide) (by decide)⟩
          show Q_0 Z y1 y2 y3 y4 y5 y6 h0 n0 _ T41.heap _
          rw [e41]
          exact ⟨rfl, M41⟩
        · skip
          obtain ⟨dx, hdx⟩ : ∃ v : UInt64, FP.i2d y5 = v := ⟨_, rfl⟩
          have Dx : DS y5.toInt 0 dx := hdx ▸ DS.i2d y5
          have Y1 := Int32.le_toInt y5
          have Y2 := Int32.toInt_lt y5
          have c44 : ∀ t, Steps p.tables e below (T15.setTop (mkF m 312 #[.val (.int y1), .val (.int y2), .val (.int y3), .val (.int y4), .val (.int y5), .val (.int y6), .val (.long pp), .second, .val (.long q2), .second, .val (.long lo), .second, .val (.long pk), .second, .val (.long hi), .second, .val (.double dl), .second, .val (.double dp), .second, .val (.double dr), .second, .val (.ref ob), .val (.int md), .val (.int kk), .val (.double dx), .second, .unset, .unset, .unset, .unset] [(.double dx), (.ref ob)])) t → Steps p.tables e below (s₁.setTop (entryFrame m #[(.int y1), (.int y2), (.int y3), (.int y4), (.int y5), (.int y6)] maxLocals)) t := fun t k => c39 t (by
            show Steps p.tables e below (T15.setTop (mkF m 268 #[.val (.int y1), .val (.int y2), .val (.int y3), .val (.int y4), .val (.int y5), .val (.int y6), .val (.long pp), .second, .val (.long q2), .second, .val (.long lo), .second, .val (.long pk), .second, .val (.long hi), .second, .val (.double dl), .second, .val (.double dp), .second, .val (.double dr), .second, .val (.ref ob), .val (.int md), .val (.int kk), .unset, .unset, .unset, .unset, .unset, .unset] [(.int (3 : Int32)), (.int md)])) _
            refine XS.icmpYes X15.here hx rfl (pc0 := 268) (pc' := 303) rfl (hb hby at_268) rfl (XT.ii_ne_t q268) (by decide) (by decide) ?_
            show Steps p.tables e below (T15.setTop (mkF m 303 #[.val (.int y1), .val (.int y2), .val (.int y3), .val (.int y4), .val (.int y5), .val (.int y6), .val (.long pp), .second, .val (.long q2), .second, .val (.long lo), .second, .val (.long pk), .second, .val (.long hi), .second, .val (.double dl), .second, .val (.double dp), .second, .val (.double dr), .second, .val (.ref ob), .val (.int md), .val (.int kk), .unset, .unset, .unset, .unset, .unset, .unset] [])) _
            refine XS.iload X15.here hx rfl (hb hby at_303) rfl ?_
            show Steps p.tables e below (T15.setTop (mkF m 305 #[.val (.int y1), .val (.int y2), .val (.int y3), .val (.int y4), .val (.int y5), .val (.int y6), .val (.long pp), .second, .val (.long q2), .second, .val (.long lo), .second, .val (.long pk), .second, .val (.long hi), .second, .val (.double dl), .second, .val (.double dp), .second, .val (.double dr), .second, .val (.ref ob), .val (.int md), .val (.int kk), .unset, .unset, .unset, .unset, .unset, .unset] [(.int y5)])) _
            refine XS.i2dS X15.here hx rfl (hb hby at_305) rfl hdx ?_
            show Steps p.tables e below (T15.setTop (mkF m 306 #[.val (.int y1), .val (.int y2), .val (.int y3), .val (.int y4), .val (.int y5), .val (.int y6), .val (.long pp), .second, .val (.long q2), .second, .val (.long lo), .second, .val (.long pk), .second, .val (.long hi), .second, .val (.double dl), .second, .val (.double dp), .second, .val (.double dr), .second, .val (.ref ob), .val (.int md), .val (.int kk), .unset, .unset, .unset, .unset, .unset, .unset] [(.double dx)])) _
            refine XS.dstore X15.here hx rfl (hb hby at_306) rfl (l' := #[.val (.int y1), .val (.int y2), .val (.int y3), .val (.int y4), .val (.int y5), .val (.int y6), .val (.long pp), .second, .val (.long q2), .second, .val (.long lo), .second, .val (.long pk), .second, .val (.long hi), .second, .val (.double dl), .second, .val (.double dp), .second, .val (.double dr), .second, .val (.ref ob), .val (.int md), .val (.int kk), .val (.double dx), .second, .unset, .unset, .unset, .unset]) rfl ?_
            show Steps p.tables e below (T15.setTop (mkF m 308 #[.val (.int y1), .val (.int y2), .val (.int y3), .val (.int y4), .val (.int y5), .val (.int y6), .val (.long pp), .second, .val (.long q2), .second, .val (.long lo), .second, .val (.long pk), .second, .val (.long hi), .second, .val (.double dl), .second, .val (.double dp), .second, .val (.double dr), .second, .val (.ref ob), .val (.int md), .val (.int kk), .val (.double dx), .second, .unset, .unset, .unset, .unset] [])) _
            refine XS.aload X15.here hx rfl (hb hby at_308) rfl rfl ?_
            show Steps p.tables e below (T15.setTop (mkF m 310 #[.val (.int y1), .val (.int y2), .val (.int y3), .val (.int y4), .val (.int y5), .val (.int y6), .val (.long pp), .second, .val (.long q2), .second, .val (.long lo), .second, .val (.long pk), .second, .val (.long hi), .second, .val (.double dl), .second, .val (.double dp), .second, .val (.double dr), .second, .val (.ref ob), .val (.int md), .val (.int kk), .val (.double dx), .second, .unset, .unset, .unset, .unset] [(.ref ob)])) _
            refine XS.dload X15.here hx rfl (hb hby at_310) rfl ?_
            show Steps p.tables e below (T15.setTop (mkF m 312 #[.val (.int y1), .val (.int y2), .val (.int y3), .val (.int y4), .val (.int y5), .val (.int y6), .val (.long pp), .second, .val (.long q2), .second, .val (.long lo), .second, .val (.long pk), .second, .val (.long hi), .second, .val (.double dl), .second, .val (.double dp), .second, .val (.double dr), .second, .val (.ref ob), .val (.int md), .val (.int kk), .val (.double dx), .second, .unset, .unset, .unset, .unset] [(.double dx), (.ref ob)])) _
            exact k)
          obtain ⟨cq45, kq45, q45a, q45b, q45c⟩ := isOf hZ rfl G15_0
          obtain ⟨_, _, ⟨T45, L45, k45', n45⟩, -, X45, ⟨Lc45, hQ45, l45, y45, z45⟩, st45⟩ := X15.virtualBack hx (y := (⟨"com/example/foglane/foglane/uncertainty/FuzzyRuleBase$Term", "membership", "(D)D"⟩ : MethodName)) (z := (⟨"com/example/foglane/foglane/uncertainty/FuzzyRuleBase$Term", "membership", "(D)D"⟩ : MethodName)) hown (mvT hZ (hw _ (List.mem_of_getElem? (i := 33) rfl))) (mvT hZ (hw _ (List.mem_of_getElem? (i := 34) rfl))) (notFace_of_selects (args := #[]) (mvT hZ (hw _ (List.mem_of_getElem? (i := 36) rfl)))) (mvT hZ (hw _ (List.mem_of_getElem? (i := 36) rfl))) (mvT hZ (hw _ (List.mem_of_getElem? (i := 35) rfl))) (by decide) (backOf (W := 0) (rm_6 l Z a0 hw [] ob dx dl dp dr lo.toInt pk.toInt hi.toInt y5.toInt T15.heap n0 (Nat.le_trans (Nat.le_trans Z0 E9.1) K15.1) G15_1 G15_2 G15_3 Dl Dp Dr Dx (by omega)) hZ (hw _ (List.mem_of_getElem? (i := 37) rfl)) (hw _ (List.mem_of_getElem? (i := 4) rfl)) (by decide) (by decide)) q45a q45c (g := (mkF m 312 #[.val (.int y1), .val (.int y2), .val (.int y3), .val (.int y4), .val (.int y5), .val (.int y6), .val (.long pp), .second, .val (.long q2), .second, .val (.long lo), .second, .val (.long pk), .second, .val (.long hi), .second, .val (.double dl), .second, .val (.double dp), .second, .val (.double dr), .second, .val (.ref ob), .val (.int md), .val (.int kk), .val (.double dx), .second, .unset, .unset, .unset, .unset] [(.double dx), (.ref ob)])) rfl (by rw [hml]; rfl) (Steps.refl _) (argsL := [(.double dx)]) (rest := []) (lenOf pd__D_D rfl) rfl (by show 2 * 0 + _ ≤ _; exact Nat.le_of_eq rfl) (hb hby at_312) (fun _ _ => ⟨rfl, rfl, (by decide : 1 + 0 ≤ _), (by decide : 3 + 0 ≤ _)⟩)
          dsimp only [Pt.U, Pt.locs, Pt.cells, Pt.slots] at X45 l45 y45 z45 st45 hQ45
          subst l45 y45 z45
          obtain ⟨⟨rs, rfl, hrs⟩, N45, e45⟩ := hQ45
          have M45 := Fr.app M15 N45
          have c46 : ∀ t, Steps p.tables e below (T45.setTop (mkF m 315 #[.val (.int y1), .val (.int y2), .val (.int y3), .val (.int y4), .val (.int y5), .val (.int y6), .val (.long pp), .second, .val (.long q2), .second, .val (.long lo), .second, .val (.long pk), .second, .val (.long hi), .second, .val (.double dl), .second, .val (.double dp), .second, .val (.double dr), .second, .val (.ref ob), .val (.int md), .val (.int kk), .val (.double dx), .second, .unset, .unset, .unset, .unset] [(.double rs)])) t → Steps p.tables e below (s₁.setTop (entryFrame m #[(.int y1), (.int y2), (.int y3), (.int y4), (.int y5), (.int y6)] maxLocals)) t := fun t k => c44 t (st45.trans k)
          obtain ⟨mf, m1, m2, m3, m4⟩ := mem_any hrs (by omega) (by omega) (by omega) (by omega)
          obtain ⟨k321, hk321⟩ : ∃ v : Int32, cmpValue (FP.dcmp dx dl) .l = v := ⟨_, rfl⟩
          obtain ⟨k329, hk329⟩ : ∃ v : Int32, cmpValue (FP.dcmp dx dr) .g = v := ⟨_, rfl⟩
          obtain ⟨k337, hk337⟩ : ∃ v : Int32, cmpValue (FP.dcmp dx dp) .l = v := ⟨_, rfl⟩
          obtain ⟨k351, hk351⟩ : ∃ v : Int32, cmpValue (FP.dcmp rs FP.dconst0) .l = v := ⟨_, rfl⟩
          obtain ⟨k358, hk358⟩ : ∃ v : Int32, cmpValue (FP.dcmp rs FP.dconst1) .g = v := ⟨_, rfl⟩
          obtain ⟨k365, hk365⟩ : ∃ v : Int32, cmpValue (FP.dcmp rs FP.dconst0) .l = v := ⟨_, rfl⟩
          obtain ⟨k382, hk382⟩ : ∃ v : Int32, cmpValue (FP.dcmp rs FP.dconst1) .l = v := ⟨_, rfl⟩
          obtain ⟨k395, hk395⟩ : ∃ v : Int32, cmpValue (FP.dcmp dx dp) .l = v := ⟨_, rfl⟩
          have c321 := Dx.cmp Dl .l
          rw [hk321] at c321
          have kv321 : 0 < k321 ↔ lo.toInt < y5.toInt := by
            rw [c321]; split
            · exact ⟨fun h => absurd h (by decide), fun h => by omega⟩
            · split
              · exact ⟨fun h => absurd h (by decide), fun h => by omega⟩
              · exact ⟨fun h => by omega, fun _ => by decide⟩
          have c329 := Dx.cmp Dr .g
          rw [hk329] at c329
          have kv329 : k329 < 0 ↔ y5.toInt < hi.toInt := by
            rw [c329]; split
            · exact ⟨fun _ => by assumption, fun _ => by decide⟩
            · refine ⟨fun h => absurd h ?_, fun h => absurd h (by assumption)⟩
              first | decide | (split <;> decide)
          have c337 := Dx.cmp Dp .l
          rw [hk337] at c337
          have kv337 : k337 = 0 ↔ y5.toInt = pk.toInt := by
            rw [c337]; split
            · exact ⟨fun h => absurd h (by decide), fun h => by omega⟩
            · split
              · exact ⟨fun h => by assumption, fun h => rfl⟩
              · exact ⟨fun h => absurd h (by decide), fun h => by omega⟩
          have c395 := Dx.cmp Dp .l
          rw [hk395] at c395
          have kv395 : k395 = 0 ↔ y5.toInt = pk.toInt := by
            rw [c395]; split
            · exact ⟨fun h => absurd h (by decide), fun h => by omega⟩
            · split
              · exact ⟨fun h => by assumption, fun h => rfl⟩
              · exact ⟨fun h => absurd h (by decide), fun h => by omega⟩
          have u351 : ¬ k351 < 0 := by rw [← hk351, cmpV_of (notNan mf) (notNan DS.zero.1), zv_zero, if_neg (by omega)]; split <;> decide
          have u358 : ¬ 0 < k358 := by
            rw [← hk358, cmpV_of (notNan mf) (notNan DS.one.1), zvo]
            split
            · decide
            · split
              · decide
              · omega
          have u365 : 0 < k365 ↔ 0 < zv rs := by
            rw [← hk365, cmpV_of (notNan mf) (notNan DS.zero.1), zv_zero, if_neg (by omega)]
            split
            · exact ⟨fun h => absurd h (by decide), fun h => by omega⟩
            · exact ⟨fun h => by omega, fun _ => by decide⟩
          have u382 : k382 = 0 ↔ zv rs = U := by
            rw [← hk382, cmpV_of (notNan mf) (notNan DS.one.1), zvo]
            split
            · exact ⟨fun h => absurd h (by decide), fun h => by omega⟩
            · split
              · exact ⟨fun _ => by assumption, fun _ => rfl⟩
              · exact ⟨fun h => absurd h (by decide), fun h => by omega⟩
          have c47 : ∀ t, Steps p.tables e below (T45.setTop (mkF m 322 #[.val (.int y1), .val (.int y2), .val (.int y3), .val (.int y4), .val (.int y5), .val (.int y6), .val (.long pp), .second, .val (.long q2), .second, .val (.long lo), .second, .val (.long pk), .second, .val (.long hi), .second, .val (.double dl), .second, .val (.double dp), .second, .val (.double dr), .second, .val (.ref ob), .val (.int md), .val (.int kk), .val (.double dx), .second, .val (.double rs), .second, .unset, .unset] [(.int k321)])) t → Steps p.tables e below (s₁.setTop (entryFrame m #[(.int y1), (.int y2), (.int y3), (.int y4), (.int y5), (.int y6)] maxLocals)) t := fun t k => c46 t (by
            show Steps p.tables e below (T45.setTop (mkF m 315 #[.val (.int y1), .val (.int y2), .val (.int y3), .val (.int y4), .val (.int y5), .val (.int y6), .val (.long pp), .second, .val (.long q2), .second, .val (.long lo), .second, .val (.long pk), .second, .val (.long hi), .second, .val (.double dl), .second, .val (.double dp), .second, .val (.double dr), .second, .val (.ref ob), .val (.int md), .val (.int kk), .val (.double dx), .second, .unset, .unset, .unset, .unset] [(.double rs)])) _
            refine XS.dstore X45.here hx rfl (hb hby at_315) rfl (l' := #[.val (.int y1), .val (.int y2), .val (.int y3), .val (.int y4), .val (.int y5), .val (.int y6), .val (.long pp), .second, .val (.long q2), .second, .val (.long lo), .second, .val (.long pk), .second, .val (.long hi), .second, .val (.double dl), .second, .val (.double dp), .second, .val (.double dr), .second, .val (.ref ob), .val (.int md), .val (.int kk), .val (.double dx), .second, .val (.double rs), .second, .unset, .unset]) rfl ?_
            show Steps p.tables e below (T45.setTop (mkF m 317 #[.val (.int y1), .val (.int y2), .val (.int y3), .val (.int y4), .val (.int y5), .val (.int y6), .val (.long pp), .second, .val (.long q2), .second, .val (.long lo), .second, .val (.long pk), .second, .val (.long hi), .second, .val (.double dl), .second, .val (.double dp), .second, .val (.double dr), .second, .val (.ref ob), .val (.int md), .val (.int kk), .val (.double dx), .second, .val (.double rs), .second, .unset, .unset] [])) _
            refine XS.dload X45.here hx rfl (hb hby at_317) rfl ?_
            show Steps p.tables e below (T45.setTop (mkF m 319 #[.val (.int y1), .val (.int y2), .val (.int y3), .val (.int y4), .val (.int y5), .val (.int y6), .val (.long pp), .second, .val (.long q2), .second, .val (.long lo), .second, .val (.long pk), .second, .val (.long hi), .second, .val (.double dl), .second, .val (.double dp), .second, .val (.double dr), .second, .val (.ref ob), .val (.int md), .val (.int kk), .val (.double dx), .second, .val (.double rs), .second, .unset, .unset] [(.double dx)])) _
            refine XS.dload X45.here hx rfl (hb hby at_319) rfl ?_
            show Steps p.tables e below (T45.setTop (mkF m 321 #[.val (.int y1), .val (.int y2), .val (.int y3), .val (.int y4), .val (.int y5), .val (.int y6), .val (.long pp), .second, .val (.long q2), .second, .val (.long lo), .second, .val (.long pk), .second, .val (.long hi), .second, .val (.double dl), .second, .val (.double dp), .second, .val (.double dr), .second, .val (.ref ob), .val (.int md), .val (.int kk), .val (.double dx), .second, .val (.double rs), .second, .unset, .unset] [(.double dl), (.double dx)])) _
            refine XS.dcmpS X45.here hx rfl (hb hby at_321) rfl hk321 ?_
            show Steps p.tables e below (T45.setTop (mkF m 322 #[.val (.int y1), .val (.int y2), .val (.int y3), .val (.int y4), .val (.int y5), .val (.int y6), .val (.long pp), .second, .val (.long q2), .second, .val (.long lo), .second, .val (.long pk), .second, .val (.long hi), .second, .val (.double dl), .second, .val (.double dp), .second, .val (.double dr), .second, .val (.ref ob), .val (.int md), .val (.int kk), .val (.double dx), .second, .val (.double rs), .second, .unset, .unset] [(.int k321)])) _
            exact k)
          obtain ⟨ins, hins⟩ : ∃ v : Int32, v = (if 0 < k321 then (if k329 < 0 then (1 : Int32) else (if k337 = 0 then (1 : Int32) else (0 : Int32))) else (if k337 = 0 then (1 : Int32) else (0 : Int32))) := ⟨_, rfl⟩
          have c48 : ∀ t, Steps p.tables e below (T45.setTop (mkF m 346 #[.val (.int y1), .val (.int y2), .val (.int y3), .val (.int y4), .val (.int y5), .val (.int y6), .val (.long pp), .second, .val (.long q2), .second, .val (.long lo), .second, .val (.long pk), .second, .val (.long hi), .second, .val (.double dl), .second, .val (.double dp), .second, .val (.double dr), .second, .val (.ref ob), .val (.int md), .val (.int kk), .val (.double dx), .second, .val (.double rs), .second, .unset, .unset] [(.int ins)])) t → Steps p.tables e below (s₁.setTop (entryFrame m #[(.int y1), (.int y2), (.int y3), (.int y4), (.int y5), (.int y6)] maxLocals)) t := fun t k => c47 t (by
            rw [hins] at k
            show Steps p.tables e below (T45.setTop (mkF m 322 #[.val (.int y1), .val (.int y2), .val (.int y3), .val (.int y4), .val (.int y5), .val (.int y6), .val (.long pp), .second, .val (.long q2), .second, .val (.long lo), .second, .val (.long pk), .second, .val (.long hi), .second, .val (.double dl), .second, .val (.double dp), .second, .val (.double dr), .second, .val (.ref ob), .val (.int md), .val (.int kk), .val (.double dx), .second, .val (.double rs), .second, .unset, .unset] [(.int k321)])) _
            by_cases q322_0 : 0 < k321
            · try simp only [if_pos q322_0] at k
              refine XS.ifNo X45.here hx rfl (hb hby at_322) rfl (XT.i0_le_f q322_0) ?_
              show Steps p.tables e below (T45.setTop (mkF m 325 #[.val (.int y1), .val (.int y2), .val (.int y3), .val (.int y4), .val (.int y5), .val (.int y6), .val (.long pp), .second, .val (.long q2), .second, .val (.long lo), .second, .val (.long pk), .second, .val (.long hi), .second, .val (.double dl), .second, .val (.double dp), .second, .val (.double dr), .second, .val (.ref ob), .val (.int md), .val (.int kk), .val (.double dx), .second, .val (.double rs), .second, .unset, .unset] [])) _
              refine XS.dload X45.here hx rfl (hb hby at_325) rfl ?_
              show Steps p.tables e below (T45.setTop (mkF m 327 #[.val (.int y1), .val (.int y2), .val (.int y3), .val (.int y4), .val (.int y5), .val (.int y6), .val (.long pp), .second, .val (.long q2), .second, .val (.long lo), .second, .val (.long pk), .second, .val (.long hi), .second, .val (.double dl), .second, .val (.double dp), .second, .val (.double dr), .second, .val (.ref ob), .val (.int md), .val (.int kk), .val (.double dx), .second, .val (.double rs), .second, .unset, .unset] [(.double dx)])) _
              refine XS.dload X45.here hx rfl (hb hby at_327) rfl ?_
              show Steps p.tables e below (T45.setTop (mkF m 329 #[.val (.int y1), .val (.int y2), .val (.int y3), .val (.int y4), .val (.int y5), .val (.int y6), .val (.long pp), .second, .val (.long q2), .second, .val (.long lo), .second, .val (.long pk), .second, .val (.long hi), .second, .val (.double dl), .second, .val (.double dp), .second, .val (.double dr), .second, .val (.ref ob), .val (.int md), .val (.int kk), .val (.double dx), .second, .val (.double rs), .second, .unset, .unset] [(.double dr), (.double dx)])) _
              refine XS.dcmpS X45.here hx rfl (hb hby at_329) rfl hk329 ?_
              show Steps p.tables e below (T45.setTop (mkF m 330 #[.val (.int y1), .val (.int y2), .val (.int y3), .val (.int y4), .val (.int y5), .val (.int y6), .val (.long pp), .second, .val (.long q2), .second, .val (.long lo), .second, .val (.long pk), .second, .val (.long hi), .second, .val (.double dl), .second, .val (.double dp), .second, .val (.double dr), .second, .val (.ref ob), .val (.int md), .val (.int kk), .val (.double dx), .second, .val (.double rs), .second, .unset, .unset] [(.int k329)])) _
              by_cases q330_1 : k329 < 0
              · try simp only [if_pos q330_1] at k
                refine XS.ifYes X45.here hx rfl (pc0 := 330) (pc' := 341) rfl (hb hby at_330) rfl (XT.i0_lt_t q330_1) (by decide) (by decide) ?_
                show Steps p.tables e below (T45.setTop (mkF m 341 #[.val (.int y1), .val (.int y2), .val (.int y3), .val (.int y4), .val (.int y5), .val (.int y6), .val (.long pp), .second, .val (.long q2), .second, .val (.long lo), .second, .val (.long pk), .second, .val (.long hi), .second, .val (.double dl), .second, .val (.double dp), .second, .val (.double dr), .second, .val (.ref ob), .val (.int md), .val (.int kk), .val (.double dx), .second, .val (.double rs), .second, .unset, .unset] [])) _
                refine XS.iconst X45.here hx rfl (hb hby at_341) ?_
                show Steps p.tables e below (T45.setTop (mkF m 342 #[.val (.int y1), .val (.int y2), .val (.int y3), .val (.int y4), .val (.int y5), .val (.int y6), .val (.long pp), .second, .val (.long q2), .second, .val (.long lo), .second, .val (.long pk), .second, .val (.long hi), .second, .val (.double dl), .second, .val (.double dp), .second, .val (.double dr), .second, .val (.ref ob), .val (.int md), .val (.int kk), .val (.double dx), .second, .val (.double rs), .second, .unset, .unset] [(.int (1 : Int32))])) _
                refine XS.goto X45.here hx rfl (pc0 := 342) (pc' := 346) rfl (hb hby at_342) (by decide) (by decide) ?_
                show Steps p.tables e below (T45.setTop (mkF m 346 #[.val (.int y1), .val (.int y2), .val (.int y3), .val (.int y4), .val (.int y5), .val (.int y6), .val (.long pp), .second, .val (.long q2), .second, .val (.long lo), .second, .val (.long pk), .second, .val (.long hi), .second, .val (.double dl), .second, .val (.double dp), .second, .val (.double dr), .second, .val (.ref ob), .val (.int md), .val (.int kk), .val (.double dx), .second, .val (.double rs), .second, .unset, .unset] [(.int (1 : Int32))])) _
                exact k
              · try simp only [if_neg q330_1] at k
                refine XS.ifNo X45.here hx rfl (hb hby at_330) rfl (XT.i0_lt_f q330_1) ?_
                show Steps p.tables e below (T45.setTop (mkF m 333 #[.val (.int y1), .val (.int y2), .val (.int y3), .val (.int y4), .val (.int y5), .val (.int y6), .val (.long pp), .second, .val (.long q2), .second, .val (.long lo), .second, .val (.long pk), .second, .val (.long hi), .second, .val (.double dl), .second, .val (.double dp), .second, .val (.double dr), .second, .val (.ref ob), .val (.int md), .val (.int kk), .val (.double dx), .second, .val (.double rs), .second, .unset, .unset] [])) _
                refine XS.dload X45.here hx rfl (hb hby at_333) rfl ?_
                show Steps p.tables e below (T45.setTop (mkF m 335 #[.val (.int y1), .val (.int y2), .val (.int y3), .val (.int y4), .val (.int y5), .val (.int y6), .val (.long pp), .second, .val (.long q2), .second, .val (.long lo), .second, .val (.long pk), .second, .val (.long hi), .second, .val (.double dl), .second, .val (.double dp), .second, .val (.double dr), .second, .val (.ref ob), .val (.int md), .val (.int kk), .val (.double dx), .second, .val (.double rs), .second, .unset, .unset] [(.double dx)])) _
                refine XS.dload X45.here hx rfl (hb hby at_335) rfl ?_
                show Steps p.tables e below (T45.setTop (mkF m 337 #[.val (.int y1), .val (.int y2), .val (.int y3), .val (.int y4), .val (.int y5), .val (.int y6), .val (.long pp), .second, .val (.long q2), .second, .val (.long lo), .second, .val (.long pk), .second, .val (.long hi), .second, .val (.double dl), .second, .val (.double dp), .second, .val (.double dr), .second, .val (.ref ob), .val (.int md), .val (.int kk), .val (.double dx), .second, .val (.double rs), .second, .unset, .unset] [(.double dp), (.double dx)])) _
                refine XS.dcmpS X45.here hx rfl (hb hby at_337) rfl hk337 ?_
                show Steps p.tables e below (T45.setTop (mkF m 338 #[.val (.int y1), .val (.int y2), .val (.int y3), .val (.int y4), .val (.int y5), .val (.int y6), .val (.long pp), .second, .val (.long q2), .second, .val (.long lo), .second, .val (.long pk), .second, .val (.long hi), .second, .val (.double dl), .second, .val (.double dp), .second, .val (.double dr), .second, .val (.ref ob), .val (.int md), .val (.int kk), .val (.double dx), .second, .val (.double rs), .second, .unset, .unset] [(.int k337)])) _
                by_cases q338_2 : k337 = 0
                · try simp only [if_pos q338_2] at k
                  refine XS.ifNo X45.here hx rfl (hb hby at_338) rfl (XT.i0_ne_f q338_2) ?_
                  show Steps p.tables e below (T45.setTop (mkF m 341 #[.val (.int y1), .val (.int y2), .val (.int y3), .val (.int y4), .val (.int y5), .val (.int y6), .val (.long pp), .second, .val (.long q2), .second, .val (.long lo), .second, .val (.long pk), .second, .val (.long hi), .second, .val (.double dl), .second, .val (.double dp), .second, .val (.double dr), .second, .val (.ref ob), .val (.int md), .val (.int kk), .val (.double dx), .second, .val (.double rs), .second, .unset, .unset] [])) _
                  refine XS.iconst X45.here hx rfl (hb hby at_341) ?_
                  show Steps p.tables e below (T45.setTop (mkF m 342 #[.val (.int y1), .val (.int y2), .val (.int y3), .val (.int y4), .val (.int y5), .val (.int y6), .val (.long pp), .second, .val (.long q2), .second, .val (.long lo), .second, .val (.long pk), .second, .val (.long hi), .second, .val (.double dl), .second, .val (.double dp), .second, .val (.double dr), .second, .val (.ref ob), .val (.int md), .val (.int kk), .val (.double dx), .second, .val (.double rs), .second, .unset, .unset] [(.int (1 : Int32))])) _
                  refine XS.goto X45.here hx rfl (pc0 := 342) (pc' := 346) rfl (hb hby at_342) (by decide) (by decide) ?_
                  show Steps p.tables e below (T45.setTop (mkF m 346 #[.val (.int y1), .val (.int y2), .val (.int y3), .val (.int y4), .val (.int y5), .val (.int y6), .val (.long pp), .second, .val (.long q2), .second, .val (.long lo), .second, .val (.long pk), .second, .val (.long hi), .second, .val (.double dl), .second, .val (.double dp), .second, .val (.double dr), .second, .val (.ref ob), .val (.int md), .val (.int kk), .val (.double dx), .second, .val (.double rs), .second, .unset, .unset] [(.int (1 : Int32))])) _
                  exact k
                · try simp only [if_neg q338_2] at k
                  refine XS.ifYes X45.here hx rfl (pc0 := 338) (pc' := 345) rfl (hb hby at_338) rfl (XT.i0_ne_t q338_2) (by decide) (by decide) ?_
                  show Steps p.tables e below (T45.setTop (mkF m 345 #[.val (.int y1), .val (.int y2), .val (.int y3), .val (.int y4), .val (.int y5), .val (.int y6), .val (.long pp), .second, .val (.long q2), .second, .val (.long lo), .second, .val (.long pk), .second, .val (.long hi), .second, .val (.double dl), .second, .val (.double dp), .second, .val (.double dr), .second, .val (.ref ob), .val (.int md), .val (.int kk), .val (.double dx), .second, .val (.double rs), .second, .unset, .unset] [])) _
                  refine XS.iconst X45.here hx rfl (hb hby at_345) ?_
                  show Steps p.tables e below (T45.setTop (mkF m 346 #[.val (.int y1), .val (.int y2), .val (.int y3), .val (.int y4), .val (.int y5), .val (.int y6), .val (.long pp), .second, .val (.long q2), .second, .val (.long lo), .second, .val (.long pk), .second, .val (.long hi), .second, .val (.double dl), .second, .val (.double dp), .second, .val (.double dr), .second, .val (.ref ob), .val (.int md), .val (.int kk), .val (.double dx), .second, .val (.double rs), .second, .unset, .unset] [(.int (0 : Int32))])) _
                  exact k
            · try simp only [if_neg q322_0] at k
              refine XS.ifYes X45.here hx rfl (pc0 := 322) (pc' := 333) rfl (hb hby at_322) rfl (XT.i0_le_t q322_0) (by decide) (by decide) ?_
              show Steps p.tables e below (T45.setTop (mkF m 333 #[.val (.int y1), .val (.int y2), .val (.int y3), .val (.int y4), .val (.int y5), .val (.int y6), .val (.long pp), .second, .val (.long q2), .second, .val (.long lo), .second, .val (.long pk), .second, .val (.long hi), .second, .val (.double dl), .second, .val (.double dp), .second, .val (.double dr), .second, .val (.ref ob), .val (.int md), .val (.int kk), .val (.double dx), .second, .val (.double rs), .second, .unset, .unset] [])) _
              refine XS.dload X45.here hx rfl (hb hby at_333) rfl ?_
              show Steps p.tables e below (T45.setTop (mkF m 335 #[.val (.int y1), .val (.int y2), .val (.int y3), .val (.int y4), .val (.int y5), .val (.int y6), .val (.long pp), .second, .val (.long q2), .second, .val (.long lo), .second, .val (.long pk), .second, .val (.long hi), .second, .val (.double dl), .second, .val (.double dp), .second, .val (.double dr), .second, .val (.ref ob), .val (.int md), .val (.int kk), .val (.double dx), .second, .val (.double rs), .second, .unset, .unset] [(.double dx)])) _
              refine XS.dload X45.here hx rfl (hb hby at_335) rfl ?_
              show Steps p.tables e below (T45.setTop (mkF m 337 #[.val (.int y1), .val (.int y2), .val (.int y3), .val (.int y4), .val (.int y5), .val (.int y6), .val (.long pp), .second, .val (.long q2), .second, .val (.long lo), .second, .val (.long pk), .second, .val (.long hi), .second, .val (.double dl), .second, .val (.double dp), .second, .val (.double dr), .second, .val (.ref ob), .val (.int md), .val (.int kk), .val (.double dx), .second, .val (.double rs), .second, .unset, .unset] [(.double dp), (.double dx)])) _
              refine XS.dcmpS X45.here hx rfl (hb hby at_337) rfl hk337 ?_
              show Steps p.tables e below (T45.setTop (mkF m 338 #[.val (.int y1), .val (.int y2), .val (.int y3), .val (.int y4), .val (.int y5), .val (.int y6), .val (.long pp), .second, .val (.long q2), .second, .val (.long lo), .second, .val (.long pk), .second, .val (.long hi), .second, .val (.double dl), .second, .val (.double dp), .second, .val (.double dr), .second, .val (.ref ob), .val (.int md), .val (.int kk), .val (.double dx), .second, .val (.double rs), .second, .unset, .unset] [(.int k337)])) _
              by_cases q338_1 : k337 = 0
              · try simp only [if_pos q338_1] at k
                refine XS.ifNo X45.here hx rfl (hb hby at_338) rfl (XT.i0_ne_f q338_1) ?_
                show Steps p.tables e below (T45.setTop (mkF m 341 #[.val (.int y1), .val (.int y2), .val (.int y3), .val (.int y4), .val (.int y5), .val (.int y6), .val (.long pp), .second, .val (.long q2), .second, .val (.long lo), .second, .val (.long pk), .second, .val (.long hi), .second, .val (.double dl), .second, .val (.double dp), .second, .val (.double dr), .second, .val (.ref ob), .val (.int md), .val (.int kk), .val (.double dx), .second, .val (.double rs), .second, .unset, .unset] [])) _
                refine XS.iconst X45.here hx rfl (hb hby at_341) ?_
                show Steps p.tables e below (T45.setTop (mkF m 342 #[.val (.int y1), .val (.int y2), .val (.int y3), .val (.int y4), .val (.int y5), .val (.int y6), .val (.long pp), .second, .val (.long q2), .second, .val (.long lo), .second, .val (.long pk), .second, .val (.long hi), .second, .val (.double dl), .second, .val (.double dp), .second, .val (.double dr), .second, .val (.ref ob), .val (.int md), .val (.int kk), .val (.double dx), .second, .val (.double rs), .second, .unset, .unset] [(.int (1 : Int32))])) _
                refine XS.goto X45.here hx rfl (pc0 := 342) (pc' := 346) rfl (hb hby at_342) (by decide) (by decide) ?_
                show Steps p.tables e below (T45.setTop (mkF m 346 #[.val (.int y1), .val (.int y2), .val (.int y3), .val (.int y4), .val (.int y5), .val (.int y6), .val (.long pp), .second, .val (.long q2), .second, .val (.long lo), .second, .val (.long pk), .second, .val (.long hi), .second, .val (.double dl), .second, .val (.double dp), .second, .val (.double dr), .second, .val (.ref ob), .val (.int md), .val (.int kk), .val (.double dx), .second, .val (.double rs), .second, .unset, .unset] [(.int (1 : Int32))])) _
                exact k
              · try simp only [if_neg q338_1] at k
                refine XS.ifYes X45.here hx rfl (pc0 := 338) (pc' := 345) rfl (hb hby at_338) rfl (XT.i0_ne_t q338_1) (by decide) (by decide) ?_
                show Steps p.tables e below (T45.setTop (mkF m 345 #[.val (.int y1), .val (.int y2), .val (.int y3), .val (.int y4), .val (.int y5), .val (.int y6), .val (.long pp), .second, .val (.long q2), .second, .val (.long lo), .second, .val (.long pk), .second, .val (.long hi), .second, .val (.double dl), .second, .val (.double dp), .second, .val (.double dr), .second, .val (.ref ob), .val (.int md), .val (.int kk), .val (.double dx), .second, .val (.double rs), .second, .unset, .unset] [])) _
                refine XS.iconst X45.here hx rfl (hb hby at_345) ?_
                show Steps p.tables e below (T45.setTop (mkF m 346 #[.val (.int y1), .val (.int y2), .val (.int y3), .val (.int y4), .val (.int y5), .val (.int y6), .val (.long pp), .second, .val (.long q2), .second, .val (.long lo), .second, .val (.long pk), .second, .val (.long hi), .second, .val (.double dl), .second, .val (.double dp), .second, .val (.double dr), .second, .val (.ref ob), .val (.int md), .val (.int kk), .val (.double dx), .second, .val (.double rs), .second, .unset, .unset] [(.int (0 : Int32))])) _
                exact k)
          have c49 : ∀ t, Steps p.tables e below (T45.setTop (mkF m 366 #[.val (.int y1), .val (.int y2), .val (.int y3), .val (.int y4), .val (.int y5), .val (.int y6), .val (.long pp), .second, .val (.long q2), .second, .val (.long lo), .second, .val (.long pk), .second, .val (.long hi), .second, .val (.double dl), .second, .val (.double dp), .second, .val (.double dr), .second, .val (.ref ob), .val (.int md), .val (.int kk), .val (.double dx), .second, .val (.double rs), .second, .val (.int ins), .unset] [(.int k365)])) t → Steps p.tables e below (s₁.setTop (entryFrame m #[(.int y1), (.int y2), (.int y3), (.int y4), (.int y5), (.int y6)] maxLocals)) t := fun t k => c48 t (by
            show Steps p.tables e below (T45.setTop (mkF m 346 #[.val (.int y1), .val (.int y2), .val (.int y3), .val (.int y4), .val (.int y5), .val (.int y6), .val (.long pp), .second, .val (.long q2), .second, .val (.long lo), .second, .val (.long pk), .second, .val (.long hi), .second, .val (.double dl), .second, .val (.double dp), .second, .val (.double dr), .second, .val (.ref ob), .val (.int md), .val (.int kk), .val (.double dx), .second, .val (.double rs), .second, .unset, .unset] [(.int ins)])) _
            refine XS.istore X45.here hx rfl (hb hby at_346) rfl (l' := #[.val (.int y1), .val (.int y2), .val (.int y3), .val (.int y4), .val (.int y5), .val (.int y6), .val (.long pp), .second, .val (.long q2), .second, .val (.long lo), .second, .val (.long pk), .second, .val (.long hi), .second, .val (.double dl), .second, .val (.double dp), .second, .val (.double dr), .second, .val (.ref ob), .val (.int md), .val (.int kk), .val (.double dx), .second, .val (.double rs), .second, .val (.int ins), .unset]) rfl ?_
            show Steps p.tables e below (T45.setTop (mkF m 348 #[.val (.int y1), .val (.int y2), .val (.int y3), .val (.int y4), .val (.int y5), .val (.int y6), .val (.long pp), .second, .val (.long q2), .second, .val (.long lo), .second, .val (.long pk), .second, .val (.long hi), .second, .val (.double dl), .second, .val (.double dp), .second, .val (.double dr), .second, .val (.ref ob), .val (.int md), .val (.int kk), .val (.double dx), .second, .val (.double rs), .second, .val (.int ins), .unset] [])) _
            refine XS.dload X45.here hx rfl (hb hby at_348) rfl ?_
            show Steps p.tables e below (T45.setTop (mkF m 350 #[.val (.int y1), .val (.int y2), .val (.int y3), .val (.int y4), .val (.int y5), .val (.int y6), .val (.long pp), .second, .val (.long q2), .second, .val (.long lo), .second, .val (.long pk), .second, .val (.long hi), .second, .val (.double dl), .second, .val (.double dp), .second, .val (.double dr), .second, .val (.ref ob), .val (.int md), .val (.int kk), .val (.double dx), .second, .val (.double rs), .second, .val (.int ins), .unset] [(.double rs)])) _
            refine XS.dconst0 X45.here hx rfl (hb hby at_350) rfl ?_
            show Steps p.tables e below (T45.setTop (mkF m 351 #[.val (.int y1), .val (.int y2), .val (.int y3), .val (.int y4), .val (.int y5), .val (.int y6), .val (.long pp), .second, .val (.long q2), .second, .val (.long lo), .second, .val (.long pk), .second, .val (.long hi), .second, .val (.double dl), .second, .val (.double dp), .second, .val (.double dr), .second, .val (.ref ob), .val (.int md), .val (.int kk), .val (.double dx), .second, .val (.double rs), .second, .val (.int ins), .unset] [(.double FP.dconst0), (.double rs)])) _
            refine XS.dcmpS X45.here hx rfl (hb hby at_351) rfl hk351 ?_
            show Steps p.tables e below (T45.setTop (mkF m 352 #[.val (.int y1), .val (.int y2), .val (.int y3), .val (.int y4), .val (.int y5), .val (.int y6), .val (.long pp), .second, .val (.long q2), .second, .val (.long lo), .second, .val (.long pk), .second, .val (.long hi), .second, .val (.double dl), .second, .val (.double dp), .second, .val (.double dr), .second, .val (.ref ob), .val (.int md), .val (.int kk), .val (.double dx), .second, .val (.double rs), .second, .val (.int ins), .unset] [(.int k351)])) _
            refine XS.ifNo X45.here hx rfl (hb hby at_352) rfl (XT.i0_lt_f u351) ?_
            show Steps p.tables e below (T45.setTop (mkF m 355 #[.val (.int y1), .val (.int y2), .val (.int y3), .val (.int y4), .val (.int y5), .val (.int y6), .val (.long pp), .second, .val (.long q2), .second, .val (.long lo), .second, .val (.long pk), .second, .val (.long hi), .second, .val (.double dl), .second, .val (.double dp), .second, .val (.double dr), .second, .val (.ref ob), .val (.int md), .val (.int kk), .val (.double dx), .second, .val (.double rs), .second, .val (.int ins), .unset] [])) _
            refine XS.dload X45.here hx rfl (hb hby at_355) rfl ?_
            show Steps p.tables e below (T45.setTop (mkF m 357 #[.val (.int y1), .val (.int y2), .val (.int y3), .val (.int y4), .val (.int y5), .val (.int y6), .val (.long pp), .second, .val (.long q2), .second, .val (.long lo), .second, .val (.long pk), .second, .val (.long hi), .second, .val (.double dl), .second, .val (.double dp), .second, .val (.double dr), .second, .val (.ref ob), .val (.int md), .val (.int kk), .val (.double dx), .second, .val (.double rs), .second, .val (.int ins), .unset] [(.double rs)])) _
            refine XS.dconst1 X45.here hx rfl (hb hby at_357) rfl ?_
            show Steps p.tables e below (T45.setTop (mkF m 358 #[.val (.int y1), .val (.int y2), .val (.int y3), .val (.int y4), .val (.int y5), .val (.int y6), .val (.long pp), .second, .val (.long q2), .second, .val (.long lo), .second, .val (.long pk), .second, .val (.long hi), .second, .val (.double dl), .second, .val (.double dp), .second, .val (.double dr), .second, .val (.ref ob), .val (.int md), .val (.int kk), .val (.double dx), .second, .val (.double rs), .second, .val (.int ins), .unset] [(.double FP.dconst1), (.double rs)])) _
            refine XS.dcmpS X45.here hx rfl (hb hby at_358) rfl hk358 ?_
            show Steps p.tables e below (T45.setTop (mkF m 359 #[.val (.int y1), .val (.int y2), .val (.int y3), .val (.int y4), .val (.int y5), .val (.int y6), .val (.long pp), .second, .val (.long q2), .second, .val (.long lo), .second, .val (.long pk), .second, .val (.long hi), .second, .val (.double dl), .second, .val (.double dp), .second, .val (.double dr), .second, .val (.ref ob), .val (.int md), .val (.int kk), .val (.double dx), .second, .val (.double rs), .second, .val (.int ins), .unset] [(.int k358)])) _
            refine XS.ifNo X45.here hx rfl (hb hby at_359) rfl (XT.i0_gt_f u358) ?_
            show Steps p.tables e below (T45.setTop (mkF m 362 #[.val (.int y1), .val (.int y2), .val (.int y3), .val (.int y4), .val (.int y5), .val (.int y6), .val (.long pp), .second, .val (.long q2), .second, .val (.long lo), .second, .val (.long pk), .second, .val (.long hi), .second, .val (.double dl), .second, .val (.double dp), .second, .val (.double dr), .second, .val (.ref ob), .val (.int md), .val (.int kk), .val (.double dx), .second, .val (.double rs), .second, .val (.int ins), .unset] [])) _
            refine XS.dload X45.here hx rfl (hb hby at_362) rfl ?_
            show Steps p.tables e below (T45.setTop (mkF m 364 #[.val (.int y1), .val (.int y2), .val (.int y3), .val (.int y4), .val (.int y5), .val (.int y6), .val (.long pp), .second, .val (.long q2), .second, .val (.long lo), .second, .val (.long pk), .second, .val (.long hi), .second, .val (.double dl), .second, .val (.double dp), .second, .val (.double dr), .second, .val (.ref ob), .val (.int md), .val (.int kk), .val (.double dx), .second, .val (.double rs), .second, .val (.int ins), .unset] [(.double rs)])) _
            refine XS.dconst0 X45.here hx rfl (hb hby at_364) rfl ?_
            show Steps p.tables e below (T45.setTop (mkF m 365 #[.val (.int y1), .val (.int y2), .val (.int y3), .val (.int y4), .val (.int y5), .val (.int y6), .val (.long pp), .second, .val (.long q2), .second, .val (.long lo), .second, .val (.long pk), .second, .val (.long hi), .second, .val (.double dl), .second, .val (.double dp), .second, .val (.double dr), .second, .val (.ref ob), .val (.int md), .val (.int kk), .val (.double dx), .second, .val (.double rs), .second, .val (.int ins), .unset] [(.double FP.dconst0), (.double rs)])) _
            refine XS.dcmpS X45.here hx rfl (hb hby at_365) rfl hk365 ?_
            show Steps p.tables e below (T45.setTop (mkF m 366 #[.val (.int y1), .val (.int y2), .val (.int y3), .val (.int y4), .val (.int y5), .val (.int y6), .val (.long pp), .second, .val (.long q2), .second, .val (.long lo), .second, .val (.long pk), .second, .val (.long hi), .second, .val (.double dl), .second, .val (.double dp), .second, .val (.double dr), .second, .val (.ref ob), .val (.int md), .val (.int kk), .val (.double dx), .second, .val (.double rs), .second, .val (.int ins), .unset] [(.int k365)])) _
            exact k)
          obtain ⟨g1, hg1⟩ : ∃ v : Int32, v = (if 0 < k365 then (1 : Int32) else (0 : Int32)) := ⟨_, rfl⟩
          have c50 : ∀ t, Steps p.tables e below (T45.setTop (mkF m 374 #[.val (.int y1), .val (.int y2), .val (.int y3), .val (.int y4), .val (.int y5), .val (.int y6), .val (.long pp), .second, .val (.long q2), .second, .val (.long lo), .second, .val (.long pk), .second, .val (.long hi), .second, .val (.double dl), .second, .val (.double dp), .second, .val (.double dr), .second, .val (.ref ob), .val (.int md), .val (.int kk), .val (.double dx), .second, .val (.double rs), .second, .val (.int ins), .unset] [(.int g1)])) t → Steps p.tables e below (s₁.setTop (entryFrame m #[(.int y1), (.int y2), (.int y3), (.int y4), (.int y5), (.int y6)] maxLocals)) t := fun t k => c49 t (by
            rw [hg1] at k
            show Steps p.tables e below (T45.setTop (mkF m 366 #[.val (.int y1), .val (.int y2), .val (.int y3), .val (.int y4), .val (.int y5), .val (.int y6), .val (.long pp), .second, .val (.long q2), .second, .val (.long lo), .second, .val (.long pk), .second, .val (.long hi), .second, .val (.double dl), .second, .val (.double dp), .second, .val (.double dr), .second, .val (.ref ob), .val (.int md), .val (.int kk), .val (.double dx), .second, .val (.double rs), .second, .val (.int ins), .unset] [(.int k365)])) _
            by_cases q366_0 : 0 < k365
            · try simp only [if_pos q366_0] at k
              refine XS.ifNo X45.here hx rfl (hb hby at_366) rfl (XT.i0_le_f q366_0) ?_
              show Steps p.tables e below (T45.setTop (mkF m 369 #[.val (.int y1), .val (.int y2), .val (.int y3), .val (.int y4), .val (.int y5), .val (.int y6), .val (.long pp), .second, .val (.long q2), .second, .val (.long lo), .second, .val (.long pk), .second, .val (.long hi), .second, .val (.double dl), .second, .val (.double dp), .second, .val (.double dr), .second, .val (.ref ob), .val (.int md), .val (.int kk), .val (.double dx), .second, .val (.double rs), .second, .val (.int ins), .unset] [])) _
              refine XS.iconst X45.here hx rfl (hb hby at_369) ?_
              show Steps p.tables e below (T45.setTop (mkF m 370 #[.val (.int y1), .val (.int y2), .val (.int y3), .val (.int y4), .val (.int y5), .val (.int y6), .val (.long pp), .second, .val (.long q2), .second, .val (.long lo), .second, .val (.long pk), .second, .val (.long hi), .second, .val (.double dl), .second, .val (.double dp), .second, .val (.double dr), .second, .val (.ref ob), .val (.int md), .val (.int kk), .val (.double dx), .second, .val (.double rs), .second, .val (.int ins), .unset] [(.int (1 : Int32))])) _
              refine XS.goto X45.here hx rfl (pc0 := 370) (pc' := 374) rfl (hb hby at_370) (by decide) (by decide) ?_
              show Steps p.tables e below (T45.setTop (mkF m 374 #[.val (.int y1), .val (.int y2), .val (.int y3), .val (.int y4), .val (.int y5), .val (.int y6), .val (.long pp), .second, .val (.long q2), .second, .val (.long lo), .second, .val (.long pk), .second, .val (.long hi), .second, .val (.double dl), .second, .val (.double dp), .second, .val (.double dr), .second, .val (.ref ob), .val (.int md), .val (.int kk), .val (.double dx), .second, .val (.double rs), .second, .val (.int ins), .unset] [(.int (1 : Int32))])) _
              exact k
            · try simp only [if_neg q366_0] at k
              refine XS.ifYes X45.here hx rfl (pc0 := 366) (pc' := 373) rfl (hb hby at_366) rfl (XT.i0_le_t q366_0) (by decide) (by decide) ?_
              show Steps p.tables e below (T45.setTop (mkF m 373 #[.val (.int y1), .val (.int y2), .val (.int y3), .val (.int y4), .val (.int y5), .val (.int y6), .val (.long pp), .second, .val (.long q2), .second, .val (.long lo), .second, .val (.long pk), .second, .val (.long hi), .second, .val (.double dl), .second, .val (.double dp), .second, .val (.double dr), .second, .val (.ref ob), .val (.int md), .val (.int kk), .val (.double dx), .second, .val (.double rs), .second, .val (.int ins), .unset] [])) _
              refine XS.iconst X45.here hx rfl (hb hby at_373) ?_
              show Steps p.tables e below (T45.setTop (mkF m 374 #[.val (.int y1), .val (.int y2), .val (.int y3), .val (.int y4), .val (.int y5), .val (.int y6), .val (.long pp), .second, .val (.long q2), .second, .val (.long lo), .second, .val (.long pk), .second, .val (.long hi), .second, .val (.double dl), .second, .val (.double dp), .second, .val (.double dr), .second, .val (.ref ob), .val (.int md), .val (.int kk), .val (.double dx), .second, .val (.double rs), .second, .val (.int ins), .unset] [(.int (0 : Int32))])) _
              exact k)
          have gi : g1 = ins := by
            rw [hg1, hins]
            simp only [u365, m3, kv321, kv329, kv337]
            by_cases a1 : lo.toInt < y5.toInt <;> by_cases a2 : y5.toInt < hi.toInt <;> by_cases a3 : y5.toInt = pk.toInt <;> simp [a1, a2, a3]
          have c51 : ∀ t, Steps p.tables e below (T45.setTop (mkF m 383 #[.val (.int y1), .val (.int y2), .val (.int y3), .val (.int y4), .val (.int y5), .val (.int y6), .val (.long pp), .second, .val (.long q2), .second, .val (.long lo), .second, .val (.long pk), .second, .val (.long hi), .second, .val (.double dl), .second, .val (.double dp), .second, .val (.double dr), .second, .val (.ref ob), .val (.int md), .val (.int kk), .val (.double dx), .second, .val (.double rs), .second, .val (.int ins), .unset] [(.int k382)])) t → Steps p.tables e below (s₁.setTop (entryFrame m #[(.int y1), (.int y2), (.int y3), (.int y4), (.int y5), (.int y6)] maxLocals)) t := fun t k => c50 t (by
            show Steps p.tables e below (T45.setTop (mkF m 374 #[.val (.int y1), .val (.int y2), .val (.int y3), .val (.int y4), .val (.int y5), .val (.int y6), .val (.long pp), .second, .val (.long q2), .second, .val (.long lo), .second, .val (.long pk), .second, .val (.long hi), .second, .val (.double dl), .second, .val (.double dp), .second, .val (.double dr), .second, .val (.ref ob), .val (.int md), .val (.int kk), .val (.double dx), .second, .val (.double rs), .second, .val (.int ins), .unset] [(.int g1)])) _
            refine XS.iload X45.here hx rfl (hb hby at_374) rfl ?_
            show Steps p.tables e below (T45.setTop (mkF m 376 #[.val (.int y1), .val (.int y2), .val (.int y3), .val (.int y4), .val (.int y5), .val (.int y6), .val (.long pp), .second, .val (.long q2), .second, .val (.long lo), .second, .val (.long pk), .second, .val (.long hi), .second, .val (.double dl), .second, .val (.double dp), .second, .val (.double dr), .second, .val (.ref ob), .val (.int md), .val (.int kk), .val (.double dx), .second, .val (.double rs), .second, .val (.int ins), .unset] [(.int ins), (.int g1)])) _
            refine XS.icmpNo X45.here hx rfl (hb hby at_376) rfl (XT.ii_ne_f gi) ?_
            show Steps p.tables e below (T45.setTop (mkF m 379 #[.val (.int y1), .val (.int y2), .val (.int y3), .val (.int y4), .val (.int y5), .val (.int y6), .val (.long pp), .second, .val (.long q2), .second, .val (.long lo), .second, .val (.long pk), .second, .val (.long hi), .second, .val (.double dl), .second, .val (.double dp), .second, .val (.double dr), .second, .val (.ref ob), .val (.int md), .val (.int kk), .val (.double dx), .second, .val (.double rs), .second, .val (.int ins), .unset] [])) _
            refine XS.dload X45.here hx rfl (hb hby at_379) rfl ?_
            show Steps p.tables e below (T45.setTop (mkF m 381 #[.val (.int y1), .val (.int y2), .val (.int y3), .val (.int y4), .val (.int y5), .val (.int y6), .val (.long pp), .second, .val (.long q2), .second, .val (.long lo), .second, .val (.long pk), .second, .val (.long hi), .second, .val (.double dl), .second, .val (.double dp), .second, .val (.double dr), .second, .val (.ref ob), .val (.int md), .val (.int kk), .val (.double dx), .second, .val (.double rs), .second, .val (.int ins), .unset] [(.double rs)])) _
            refine XS.dconst1 X45.here hx rfl (hb hby at_381) rfl ?_
            show Steps p.tables e below (T45.setTop (mkF m 382 #[.val (.int y1), .val (.int y2), .val (.int y3), .val (.int y4), .val (.int y5), .val (.int y6), .val (.long pp), .second, .val (.long q2), .second, .val (.long lo), .second, .val (.long pk), .second, .val (.long hi), .second, .val (.double dl), .second, .val (.double dp), .second, .val (.double dr), .second, .val (.ref ob), .val (.int md), .val (.int kk), .val (.double dx), .second, .val (.double rs), .second, .val (.int ins), .unset] [(.double FP.dconst1), (.double rs)])) _
            refine XS.dcmpS X45.here hx rfl (hb hby at_382) rfl hk382 ?_
            show Steps p.tables e below (T45.setTop (mkF m 383 #[.val (.int y1), .val (.int y2), .val (.int y3), .val (.int y4), .val (.int y5), .val (.int y6), .val (.long pp), .second, .val (.long q2), .second, .val (.long lo), .second, .val (.long pk), .second, .val (.long hi), .second, .val (.double dl), .second, .val (.double dp), .second, .val (.double dr), .second, .val (.ref ob), .val (.int md), .val (.int kk), .val (.double dx), .second, .val (.double rs), .second, .val (.int ins), .unset] [(.int k382)])) _
            exact k)
          obtain ⟨g2, hg2⟩ : ∃ v : Int32, v = (if k382 = 0 then (1 : Int32) else (0 : Int32)) := ⟨_, rfl⟩
          have c52 : ∀ t, Steps p.tables e below (T45.setTop (mkF m 391 #[.val (.int y1), .val (.int y2), .val (.int y3), .val (.int y4), .val (.int y5), .val (.int y6), .val (.long pp), .second, .val (.long q2), .second, .val (.long lo), .second, .val (.long pk), .second, .val (.long hi), .second, .val (.double dl), .second, .val (.double dp), .second, .val (.double dr), .second, .val (.ref ob), .val (.int md), .val (.int kk), .val (.double dx), .second, .val (.double rs), .second, .val (.int ins), .unset] [(.int g2)])) t → Steps p.tables e below (s₁.setTop (entryFrame m #[(.int y1), (.int y2), (.int y3), (.int y4), (.int y5), (.int y6)] maxLocals)) t := fun t k => c51 t (by
            rw [hg2] at k
            show Steps p.tables e below (T45.setTop (mkF m 383 #[.val (.int y1), .val (.int y2), .val (.int y3), .val (.int y4), .val (.int y5), .val (.int y6), .val (.long pp), .second, .val (.long q2), .second, .val (.long lo), .second, .val (.long pk), .second, .val (.long hi), .second, .val (.double dl), .second, .val (.double dp), .second, .val (.double dr), .second, .val (.ref ob), .val (.int md), .val (.int kk), .val (.double dx), .second, .val (.double rs), .second, .val (.int ins), .unset] [(.int k382)])) _
            by_cases q383_0 : k382 = 0
            · try simp only [if_pos q383_0] at k
              refine XS.ifNo X45.here hx rfl (hb hby at_383) rfl (XT.i0_ne_f q383_0) ?_
              show Steps p.tables e below (T45.setTop (mkF m 386 #[.val (.int y1), .val (.int y2), .val (.int y3), .val (.int y4), .val (.int y5), .val (.int y6), .val (.long pp), .second, .val (.long q2), .second, .val (.long lo), .second, .val (.long pk), .second, .val (.long hi), .second, .val (.double dl), .second, .val (.double dp), .second, .val (.double dr), .second, .val (.ref ob), .val (.int md), .val (.int kk), .val (.double dx), .second, .val (.double rs), .second, .val (.int ins), .unset] [])) _
              refine XS.iconst X45.here hx rfl (hb hby at_386) ?_
              show Steps p.tables e below (T45.setTop (mkF m 387 #[.val (.int y1), .val (.int y2), .val (.int y3), .val (.int y4), .val (.int y5), .val (.int y6), .val (.long pp), .second, .val (.long q2), .second, .val (.long lo), .second, .val (.long pk), .second, .val (.long hi), .second, .val (.double dl), .second, .val (.double dp), .second, .val (.double dr), .second, .val (.ref ob), .val (.int md), .val (.int kk), .val (.double dx), .second, .val (.double rs), .second, .val (.int ins), .unset] [(.int (1 : Int32))])) _
              refine XS.goto X45.here hx rfl (pc0 := 387) (pc' := 391) rfl (hb hby at_387) (by decide) (by decide) ?_
              show Steps p.tables e below (T45.setTop (mkF m 391 #[.val (.int y1), .val (.int y2), .val (.int y3), .val (.int y4), .val (.int y5), .val (.int y6), .val (.long pp), .second, .val (.long q2), .second, .val (.long lo), .second, .val (.long pk), .second, .val (.long hi), .second, .val (.double dl), .second, .val (.double dp), .second, .val (.double dr), .second, .val (.ref ob), .val (.int md), .val (.int kk), .val (.double dx), .second, .val (.double rs), .second, .val (.int ins), .unset] [(.int (1 : Int32))])) _
              exact k
            · try simp only [if_neg q383_0] at k
              refine XS.ifYes X45.here hx rfl (pc0 := 383) (pc' := 390) rfl (hb hby at_383) rfl (XT.i0_ne_t q383_0) (by decide) (by decide) ?_
              show Steps p.tables e below (T45.setTop (mkF m 390 #[.val (.int y1), .val (.int y2), .val (.int y3), .val (.int y4), .val (.int y5), .val (.int y6), .val (.long pp), .second, .val (.long q2), .second, .val (.long lo), .second, .val (.long pk), .second, .val (.long hi), .second, .val (.double dl), .second, .val (.double dp), .second, .val (.double dr), .second, .val (.ref ob), .val (.int md), .val (.int kk), .val (.double dx), .second, .val (.double rs), .second, .val (.int ins), .unset] [])) _
              refine XS.iconst X45.here hx rfl (hb hby at_390) ?_
              show Steps p.tables e below (T45.setTop (mkF m 391 #[.val (.int y1), .val (.int y2), .val (.int y3), .val (.int y4), .val (.int y5), .val (.int y6), .val (.long pp), .second, .val (.long q2), .second, .val (.long lo), .second, .val (.long pk), .second, .val (.long hi), .second, .val (.double dl), .second, .val (.double dp), .second, .val (.double dr), .second, .val (.ref ob), .val (.int md), .val (.int kk), .val (.double dx), .second, .val (.double rs), .second, .val (.int ins), .unset] [(.int (0 : Int32))])) _
              exact k)
          have c53 : ∀ t, Steps p.tables e below (T45.setTop (mkF m 396 #[.val (.int y1), .val (.int y2), .val (.int y3), .val (.int y4), .val (.int y5), .val (.int y6), .val (.long pp), .second, .val (.long q2), .second, .val (.long lo), .second, .val (.long pk), .second, .val (.long hi), .second, .val (.double dl), .second, .val (.double dp), .second, .val (.double dr), .second, .val (.ref ob), .val (.int md), .val (.int kk), .val (.double dx), .second, .val (.double rs), .second, .val (.int ins), .unset] [(.int k395), (.int g2)])) t → Steps p.tables e below (s₁.setTop (entryFrame m #[(.int y1), (.int y2), (.int y3), (.int y4), (.int y5), (.int y6)] maxLocals)) t := fun t k => c52 t (by
            show Steps p.tables e below (T45.setTop (mkF m 391 #[.val (.int y1), .val (.int y2), .val (.int y3), .val (.int y4), .val (.int y5), .val (.int y6), .val (.long pp), .second, .val (.long q2), .second, .val (.long lo), .second, .val (.long pk), .second, .val (.long hi), .second, .val (.double dl), .second, .val (.double dp), .second, .val (.double dr), .second, .val (.ref ob), .val (.int md), .val (.int kk), .val (.double dx), .second, .val (.double rs), .second, .val (.int ins), .unset] [(.int g2)])) _
            refine XS.dload X45.here hx rfl (hb hby at_391) rfl ?_
            show Steps p.tables e below (T45.setTop (mkF m 393 #[.val (.int y1), .val (.int y2), .val (.int y3), .val (.int y4), .val (.int y5), .val (.int y6), .val (.long pp), .second, .val (.long q2), .second, .val (.long lo), .second, .val (.long pk), .second, .val (.long hi), .second, .val (.double dl), .second, .val (.double dp), .second, .val (.double dr), .second, .val (.ref ob), .val (.int md), .val (.int kk), .val (.double dx), .second, .val (.double rs), .second, .val (.int ins), .unset] [(.double dx), (.int g2)])) _
            refine XS.dload X45.here hx rfl (hb hby at_393) rfl ?_
            show Steps p.tables e below (T45.setTop (mkF m 395 #[.val (.int y1), .val (.int y2), .val (.int y3), .val (.int y4), .val (.int y5), .val (.int y6), .val (.long pp), .second, .val (.long q2), .second, .val (.long lo), .second, .val (.long pk), .second, .val (.long hi), .second, .val (.double dl), .second, .val (.double dp), .second, .val (.double dr), .second, .val (.ref ob), .val (.int md), .val (.int kk), .val (.double dx), .second, .val (.double rs), .second, .val (.int ins), .unset] [(.double dp), (.double dx), (.int g2)])) _
            refine XS.dcmpS X45.here hx rfl (hb hby at_395) rfl hk395 ?_
            show Steps p.tables e below (T45.setTop (mkF m 396 #[.val (.int y1), .val (.int y2), .val (.int y3), .val (.int y4), .val (.int y5), .val (.int y6), .val (.long pp), .second, .val (.long q2), .second, .val (.long lo), .second, .val (.long pk), .second, .val (.long hi), .second, .val (.double dl), .second, .val (.double dp), .second, .val (.double dr), .second, .val (.ref ob), .val (.int md), .val (.int kk), .val (.double dx), .second, .val (.double rs), .second, .val (.int ins), .unset] [(.int k395), (.int g2)])) _
            exact k)
          obtain ⟨g3, hg3⟩ : ∃ v : Int32, v = (if k395 = 0 then (1 : Int32) else (0 : Int32)) := ⟨_, rfl⟩
          have c54 : ∀ t, Steps p.tables e below (T45.setTop (mkF m 404 #[.val (.int y1), .val (.int y2), .val (.int y3), .val (.int y4), .val (.int y5), .val (.int y6), .val (.long pp), .second, .val (.long q2), .second, .val (.long lo), .second, .val (.long pk), .second, .val (.long hi), .second, .val (.double dl), .second, .val (.double dp), .second, .val (.double dr), .second, .val (.ref ob), .val (.int md), .val (.int kk), .val (.double dx), .second, .val (.double rs), .second, .val (.int ins), .unset] [(.int g3), (.int g2)])) t → Steps p.tables e below (s₁.setTop (entryFrame m #[(.int y1), (.int y2), (.int y3), (.int y4), (.int y5), (.int y6)] maxLocals)) t := fun t k => c53 t (by
            rw [hg3] at k
            show Steps p.tables e below (T45.setTop (mkF m 396 #[.val (.int y1), .val (.int y2), .val (.int y3), .val (.int y4), .val (.int y5), .val (.int y6), .val (.long pp), .second, .val (.long q2), .second, .val (.long lo), .second, .val (.long pk), .second, .val (.long hi), .second, .val (.double dl), .second, .val (.double dp), .second, .val (.double dr), .second, .val (.ref ob), .val (.int md), .val (.int kk), .val (.double dx), .second, .val (.double rs), .second, .val (.int ins), .unset] [(.int k395), (.int g2)])) _
            by_cases q396_0 : k395 = 0
            · try simp only [if_pos q396_0] at k
              refine XS.ifNo X45.here hx rfl (hb hby at_396) rfl (XT.i0_ne_f q396_0) ?_
              show Steps p.tables e below (T45.setTop (mkF m 399 #[.val (.int y1), .val (.int y2), .val (.int y3), .val (.int y4), .val (.int y5), .val (.int y6), .val (.long pp), .second, .val (.long q2), .second, .val (.long lo), .second, .val (.long pk), .second, .val (.long hi), .second, .val (.double dl), .second, .val (.double dp), .second, .val (.double dr), .second, .val (.ref ob), .val (.int md), .val (.int kk), .val (.double dx), .second, .val (.double rs), .second, .val (.int ins), .unset] [(.int g2)])) _
              refine XS.iconst X45.here hx rfl (hb hby at_399) ?_
              show Steps p.tables e below (T45.setTop (mkF m 400 #[.val (.int y1), .val (.int y2), .val (.int y3), .val (.int y4), .val (.int y5), .val (.int y6), .val (.long pp), .second, .val (.long q2), .second, .val (.long lo), .second, .val (.long pk), .second, .val (.long hi), .second, .val (.double dl), .second, .val (.double dp), .second, .val (.double dr), .second, .val (.ref ob), .val (.int md), .val (.int kk), .val (.double dx), .second, .val (.double rs), .second, .val (.int ins), .unset] [(.int (1 : Int32)), (.int g2)])) _
              refine XS.goto X45.here hx rfl (pc0 := 400) (pc' := 404) rfl (hb hby at_400) (by decide) (by decide) ?_
              show Steps p.tables e below (T45.setTop (mkF m 404 #[.val (.int y1), .val (.int y2), .val (.int y3), .val (.int y4), .val (.int y5), .val (.int y6), .val (.long pp), .second, .val (.long q2), .second, .val (.long lo), .second, .val (.long pk), .second, .val (.long hi), .second, .val (.double dl), .second, .val (.double dp), .second, .val (.double dr), .second, .val (.ref ob), .val (.int md), .val (.int kk), .val (.double dx), .second, .val (.double rs), .second, .val (.int ins), .unset] [(.int (1 : Int32)), (.int g2)])) _
              exact k
            · try simp only [if_neg q396_0] at k
              refine XS.ifYes X45.here hx rfl (pc0 := 396) (pc' := 403) rfl (hb hby at_396) rfl (XT.i0_ne_t q396_0) (by decide) (by decide) ?_
              show Steps p.tables e below (T45.setTop (mkF m 403 #[.val (.int y1), .val (.int y2), .val (.int y3), .val (.int y4), .val (.int y5), .val (.int y6), .val (.long pp), .second, .val (.long q2), .second, .val (.long lo), .second, .val (.long pk), .second, .val (.long hi), .second, .val (.double dl), .second, .val (.double dp), .second, .val (.double dr), .second, .val (.ref ob), .val (.int md), .val (.int kk), .val (.double dx), .second, .val (.double rs), .second, .val (.int ins), .unset] [(.int g2)])) _
              refine XS.iconst X45.here hx rfl (hb hby at_403) ?_
              show Steps p.tables e below (T45.setTop (mkF m 404 #[.val (.int y1), .val (.int y2), .val (.int y3), .val (.int y4), .val (.int y5), .val (.int y6), .val (.long pp), .second, .val (.long q2), .second, .val (.long lo), .second, .val (.long pk), .second, .val (.long hi), .second, .val (.double dl), .second, .val (.double dp), .second, .val (.double dr), .second, .val (.ref ob), .val (.int md), .val (.int kk), .val (.double dx), .second, .val (.double rs), .second, .val (.int ins), .unset] [(.int (0 : Int32)), (.int g2)])) _
              exact k)
          have gj : g2 = g3 := by
            rw [hg2, hg3]
            simp only [u382, m4, kv395]
          have c55 : ∀ t, Steps p.tables e below (T45.setTop (mkF m 412 #[.val (.int y1), .val (.int y2), .val (.int y3), .val (.int y4), .val (.int y5), .val (.int y6), .val (.long pp), .second, .val (.long q2), .second, .val (.long lo), .second, .val (.long pk), .second, .val (.long hi), .second, .val (.double dl), .second, .val (.double dp), .second, .val (.double dr), .second, .val (.ref ob), .val (.int md), .val (.int kk), .val (.double dx), .second, .val (.double rs), .second, .val (.int ins), .unset] [(.int (1 : Int32))])) t → Steps p.tables e below (s₁.setTop (entryFrame m #[(.int y1), (.int y2), (.int y3), (.int y4), (.int y5), (.int y6)] maxLocals)) t := fun t k => c54 t (by
            show Steps p.tables e below (T45.setTop (mkF m 404 #[.val (.int y1), .val (.int y2), .val (.int y3), .val (.int y4), .val (.int y5), .val (.int y6), .val (.long pp), .second, .val (.long q2), .second, .val (.long lo), .second, .val (.long pk), .second, .val (.long hi), .second, .val (.double dl), .second, .val (.double dp), .second, .val (.double dr), .second, .val (.ref ob), .val (.int md), .val (.int kk), .val (.double dx), .second, .val (.double rs), .second, .val (.int ins), .unset] [(.int g3), (.int g2)])) _
            refine XS.icmpNo X45.here hx rfl (hb hby at_404) rfl (XT.ii_ne_f gj) ?_
            show Steps p.tables e below (T45.setTop (mkF m 407 #[.val (.int y1), .val (.int y2), .val (.int y3), .val (.int y4), .val (.int y5), .val (.int y6), .val (.long pp), .second, .val (.long q2), .second, .val (.long lo), .second, .val (.long pk), .second, .val (.long hi), .second, .val (.double dl), .second, .val (.double dp), .second, .val (.double dr), .second, .val (.ref ob), .val (.int md), .val (.int kk), .val (.double dx), .second, .val (.double rs), .second, .val (.int ins), .unset] [])) _
            refine XS.iconst X45.here hx rfl (hb hby at_407) ?_
            show Steps p.tables e below (T45.setTop (mkF m 408 #[.val (.int y1), .val (.int y2), .val (.int y3), .val (.int y4), .val (.int y5), .val (.int y6), .val (.long pp), .second, .val (.long q2), .second, .val (.long lo), .second, .val (.long pk), .second, .val (.long hi), .second, .val (.double dl), .second, .val (.double dp), .second, .val (.double dr), .second, .val (.ref ob), .val (.int md), .val (.int kk), .val (.double dx), .second, .val (.double rs), .second, .val (.int ins), .unset] [(.int (1 : Int32))])) _
            refine XS.goto X45.here hx rfl (pc0 := 408) (pc' := 412) rfl (hb hby at_408) (by decide) (by decide) ?_
            show Steps p.tables e below (T45.setTop (mkF m 412 #[.val (.int y1), .val (.int y2), .val (.int y3), .val (.int y4), .val (.int y5), .val (.int y6), .val (.long pp), .second, .val (.long q2), .second, .val (.long lo), .second, .val (.long pk), .second, .val (.long hi), .second, .val (.double dl), .second, .val (.double dp), .second, .val (.double dr), .second, .val (.ref ob), .val (.int md), .val (.int kk), .val (.double dx), .second, .val (.double rs), .second, .val (.int ins), .unset] [(.int (1 : Int32))])) _
            exact k)
          obtain ⟨fs, hr, hrun, hended, hW, hsame⟩ := X45.leave (v := (some (.int (1 : Int32)))) (fun h => by rw [Bd.returns] at h; cases h)
          refine ⟨_, _, pre0 _ (c55 _ (retN X45 hx (t := .boolean) Bd.returns (by simp) (hb hby at_412) hr)), hrun, hended, _, _, rfl, ?_, ⟨_, rfl⟩, hW, hsame.mono (by decide) (by decide)⟩
          show Q_0 Z y1 y2 y3 y4 y5 y6 h0 n0 _ T45.heap _
          rw [e45]
          exact ⟨rfl, M45⟩
set_option maxRecDepth 65536 in
set_option maxHeartbeats 40000000 in
theorem comes_1 {Post : Tables → Env → Array Value → State → Outcome → State → Prop} (hpost : ∀ tb e args s v u, (limb_1_1.after args s (.returned v) u = true ∧ limb_1_2.after args s (.returned v) u = true ∧ True) → FrameEnd s (.returned v) u (Jvm.fieldLocs frame_1_writes args s ++ Jvm.arrayLocs frame_1_arrays args s ++ Jvm.staticLocs frame_1_statics s) 16 128 → Post tb e args s (.returned v) u) :
    ArmFor flags0 classFile x code maxLocals ret World_1 tables_1 room_1 Calls_1 rest_1 Pre_1 Post := by
  intro l hfl _ _ p e ha hc hk s m args below hf hA hF happ hP
  obtain ⟨hcalls, hrest, hpre⟩ := hP
  obtain ⟨-, -, -, hnamed, -, -, -, hat⟩ := (Spec.applies_iff hf).mp happ
  obtain ⟨hg, hn⟩ := and_e (Cond.before_iff.mp (show (Jvm.Cond.and given_1 narrow_1).before args s = true from hpre))
  obtain ⟨g0, r0⟩ := and_e hg
  obtain ⟨g1, r1⟩ := and_e r0
  obtain ⟨g2, r2⟩ := and_e r1
  obtain ⟨g3, r3⟩ := and_e r2
  obtain ⟨g4, r4⟩ := and_e r3
  obtain ⟨g5, r5⟩ := and_e r4
  obtain ⟨w0, w1, w2, w3, w4, w5, rfl⟩ : ∃ w0 w1 w2 w3 w4 w5 : Value, args = #[w0, w1, w2, w3, w4, w5] := by
    have hs : args.size = 6 := by simpa [Cond.value, given_1] using g0
    obtain ⟨L⟩ := args
    match L, hs with
    | [w0, w1, w2, w3, w4, w5], _ => exact ⟨w0, w1, w2, w3, w4, w5, rfl⟩
  have hw := fun d (hd : d ∈ tables_1) => atoms_spec (ws := Jvm.Cond.code x code maxLocals ret :: tables_1) hat d (List.mem_cons_of_mem _ hd)
  obtain ⟨i0, e0⟩ := is_v g1
  obtain rfl : w0 = (.int i0) := Option.some.inj e0
  obtain ⟨i1, e1⟩ := is_v g2
  obtain rfl : w1 = (.int i1) := Option.some.inj e1
  obtain ⟨i2, e2⟩ := is_v g3
  obtain rfl : w2 = (.int i2) := Option.some.inj e2
  obtain ⟨i3, e3⟩ := is_v g4
  obtain rfl : w3 = (.int i3) := Option.some.inj e3
  obtain ⟨i4, e4⟩ := is_v g5
  obtain rfl : w4 = (.int i4) := Option.some.inj e4
  obtain ⟨i5, e5⟩ := is_v r5
  obtain rfl : w5 = (.int i5) := Option.some.inj e5
  obtain ⟨n, o, h1, h2, h3, _, L, rfl, ⟨rfl, N⟩, hq⟩ := rm_0 l s _ hw tables_1 i0 i1 i2 i3 i4 i5 s.heap s.heap.size (Nat.le_refl _)  p e ha hc hk s m _ below hf ((Spec.applies_iff_loose hf).mp happ).1 ⟨rfl, State.Warmed39.refl s, rfl⟩ trivial
  refine ⟨n, _, h1, h2, h3, hpost _ _ _ _ _ _ ⟨Cond.after_iff.mpr rfl, Cond.after_iff.mpr (eq_i res_at (Term.int_eval (1)) rfl), trivial⟩ ⟨hq.1, hq.2.1, (hq.2.2.sift fun y hy => Or.inr (N y hy)).mono (by decide) (by decide)⟩⟩
theorem main_1_1 : Claimed_1_1 := comes_1 fun _ _ _ _ _ _ h hF => ⟨h.1, hF⟩
theorem main_1_2 : Claimed_1_2 := comes_1 fun _ _ _ _ _ _ h hF => ⟨h.2.1, hF⟩
end Jvm.Pilot.@@N@@
namespace Jvm.Pilot.@@N@@
open Jvm Jvm.ClassFile Sem Op Lib Jvm.Free Jvm.Stand Jvm.Pilot.@@N@@.Jvm.D
/-! MADE BY PROGRAM (witnessworld.py) out of the Statement's table words and the real class files: 16 classes; the members and pool entries that the words name. The judged class is class 1, her method 1. -/
namespace start1
open Jvm.ClassFile
def u (s : String) : CpInfo := .utf8 (stringToUtf16 s)
/-- a pool by its gaps: so many unusable entries, then the entry; so many at the end -/
def gap : Nat → List CpInfo → List CpInfo
  | 0, r => r
  | n + 1, r => .unusable :: gap n r
def poolList (es : List (Nat × CpInfo)) (last : Nat) : List CpInfo := es.foldr (fun e r => gap e.1 (e.2 :: r)) (gap last [])
def pool (es : List (Nat × CpInfo)) (last : Nat) : Array CpInfo := ⟨poolList es last⟩
def fileOf (pool : Array CpInfo) (this : Nat) (attrs : Array Attribute := #[]) (ms : Array MethodInfo := #[]) (fl : Nat := 33) (sup : Nat := 0) (ifs : Array Nat := #[]) (fds : Array FieldInfo := #[]) : ClassFile where
  minorVersion := 0
  majorVersion := 65
  constantPool := pool
  accessFlags := fl
  thisClass := this
  superClass := sup
  interfaces := ifs
  fields := fds
  methods := ms
  attributes := attrs
def plain (name : String) (sup : Option ClassId) : Class where
  name := name
  kind := .ordinary
  loader := none
  accessFlags := 33
  super := sup
  interfaces := #[]
  cf := none
  fields := #[]
  methods := #[]
  instanceTypes := #[]
  staticTypes := #[]
  resolved := #[]
  callSites := []
  init := .initialized
  statics := none
  mirror := none

def pool0 : Array CpInfo := pool [(5, u "<init>"), (0, u "()V"), (1, .class_ 10), (1, u "java/lang/Object")] 113

def k0c0 : Code := { maxStack := 0, maxLocals := 1, code := object_method_1_code, exceptionTable := #[], attributes := #[] }
def k0m0 : Method := { name := "<init>", desc := "()V", sig := { parameters := [], returnType := none }, accessFlags := 1, code := some k0c0 }
/-- java/lang/Object -/
def k0 : Class := { plain "java/lang/Object" none with
  accessFlags := 33
  interfaces := #[]
  cf := some (fileOf pool0 8 #[] #[{ accessFlags := 1, nameIndex := 5, descriptorIndex := 6, attributes := #[] }] 33 0 #[] #[])
  fields := #[]
  methods := #[k0m0]
  instanceTypes := #[]
  staticTypes := #[]
  resolved := Array.replicate 124 none
  statics := none }

def pool1 : Array CpInfo := pool [(2, .class_ 4), (1, u "java/lang/Object"), (0, u "<init>"), (0, u "()V"), (0, .integer 65535), (0, .long 4), (1, .class_ 11), (0, u "com/example/foglane/foglane/uncertainty/FuzzyRuleBase$Term"), (0, .methodref 10 13), (0, .nameAndType 5 14), (0, u "(DDD)V"), (0, .integer 2147483647), (0, .methodref 10 17), (0, .nameAndType 18 19), (0, u "membership"), (0, u "(D)D"), (0, .double 4616189618054758400), (1, .integer 16777215), (0, .class_ 24), (0, u "com/example/foglane/foglane/uncertainty/TermMembershipPinLaw"), (2, u "law"), (0, u "(IIIIII)Z")] 7

def k1m0 : Method := { name := "<init>", desc := "()V", sig := { parameters := [], returnType := none }, accessFlags := 1, code := none }
def k1c1 : Code := { maxStack := 8, maxLocals := 31, code := code, exceptionTable := #[], attributes := #[] }
def k1m1 : Method := { name := "law", desc := "(IIIIII)Z", sig := { parameters := [.int, .int, .int, .int, .int, .int], returnType := some .boolean }, accessFlags := 9, code := some k1c1 }
/-- com/example/foglane/foglane/uncertainty/TermMembershipPinLaw -/
def k1 : Class := { plain "com/example/foglane/foglane/uncertainty/TermMembershipPinLaw" (some 0) with
  accessFlags := 49
  interfaces := #[]
  cf := some (fileOf pool1 23 #[] #[{ accessFlags := 1, nameIndex := 5, descriptorIndex := 6, attributes := #[] }, { accessFlags := 9, nameIndex := 27, descriptorIndex := 28, attributes := #[] }] 49 2 #[] #[])
  fields := #[]
  methods := #[k1m0, k1m1]
  instanceTypes := #[]
  staticTypes := #[]
  resolved := Array.replicate 36 none
  statics := none }

def pool2 : Array CpInfo := pool [(1, .methodref 2 3), (0, .class_ 4), (0, .nameAndType 5 6), (0, u "java/lang/Object"), (0, u "<init>"), (0, u "()V"), (0, .class_ 8), (0, u "java/lang/Record")] 13

def k2c0 : Code := { maxStack := 1, maxLocals := 1, code := jdk_30_method_1_code, exceptionTable := #[], attributes := #[] }
def k2m0 : Method := { name := "<init>", desc := "()V", sig := { parameters := [], returnType := none }, accessFlags := 4, code := some k2c0 }
/-- java/lang/Record -/
def k2 : Class := { plain "java/lang/Record" (some 0) with
  accessFlags := 1057
  interfaces := #[]
  cf := some (fileOf pool2 7 #[] #[{ accessFlags := 4, nameIndex := 5, descriptorIndex := 6, attributes := #[] }] 1057 2 #[] #[])
  fields := #[]
  methods := #[k2m0]
  instanceTypes := #[]
  staticTypes := #[]
  resolved := Array.replicate 22 none
  statics := none }

def pool3 : Array CpInfo := pool [(1, .methodref 2 3), (0, .class_ 4), (0, .nameAndType 5 6), (0, u "java/lang/Record"), (0, u "<init>"), (0, u "()V"), (0, .methodref 8 9), (0, .class_ 10), (0, .nameAndType 11 12), (0, u "java/lang/Double"), (0, u "isInfinite"), (0, u "(D)Z"), (9, .fieldref 23 24), (0, .class_ 25), (0, .nameAndType 26 27), (0, u "com/example/foglane/foglane/uncertainty/FuzzyRuleBase$Term"), (0, u "left"), (0, u "D"), (0, .fieldref 23 29), (0, .nameAndType 30 27), (0, u "peak"), (0, .fieldref 23 32), (0, .nameAndType 33 27), (0, u "right"), (12, u "(DDD)V"), (4, u "membership"), (0, u "(D)D"), (7, .class_ 61), (0, u "com/example/foglane/foglane/uncertainty/FuzzyRuleBase")] 29

def k3c0 : Code := { maxStack := 8, maxLocals := 7, code := prog_91_method_1_code, exceptionTable := #[], attributes := #[] }
def k3m0 : Method := { name := "<init>", desc := "(DDD)V", sig := { parameters := [.double, .double, .double], returnType := none }, accessFlags := 1, code := some k3c0 }
def k3c1 : Code := { maxStack := 6, maxLocals := 3, code := prog_91_method_2_code, exceptionTable := #[], attributes := #[] }
def k3m1 : Method := { name := "membership", desc := "(D)D", sig := { parameters := [.double], returnType := some .double }, accessFlags := 1, code := some k3c1 }
/-- com/example/foglane/foglane/uncertainty/FuzzyRuleBase$Term -/
def k3 : Class := { plain "com/example/foglane/foglane/uncertainty/FuzzyRuleBase$Term" (some 2) with
  accessFlags := 49
  interfaces := #[]
  cf := some (fileOf pool3 23 #[.nestHost 60] #[{ accessFlags := 1, nameIndex := 5, descriptorIndex := 46, attributes := #[] }, { accessFlags := 1, nameIndex := 51, descriptorIndex := 52, attributes := #[] }] 49 2 #[] #[{ accessFlags := 18, nameIndex := 26, descriptorIndex := 27, attributes := #[] }, { accessFlags := 18, nameIndex := 30, descriptorIndex := 27, attributes := #[] }, { accessFlags := 18, nameIndex := 33, descriptorIndex := 27, attributes := #[] }])
  fields := #[{ name := "left", type := .double, accessFlags := 18, slot := 0, constantValue := 0 }, { name := "peak", type := .double, accessFlags := 18, slot := 1, constantValue := 0 }, { name := "right", type := .double, accessFlags := 18, slot := 2, constantValue := 0 }]
  methods := #[k3m0, k3m1]
  instanceTypes := #[.double, .double, .double]
  staticTypes := #[]
  resolved := Array.replicate 91 none
  statics := none }

def pool4 : Array CpInfo := pool [(1, .class_ 2), (0, u "java/io/Serializable"), (0, .class_ 4), (0, u "java/lang/Object")] 2

/-- java/io/Serializable -/
def k4 : Class := { plain "java/io/Serializable" (some 0) with
  accessFlags := 1537
  interfaces := #[]
  cf := some (fileOf pool4 1 #[] #[] 1537 3 #[] #[])
  fields := #[]
  methods := #[]
  instanceTypes := #[]
  staticTypes := #[]
  resolved := Array.replicate 7 none
  statics := none }

def pool5 : Array CpInfo := pool [(2, .class_ 4), (1, u "java/lang/Object"), (0, u "<init>"), (0, u "()V"), (1, .class_ 10), (1, u "java/lang/Number"), (2, .class_ 14), (0, u "java/io/Serializable"), (0, u "serialVersionUID"), (0, u "J")] 20

def k5m0 : Method := { name := "<init>", desc := "()V", sig := { parameters := [], returnType := none }, accessFlags := 1, code := none }
/-- java/lang/Number -/
def k5 : Class := { plain "java/lang/Number" (some 0) with
  accessFlags := 1057
  interfaces := #[4]
  cf := some (fileOf pool5 8 #[] #[{ accessFlags := 1, nameIndex := 5, descriptorIndex := 6, attributes := #[] }] 1057 2 #[13] #[{ accessFlags := 26, nameIndex := 15, descriptorIndex := 16, attributes := #[] }])
  fields := #[{ name := "serialVersionUID", type := .long, accessFlags := 26, slot := 0, constantValue := 0 }]
  methods := #[k5m0]
  instanceTypes := #[]
  staticTypes := #[.long]
  resolved := Array.replicate 37 none
  statics := none }

def pool6 : Array CpInfo := pool [(1, .class_ 2), (0, u "java/lang/Comparable"), (0, .class_ 4), (0, u "java/lang/Object")] 7

/-- java/lang/Comparable -/
def k6 : Class := { plain "java/lang/Comparable" (some 0) with
  accessFlags := 1537
  interfaces := #[]
  cf := some (fileOf pool6 1 #[] #[] 1537 3 #[] #[])
  fields := #[]
  methods := #[]
  instanceTypes := #[]
  staticTypes := #[]
  resolved := Array.replicate 12 none
  statics := none }

def pool7 : Array CpInfo := pool [(1, .class_ 2), (0, u "java/lang/constant/Constable"), (0, .class_ 4), (0, u "java/lang/Object")] 6

/-- java/lang/constant/Constable -/
def k7 : Class := { plain "java/lang/constant/Constable" (some 0) with
  accessFlags := 1537
  interfaces := #[]
  cf := some (fileOf pool7 1 #[] #[] 1537 3 #[] #[])
  fields := #[]
  methods := #[]
  instanceTypes := #[]
  staticTypes := #[]
  resolved := Array.replicate 11 none
  statics := none }

def pool8 : Array CpInfo := pool [(1, .class_ 2), (0, u "java/lang/constant/ConstantDesc"), (0, .class_ 4), (0, u "java/lang/Object")] 32

/-- java/lang/constant/ConstantDesc -/
def k8 : Class := { plain "java/lang/constant/ConstantDesc" (some 0) with
  accessFlags := 1537
  interfaces := #[]
  cf := some (fileOf pool8 1 #[] #[] 1537 3 #[] #[])
  fields := #[]
  methods := #[]
  instanceTypes := #[]
  staticTypes := #[]
  resolved := Array.replicate 37 none
  statics := none }

def pool9 : Array CpInfo := pool [(1, .class_ 2), (0, u "java/lang/Double"), (11, u "(D)Z"), (8, .class_ 25), (1, u "java/lang/Math"), (12, .methodref 23 39), (0, .nameAndType 40 41), (0, u "abs"), (0, u "(D)D"), (69, .double 9218868437227405311), (2, .class_ 116), (1, u "java/lang/Number"), (3, u "value"), (0, u "D"), (5, u "isInfinite"), (45, u "TYPE"), (0, u "Ljava/lang/Class;"), (0, .class_ 176), (0, u "java/lang/Comparable"), (0, .class_ 178), (0, u "java/lang/constant/Constable"), (0, .class_ 180), (0, u "java/lang/constant/ConstantDesc"), (0, u "POSITIVE_INFINITY"), (3, u "NEGATIVE_INFINITY"), (2, u "NaN"), (2, u "MAX_VALUE"), (0, u "MIN_NORMAL"), (0, u "MIN_VALUE"), (2, u "SIZE"), (0, u "I"), (1, u "PRECISION"), (1, u "MAX_EXPONENT"), (1, u "MIN_EXPONENT"), (1, u "BYTES"), (3, u "serialVersionUID"), (0, u "J")] 79

def k9c0 : Code := { maxStack := 4, maxLocals := 2, code := jdk_117_method_7_code, exceptionTable := #[], attributes := #[] }
def k9m0 : Method := { name := "isInfinite", desc := "(D)Z", sig := { parameters := [.double], returnType := some .boolean }, accessFlags := 9, code := some k9c0 }
/-- java/lang/Double -/
def k9 : Class := { plain "java/lang/Double" (some 5) with
  accessFlags := 49
  interfaces := #[6, 7, 8]
  cf := some (fileOf pool9 1 #[] #[{ accessFlags := 9, nameIndex := 127, descriptorIndex := 14, attributes := #[] }] 49 114 #[175, 177, 179] #[{ accessFlags := 25, nameIndex := 181, descriptorIndex := 121, attributes := #[] }, { accessFlags := 25, nameIndex := 185, descriptorIndex := 121, attributes := #[] }, { accessFlags := 25, nameIndex := 188, descriptorIndex := 121, attributes := #[] }, { accessFlags := 25, nameIndex := 191, descriptorIndex := 121, attributes := #[] }, { accessFlags := 25, nameIndex := 192, descriptorIndex := 121, attributes := #[] }, { accessFlags := 25, nameIndex := 193, descriptorIndex := 121, attributes := #[] }, { accessFlags := 25, nameIndex := 196, descriptorIndex := 197, attributes := #[] }, { accessFlags := 25, nameIndex := 199, descriptorIndex := 197, attributes := #[] }, { accessFlags := 25, nameIndex := 201, descriptorIndex := 197, attributes := #[] }, { accessFlags := 25, nameIndex := 203, descriptorIndex := 197, attributes := #[] }, { accessFlags := 25, nameIndex := 205, descriptorIndex := 197, attributes := #[] }, { accessFlags := 25, nameIndex := 173, descriptorIndex := 174, attributes := #[] }, { accessFlags := 18, nameIndex := 120, descriptorIndex := 121, attributes := #[] }, { accessFlags := 26, nameIndex := 209, descriptorIndex := 210, attributes := #[] }])
  fields := #[{ name := "POSITIVE_INFINITY", type := .double, accessFlags := 25, slot := 0, constantValue := 0 }, { name := "NEGATIVE_INFINITY", type := .double, accessFlags := 25, slot := 1, constantValue := 0 }, { name := "NaN", type := .double, accessFlags := 25, slot := 2, constantValue := 0 }, { name := "MAX_VALUE", type := .double, accessFlags := 25, slot := 3, constantValue := 0 }, { name := "MIN_NORMAL", type := .double, accessFlags := 25, slot := 4, constantValue := 0 }, { name := "MIN_VALUE", type := .double, accessFlags := 25, slot := 5, constantValue := 0 }, { name := "SIZE", type := .int, accessFlags := 25, slot := 6, constantValue := 0 }, { name := "PRECISION", type := .int, accessFlags := 25, slot := 7, constantValue := 0 }, { name := "MAX_EXPONENT", type := .int, accessFlags := 25, slot := 8, constantValue := 0 }, { name := "MIN_EXPONENT", type := .int, accessFlags := 25, slot := 9, constantValue := 0 }, { name := "BYTES", type := .int, accessFlags := 25, slot := 10, constantValue := 0 }, { name := "TYPE", type := (.object "java/lang/Class"), accessFlags := 25, slot := 11, constantValue := 0 }, { name := "value", type := .double, accessFlags := 18, slot := 0, constantValue := 0 }, { name := "serialVersionUID", type := .long, accessFlags := 26, slot := 12, constantValue := 0 }]
  methods := #[k9m0]
  instanceTypes := #[.double]
  staticTypes := #[.double, .double, .double, .double, .double, .double, .int, .int, .int, .int, .int, (.object "java/lang/Class"), .long]
  resolved := Array.replicate 290 none
  statics := none }

def pool10 : Array CpInfo := pool [(1, .class_ 2), (0, u "java/lang/Math"), (1, .class_ 6), (1, u "java/lang/Object"), (0, u "<init>"), (0, u "()V"), (5, u "(D)D"), (83, .class_ 100), (1, u "java/lang/Math$RandomNumberGeneratorHolder"), (23, u "abs"), (47, u "negativeZeroFloatBits"), (0, u "J"), (2, u "negativeZeroDoubleBits"), (68, u "$assertionsDisabled"), (0, u "Z"), (91, u "twoToTheDoubleScaleDown"), (0, u "D"), (4, u "twoToTheDoubleScaleUp"), (9, u "E"), (3, u "PI"), (2, u "TAU"), (2, u "DEGREES_TO_RADIANS"), (0, u "RADIANS_TO_DEGREES")] 94

def k10m0 : Method := { name := "<init>", desc := "()V", sig := { parameters := [], returnType := none }, accessFlags := 2, code := none }
def k10c1 : Code := { maxStack := 4, maxLocals := 2, code := jdk_29_method_64_code, exceptionTable := #[], attributes := #[] }
def k10m1 : Method := { name := "abs", desc := "(D)D", sig := { parameters := [.double], returnType := some .double }, accessFlags := 9, code := some k10c1 }
/-- java/lang/Math -/
def k10 : Class := { plain "java/lang/Math" (some 0) with
  accessFlags := 49
  interfaces := #[]
  cf := some (fileOf pool10 1 #[.nestMembers #[98]] #[{ accessFlags := 2, nameIndex := 7, descriptorIndex := 8, attributes := #[] }, { accessFlags := 9, nameIndex := 124, descriptorIndex := 14, attributes := #[] }] 49 4 #[] #[{ accessFlags := 25, nameIndex := 354, descriptorIndex := 339, attributes := #[] }, { accessFlags := 25, nameIndex := 358, descriptorIndex := 339, attributes := #[] }, { accessFlags := 25, nameIndex := 361, descriptorIndex := 339, attributes := #[] }, { accessFlags := 26, nameIndex := 364, descriptorIndex := 339, attributes := #[] }, { accessFlags := 26, nameIndex := 365, descriptorIndex := 339, attributes := #[] }, { accessFlags := 26, nameIndex := 172, descriptorIndex := 173, attributes := #[] }, { accessFlags := 26, nameIndex := 176, descriptorIndex := 173, attributes := #[] }, { accessFlags := 8, nameIndex := 344, descriptorIndex := 339, attributes := #[] }, { accessFlags := 8, nameIndex := 338, descriptorIndex := 339, attributes := #[] }, { accessFlags := 4120, nameIndex := 245, descriptorIndex := 246, attributes := #[] }])
  fields := #[{ name := "E", type := .double, accessFlags := 25, slot := 0, constantValue := 0 }, { name := "PI", type := .double, accessFlags := 25, slot := 1, constantValue := 0 }, { name := "TAU", type := .double, accessFlags := 25, slot := 2, constantValue := 0 }, { name := "DEGREES_TO_RADIANS", type := .double, accessFlags := 26, slot := 3, constantValue := 0 }, { name := "RADIANS_TO_DEGREES", type := .double, accessFlags := 26, slot := 4, constantValue := 0 }, { name := "negativeZeroFloatBits", type := .long, accessFlags := 26, slot := 5, constantValue := 0 }, { name := "negativeZeroDoubleBits", type := .long, accessFlags := 26, slot := 6, constantValue := 0 }, { name := "twoToTheDoubleScaleUp", type := .double, accessFlags := 8, slot := 7, constantValue := 0 }, { name := "twoToTheDoubleScaleDown", type := .double, accessFlags := 8, slot := 8, constantValue := 0 }, { name := "$assertionsDisabled", type := .boolean, accessFlags := 4120, slot := 9, constantValue := 0 }]
  methods := #[k10m0, k10m1]
  instanceTypes := #[]
  staticTypes := #[.double, .double, .double, .double, .double, .long, .long, .double, .double, .boolean]
  resolved := Array.replicate 460 none
  statics := none }

def pool11 : Array CpInfo := pool [(1, u "java/lang/Cloneable"), (0, .class_ 1), (0, u "java/lang/Object"), (0, .class_ 3)] 3

/-- java/lang/Cloneable -/
def k11 : Class := { plain "java/lang/Cloneable" (some 0) with
  accessFlags := 1537
  interfaces := #[]
  cf := some (fileOf pool11 2 #[] #[] 1537 4 #[] #[])
  fields := #[]
  methods := #[]
  instanceTypes := #[]
  staticTypes := #[]
  resolved := Array.replicate 8 none
  statics := none }

/-- the primitive byte -/
def k12 : Class := { plain "byte" none with kind := .primitive 'B', accessFlags := 0x411 }
/-- [B -/
def k13 : Class := { plain "[B" (some 0) with kind := .array 12 .byte, interfaces := #[11, 4], accessFlags := 1041 }

/-- the primitive int -/
def k14 : Class := { plain "int" none with kind := .primitive 'I', accessFlags := 0x411 }
/-- [I -/
def k15 : Class := { plain "[I" (some 0) with kind := .array 14 .int, interfaces := #[11, 4], accessFlags := 1041 }

def heap : Heap := #[]
def classes : Array Class := #[k0, k1, k2, k3, k4, k5, k6, k7, k8, k9, k10, k11, k12, k13, k14, k15]
def interned : List (Array UInt16 × Addr) := []
def slotsUsed : Nat := 0
def theMethod : MethodId := ⟨1, 1⟩
def args0 : Array Value := #[.int 3, .int 3, .int 3, .int 3, .int 3, .int 3]
def aboutOver (below : List Frame) : State where
  vm := { classes := classes, interned := interned.toArray }
  heap := heap
  slotsUsed := slotsUsed
  threads := #[{ frames := .invoking theMethod args0 :: below }]
def below0 : List Frame := [.native { method := ⟨0, 0⟩, args := #[] }]
def about1 : State := aboutOver below0
def p0 : Program := .bare "" "" ""
def e0 : Env := launch0.env 0 0 0
theorem w_frames : about1.frames = Frame.invoking theMethod args0 :: below0 := rfl
set_option maxRecDepth 65536 in
theorem w_args : argsFit about1.vm theMethod args0 = true := by decide +kernel
set_option maxRecDepth 65536 in
theorem w_heap : heapFits about1 = true := by decide +kernel
set_option maxRecDepth 65536 in
theorem w_runnable : about1.curStatus? = some .runnable := by decide +kernel
set_option maxRecDepth 65536 in
theorem w_alone : about1.alone = true := by decide +kernel
set_option maxRecDepth 65536 in
theorem w_named : about1.methodNamed? x = some theMethod := by decide +kernel
set_option maxRecDepth 65536 in
theorem w_hears : about1.hears theMethod below0 = true := by decide +kernel
set_option maxRecDepth 65536 in
theorem w_ripe : about1.ripe theMethod args0 below0 = true := by decide +kernel
theorem w_running : about1.status = .running := rfl
set_option maxRecDepth 65536 in
theorem w_room : about1.hasRoom e0.platform room_1 = true :=
  launch0.hasRoom_least _ room_1 (by decide +kernel) (by decide +kernel) (by decide +kernel) (by decide +kernel) (by decide +kernel) (by decide +kernel)
theorem allAtoms_all (ts : List Jvm.Cond) (a : Array Jvm.Value) (st : Jvm.State) : (allAtoms ts).before a st = ts.all (fun c => c.before a st) := by
  induction ts with
  | nil => rfl
  | cons c t ih =>
    show (Jvm.Cond.and c (allAtoms t)).before a st = _
    rw [Jvm.Cond.before_and, ih, List.all_cons]
def words1 : List Jvm.Cond := Jvm.Cond.code x code maxLocals ret :: tables_1
/-- a 'code' word, met by the world's own term for the bytes: nothing is compared byte by byte -/
theorem code_word {y : MethodName} {bytes : ByteArray} {mx : Nat} {rt : Option FieldType} {a : Array Value} {s : State} {m : MethodId} {meth : Method} {c : Code} (h1 : s.methodNamed? y = some m) (h2 : s.vm.method? m = some meth) (h3 : meth.code = some c) (h4 : c.code = bytes)
    (h5 : (c.maxLocals == mx && c.exceptionTable.isEmpty && decide (c.maxStack ≤ mostOperands) && decide (meth.sig.returnType = rt) && !meth.locks && decide (parseMethodDescriptor y.desc = some meth.sig)) = true) : (Jvm.Cond.code y bytes mx rt).before a s = true := by
  simp only [Bool.and_eq_true, beq_iff_eq, Bool.not_eq_true', decide_eq_true_eq] at h5
  obtain ⟨⟨⟨⟨⟨g1, g2⟩, g3⟩, g4⟩, g5⟩, g6⟩ := h5
  simp [Cond.before, Cond.holds, Cond.value, h1, h2, h3, h4, g1, g2, g3, g4, g5, g6]
def isCode : Jvm.Cond → Bool
  | .code _ _ _ _ => true
  | _ => false
theorem all_split {L : List Jvm.Cond} {P : Jvm.Cond → Bool} (h1 : L.all (fun c => isCode c || P c) = true) (h2 : ∀ c ∈ L.filter isCode, P c = true) : L.all P = true := by
  refine List.all_eq_true.mpr fun c hc => ?_
  have h := List.all_eq_true.mp h1 c hc
  rcases Bool.eq_false_or_eq_true (isCode c) with hi | hi
  · exact h2 c (List.mem_filter.mpr ⟨hc, hi⟩)
  · simpa [hi] using h
set_option maxRecDepth 65536 in
theorem w_c0 : (Jvm.Cond.code x code maxLocals ret).before args0 about1 = true := code_word (m := ⟨1, 1⟩) (meth := k1m1) (c := k1c1) (by decide +kernel) rfl rfl rfl (by decide +kernel)
set_option maxRecDepth 65536 in
theorem w_c1 : (Jvm.Cond.code ({ cls := "com/example/foglane/foglane/uncertainty/FuzzyRuleBase$Term", name := "<init>", desc := "(DDD)V" } : Jvm.MethodName) prog_91_method_1_code (7 : Nat) (Option.none : Option Jvm.ClassFile.FieldType)).before args0 about1 = true := code_word (m := ⟨3, 0⟩) (meth := k3m0) (c := k3c0) (by decide +kernel) rfl rfl rfl (by decide +kernel)
set_option maxRecDepth 65536 in
theorem w_c2 : (Jvm.Cond.code ({ cls := "java/lang/Record", name := "<init>", desc := "()V" } : Jvm.MethodName) jdk_30_method_1_code (1 : Nat) (Option.none : Option Jvm.ClassFile.FieldType)).before args0 about1 = true := code_word (m := ⟨2, 0⟩) (meth := k2m0) (c := k2c0) (by decide +kernel) rfl rfl rfl (by decide +kernel)
set_option maxRecDepth 65536 in
theorem w_c3 : (Jvm.Cond.code ({ cls := "java/lang/Object", name := "<init>", desc := "()V" } : Jvm.MethodName) object_method_1_code (1 : Nat) (Option.none : Option Jvm.ClassFile.FieldType)).before args0 about1 = true := code_word (m := ⟨0, 0⟩) (meth := k0m0) (c := k0c0) (by decide +kernel) rfl rfl rfl (by decide +kernel)
set_option maxRecDepth 65536 in
theorem w_c4 : (Jvm.Cond.code ({ cls := "java/lang/Double", name := "isInfinite", desc := "(D)Z" } : Jvm.MethodName) jdk_117_method_7_code (2 : Nat) (Option.some Jvm.ClassFile.FieldType.boolean)).before args0 about1 = true := code_word (m := ⟨9, 0⟩) (meth := k9m0) (c := k9c0) (by decide +kernel) rfl rfl rfl (by decide +kernel)
set_option maxRecDepth 65536 in
theorem w_c5 : (Jvm.Cond.code ({ cls := "java/lang/Math", name := "abs", desc := "(D)D" } : Jvm.MethodName) jdk_29_method_64_code (2 : Nat) (Option.some Jvm.ClassFile.FieldType.double)).before args0 about1 = true := code_word (m := ⟨10, 1⟩) (meth := k10m1) (c := k10c1) (by decide +kernel) rfl rfl rfl (by decide +kernel)
set_option maxRecDepth 65536 in
theorem w_c6 : (Jvm.Cond.code ({ cls := "com/example/foglane/foglane/uncertainty/FuzzyRuleBase$Term", name := "membership", desc := "(D)D" } : Jvm.MethodName) prog_91_method_2_code (3 : Nat) (Option.some Jvm.ClassFile.FieldType.double)).before args0 about1 = true := code_word (m := ⟨3, 1⟩) (meth := k3m1) (c := k3c1) (by decide +kernel) rfl rfl rfl (by decide +kernel)
def codes1 : List Jvm.Cond := [Jvm.Cond.code x code maxLocals ret, Jvm.Cond.code ({ cls := "com/example/foglane/foglane/uncertainty/FuzzyRuleBase$Term", name := "<init>", desc := "(DDD)V" } : Jvm.MethodName) prog_91_method_1_code (7 : Nat) (Option.none : Option Jvm.ClassFile.FieldType), Jvm.Cond.code ({ cls := "java/lang/Record", name := "<init>", desc := "()V" } : Jvm.MethodName) jdk_30_method_1_code (1 : Nat) (Option.none : Option Jvm.ClassFile.FieldType), Jvm.Cond.code ({ cls := "java/lang/Object", name := "<init>", desc := "()V" } : Jvm.MethodName) object_method_1_code (1 : Nat) (Option.none : Option Jvm.ClassFile.FieldType), Jvm.Cond.code ({ cls := "java/lang/Double", name := "isInfinite", desc := "(D)Z" } : Jvm.MethodName) jdk_117_method_7_code (2 : Nat) (Option.some Jvm.ClassFile.FieldType.boolean), Jvm.Cond.code ({ cls := "java/lang/Math", name := "abs", desc := "(D)D" } : Jvm.MethodName) jdk_29_method_64_code (2 : Nat) (Option.some Jvm.ClassFile.FieldType.double), Jvm.Cond.code ({ cls := "com/example/foglane/foglane/uncertainty/FuzzyRuleBase$Term", name := "membership", desc := "(D)D" } : Jvm.MethodName) prog_91_method_2_code (3 : Nat) (Option.some Jvm.ClassFile.FieldType.double)]
set_option maxRecDepth 65536 in
theorem codes_eq : words1.filter isCode = codes1 := rfl
theorem w_codes : ∀ c ∈ words1.filter isCode, c.before args0 about1 = true := by
  rw [codes_eq]
  intro c hc
  simp only [codes1, List.mem_cons, List.not_mem_nil, or_false] at hc
  rcases hc with rfl | rfl | rfl | rfl | rfl | rfl | rfl
  · exact w_c0
  · exact w_c1
  · exact w_c2
  · exact w_c3
  · exact w_c4
  · exact w_c5
  · exact w_c6
set_option maxRecDepth 65536 in
theorem w_t1 : (words1.take 24).all (fun c => isCode c || c.before args0 about1) = true := by decide +kernel
set_option maxRecDepth 65536 in
theorem w_t2 : (words1.drop 24).all (fun c => isCode c || c.before args0 about1) = true := by decide +kernel
theorem w_tables : (allAtoms (Jvm.Cond.code x code maxLocals ret :: tables_1)).before args0 about1 = true := by
  rw [allAtoms_all]
  show words1.all (fun c => c.before args0 about1) = true
  refine all_split ?_ w_codes
  rw [← List.take_append_drop 24 words1, List.all_append, w_t1, w_t2]
  rfl
set_option maxRecDepth 65536 in
theorem w_case : (Jvm.Cond.and given_1 narrow_1).before args0 about1 = true := by decide +kernel
theorem w_applies : (headSpec (Jvm.Cond.code x code maxLocals ret :: tables_1) room_1).applies x e0.platform about1 = true :=
  (Spec.applies_iff w_frames).mpr ⟨w_running, w_runnable, w_alone, w_named, w_hears, w_ripe, w_room, w_tables⟩
theorem atStart : AtStart classFile x code maxLocals ret World_1 tables_1 room_1 Calls_1 rest_1 Pre_1 launch0 p0 e0 about1 theMethod args0 below0 :=
  ⟨lists_1, trivial, launch0.admits_env _ _ _, launch0.least_env, fairChoices_fair.cas, fairChoices_fair.clock, w_frames, w_args, w_heap, w_applies, trivial, trivial, w_case⟩
end start1
theorem witness_1 : WitnessClaimed_1 := ⟨start1.p0, start1.e0, start1.about1, start1.theMethod, start1.args0, start1.below0, start1.atStart⟩
end Jvm.Pilot.@@N@@
