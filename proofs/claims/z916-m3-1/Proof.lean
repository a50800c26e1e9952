import JvmDerived
import JvmDerived.Pilot.@@N@@Statement
import JvmDerived.Pilot.@@N@@Code
set_option linter.unusedVariables false
set_option linter.unusedSimpArgs false
@@BLOCK:NumsL.lean.txt@@
namespace Jvm.RoadKit
open Sem ClassFile Op Lib Jvm.Stand Jvm.Free Jvm.LawKit
section New
variable {p : Program} {l : Launch} {e : Env} {R : Room} {s : State} {m : MethodId} {args : Array Value} {below : List Frame} {meth : Method} {c : Code} {T : State} {locs : List Loc} {cells slots : Nat}
theorem retI (X : Stand p l e R s m args below meth c T locs cells slots) (hx : p.tables.exec = Jvm.exec) {pc : Nat} {Ls : Array Slot} {z : Int32} {rest : List Value} (hret : meth.sig.returnType = some .int) (hd : decode c.code pc = .ok (.ireturn, 1)) {fs : List Frame}
    (hl : ∀ (f : JFrame) (acts : List Action), f.method = m → f.locked = none → f.entered = [] → (doReturn e (T.setTop f) acts (some (.int z))).1 = T.setFrames fs) : Steps p.tables e below (T.setTop (mkF m pc Ls (.int z :: rest))) (T.setFrames fs) := by
  have hm' : T.vm.method? m = some meth := X.method'
  have hn : narrow .int (.int z) = .int z := rfl
  show Steps p.tables e below (T.setTop { method := m, pc := pc, locals := Ls, stack := _ :: rest, locked := none }) _
  jvm_step X.here [X.here.top, hx, hd, hm', hret, hn]
  first | (intro acts; rw [hl _ acts rfl rfl rfl]) | rw [hl _ _ rfl rfl rfl]
  exact Steps.refl _
end New
end Jvm.RoadKit
namespace Jvm.OwnFP
open Jvm.FP
/-- a double's value in units of 2^-1074 -/
def zv (a : UInt64) : Int := Core.zval Core.b64 (Core.val64 a)
/-- how many units make one -/
def U : Int := (Core.one64 : Int)
theorem U_pos : 0 < U := by have := Core.one64_pos; unfold U; omega
theorem U_pow (k : Nat) (h : k ≤ 1074) : U = 2 ^ (1074 - k) * 2 ^ k := by
  have e : (2 : Int) ^ (1074 - k) * 2 ^ k = 2 ^ 1074 := by rw [← Int.pow_add]; congr 1; omega
  rw [e]; unfold U Core.one64; rw [Int.natCast_pow]; rfl
theorem pow_pos (k : Nat) : (0 : Int) < 2 ^ k := Int.pow_pos (by decide)
theorem notNan {a : UInt64} (h : Core.DFin a) : Core.val64 a ≠ .nan := by obtain ⟨s, c, q, h⟩ := h; rw [h]; exact Core.Datum.noConfusion
theorem fin_parts {a : UInt64} (h : Core.DFin a) : ∃ (s : Bool) (c i : Nat), Core.val64 a = .fin s c ((i : Int) - 1074) ∧ Core.fits Core.b64 (.fin s c ((i : Int) - 1074)) ∧ zv a = Core.signed s (c * 2 ^ i) := by
  obtain ⟨s, c, q, h⟩ := h
  have hf := Core.val64_fits a
  rw [h] at hf
  have hq : -1074 ≤ q := by have := hf.2.1; rw [Core.qmin_b64] at this; exact this
  obtain ⟨i, hi⟩ : ∃ i : Nat, q = (i : Int) - 1074 := ⟨(q + 1074).toNat, by omega⟩
  subst hi
  refine ⟨s, c, i, h, hf, ?_⟩
  unfold zv Core.zval; rw [h]
  show Core.signed s (c * 2 ^ ((i : Int) - 1074 - Core.b64.qmin).toNat) = _
  rw [Core.qmin_b64, show ((i : Int) - 1074 - -1074).toNat = i by omega]
/-- rounding a quotient is monotone: at most a number of the format -/
theorem ratio_le {s : Bool} {A B : Nat} {e e0 : Int} {V : Core.Datum} (hB : 0 < B) (hV : Core.fits Core.b64 V) (hn : V ≠ .nan) (h0 : e0 ≤ Core.b64.qmin) (h0e : e0 ≤ e)
    (h : Core.signed s (Core.inUnits A e e0) ≤ Core.zval Core.b64 V * ((2 ^ (Core.b64.qmin - e0).toNat * B : Nat) : Int)) :
    Core.zval Core.b64 (Core.roundRatio Core.b64 s A B e) ≤ Core.zval Core.b64 V := by
  have hle := Core.zmag_roundRatio_le Core.good_b64 (s := s) (A := A) hB hV hn h0 h0e
  have hge := Core.zmag_roundRatio_ge Core.good_b64 (s := s) (A := A) hB hV h0 h0e
  have hP : 0 < 2 ^ (Core.b64.qmin - e0).toNat * B := Nat.mul_pos (Nat.two_pow_pos _) hB
  rw [Nat.mul_assoc] at hle hge
  unfold Core.zval at h ⊢
  rw [Core.sgn_roundRatio]
  rw [← Core.signed_mul] at h
  have hz : Core.zmag Core.b64 V * (2 ^ (Core.b64.qmin - e0).toNat * B) = 0 → Core.zmag Core.b64 V = 0 := fun q => by
    rcases Nat.mul_eq_zero.mp q with q | q
    · exact q
    · omega
  generalize Core.zmag Core.b64 V * (2 ^ (Core.b64.qmin - e0).toNat * B) = vP at *
  generalize Core.sgn V = t at *
  generalize Core.zmag Core.b64 V = z at *
  generalize Core.zmag Core.b64 (Core.roundRatio Core.b64 s A B e) = r at *
  generalize Core.inUnits A e e0 = x at *
  cases s <;> cases t <;> simp only [Core.signed, if_true, Bool.false_eq_true, if_false] at h ⊢
  · have := hle (by omega); omega
  · have := hle (by omega); have := hz (by omega); omega
  · omega
  · have := hge (by omega); omega
theorem ratio_ge {s : Bool} {A B : Nat} {e e0 : Int} {V : Core.Datum} (hB : 0 < B) (hV : Core.fits Core.b64 V) (hn : V ≠ .nan) (h0 : e0 ≤ Core.b64.qmin) (h0e : e0 ≤ e)
    (h : Core.zval Core.b64 V * ((2 ^ (Core.b64.qmin - e0).toNat * B : Nat) : Int) ≤ Core.signed s (Core.inUnits A e e0)) :
    Core.zval Core.b64 V ≤ Core.zval Core.b64 (Core.roundRatio Core.b64 s A B e) := by
  have h1 := ratio_le (s := !s) (V := Core.negate V) hB (Core.negate_fits hV) (Core.negate_ne_nan hn) h0 h0e (by
    rw [Core.zval_negate, Int.neg_mul, Core.signed_not]; exact Int.neg_le_neg h)
  rw [Core.zval_negate, ← Core.negate_roundRatio, Core.zval_negate] at h1
  omega
theorem signed_pos_parts {t : Bool} {n : Nat} (h : 0 < Core.signed t n) : t = false ∧ 0 < n := by
  cases t <;> simp [Core.signed] at h ⊢ <;> omega
/-- the quotient as a rounded ratio -/
theorem ddiv_parts {a b : UInt64} (ha : Core.DFin a) (hb : Core.DFin b) (pb : 0 < zv b) :
    ∃ (s : Bool) (c d i j : Nat), zv a = Core.signed s (c * 2 ^ i) ∧ zv b = ((d * 2 ^ j : Nat) : Int) ∧ 0 < d ∧ Core.val64 (FP.ddiv a b) = Core.roundRatio Core.b64 s c d ((i : Int) - (j : Int)) := by
  obtain ⟨s, c, i, h1, f1, z1⟩ := fin_parts ha
  obtain ⟨t, d, j, h2, f2, z2⟩ := fin_parts hb
  rw [z2] at pb
  obtain ⟨rfl, hd⟩ := signed_pos_parts pb
  have hd' : 0 < d := Nat.pos_of_mul_pos_right hd
  refine ⟨s, c, d, i, j, z1, z2, hd', ?_⟩
  show Core.val64 (Core.ddiv a b) = _
  rw [Core.val64_ddiv, h1, h2]
  show (if d = 0 then _ else Core.roundRatio Core.b64 (s != false) c d ((i : Int) - 1074 - ((j : Int) - 1074))) = _
  rw [if_neg (by omega), show ((i : Int) - 1074 - ((j : Int) - 1074)) = (i : Int) - j by omega]
  cases s <;> rfl
theorem div_key {s : Bool} {c d i j : Nat} : Core.signed s (Core.inUnits c ((i : Int) - j) (-1074 - (j : Int))) = Core.signed s (c * 2 ^ i) * U ∧ ((2 ^ (Core.b64.qmin - (-1074 - (j : Int))).toNat * d : Nat) : Int) = ((d * 2 ^ j : Nat) : Int) := by
  constructor
  · unfold Core.inUnits
    rw [show ((i : Int) - j - (-1074 - (j : Int))).toNat = i + 1074 by omega, Nat.pow_add, ← Nat.mul_assoc, Core.signed_mul]
    rfl
  · rw [Core.qmin_b64, show (-1074 - (-1074 - (j : Int))).toNat = j by omega, Nat.mul_comm]
theorem ddiv_le {a b V : UInt64} (ha : Core.DFin a) (hb : Core.DFin b) (pb : 0 < zv b) (hV : Core.val64 V ≠ .nan) (h : zv a * U ≤ zv V * zv b) : zv (FP.ddiv a b) ≤ zv V := by
  obtain ⟨s, c, d, i, j, z1, z2, hd, hr⟩ := ddiv_parts ha hb pb
  have e : zv (FP.ddiv a b) = Core.zval Core.b64 (Core.roundRatio Core.b64 s c d ((i : Int) - (j : Int))) := by unfold zv; rw [hr]
  rw [e]
  refine ratio_le (e0 := -1074 - (j : Int)) hd (Core.val64_fits V) hV (by rw [Core.qmin_b64]; omega) (by omega) ?_
  rw [(div_key (d := d)).1, (div_key (s := s) (c := c) (i := i)).2, ← z1, ← z2]; exact h
theorem ddiv_ge {a b V : UInt64} (ha : Core.DFin a) (hb : Core.DFin b) (pb : 0 < zv b) (hV : Core.val64 V ≠ .nan) (h : zv V * zv b ≤ zv a * U) : zv V ≤ zv (FP.ddiv a b) := by
  obtain ⟨s, c, d, i, j, z1, z2, hd, hr⟩ := ddiv_parts ha hb pb
  have e : zv (FP.ddiv a b) = Core.zval Core.b64 (Core.roundRatio Core.b64 s c d ((i : Int) - (j : Int))) := by unfold zv; rw [hr]
  rw [e]
  refine ratio_ge (e0 := -1074 - (j : Int)) hd (Core.val64_fits V) hV (by rw [Core.qmin_b64]; omega) (by omega) ?_
  rw [(div_key (d := d)).1, (div_key (s := s) (c := c) (i := i)).2, ← z1, ← z2]; exact h
theorem ddiv_nn {a b : UInt64} (ha : Core.DFin a) (hb : Core.DFin b) (pb : 0 < zv b) : Core.val64 (FP.ddiv a b) ≠ .nan := by
  obtain ⟨s, c, d, i, j, z1, z2, hd, hr⟩ := ddiv_parts ha hb pb
  rw [hr]; exact Core.roundRatio_ne_nan _ _ _ _ _
/-- two quotients of one value -/
theorem ddiv_congr {a b a' b' : UInt64} (ha : Core.DFin a) (hb : Core.DFin b) (pb : 0 < zv b) (ha' : Core.DFin a') (hb' : Core.DFin b') (pb' : 0 < zv b') (hs : Core.sgn (Core.val64 a) = Core.sgn (Core.val64 a')) (h : zv a * zv b' = zv a' * zv b) : FP.ddiv a b = FP.ddiv a' b' := by
  obtain ⟨s, c, i, h1, f1, z1⟩ := fin_parts ha
  obtain ⟨s', c', i', h1', f1', z1'⟩ := fin_parts ha'
  obtain ⟨t, d, j, h2, f2, z2⟩ := fin_parts hb
  obtain ⟨t', d', j', h2', f2', z2'⟩ := fin_parts hb'
  rw [z2] at pb; rw [z2'] at pb'
  obtain ⟨rfl, hd⟩ := signed_pos_parts pb
  obtain ⟨rfl, hd'⟩ := signed_pos_parts pb'
  have hd1 : 0 < d := Nat.pos_of_mul_pos_right hd
  have hd1' : 0 < d' := Nat.pos_of_mul_pos_right hd'
  have es : s = s' := by rw [h1, h1'] at hs; exact hs
  subst es
  show Core.of64 (Core.quotient Core.b64 (Core.val64 a) (Core.val64 b)) = Core.of64 (Core.quotient Core.b64 (Core.val64 a') (Core.val64 b'))
  congr 1
  rw [h1, h2, h1', h2']
  show (if d = 0 then _ else Core.roundRatio Core.b64 (s != false) c d ((i : Int) - 1074 - ((j : Int) - 1074))) = (if d' = 0 then _ else Core.roundRatio Core.b64 (s != false) c' d' ((i' : Int) - 1074 - ((j' : Int) - 1074)))
  rw [if_neg (by omega), if_neg (by omega)]
  apply Core.roundRatio_congr hd1 hd1'
  have hn : (c * 2 ^ i) * (d' * 2 ^ j') = (c' * 2 ^ i') * (d * 2 ^ j) := by
    rw [z1, z1', z2, z2'] at h
    have : ∀ n : Nat, Core.signed false n = (n : Int) := fun _ => rfl
    rw [this, this, ← Core.signed_mul, ← Core.signed_mul] at h
    have := congrArg Int.natAbs h
    rwa [Core.natAbs_signed, Core.natAbs_signed] at this
  generalize hE : (i : Int) - 1074 - ((j : Int) - 1074) = E
  generalize hE' : (i' : Int) - 1074 - ((j' : Int) - 1074) = E'
  have k1 : c * d' * 2 ^ (i + j') = c' * d * 2 ^ (i' + j) := by
    rw [Nat.pow_add, Nat.pow_add]
    calc c * d' * (2 ^ i * 2 ^ j') = (c * 2 ^ i) * (d' * 2 ^ j') := by ac_rfl
      _ = (c' * 2 ^ i') * (d * 2 ^ j) := hn
      _ = c' * d * (2 ^ i' * 2 ^ j) := by ac_rfl
  by_cases hle : i' + j ≤ i + j'
  · have e1 : (E - E').toNat = i + j' - (i' + j) := by omega
    have e2 : (E' - E).toNat = 0 := by omega
    rw [e1, e2]
    have : 2 ^ (i + j') = 2 ^ (i + j' - (i' + j)) * 2 ^ (i' + j) := by rw [← Nat.pow_add]; congr 1; omega
    rw [this, ← Nat.mul_assoc] at k1
    simpa using Nat.eq_of_mul_eq_mul_right (Nat.two_pow_pos _) k1
  · have e1 : (E - E').toNat = 0 := by omega
    have e2 : (E' - E).toNat = i' + j - (i + j') := by omega
    rw [e1, e2]
    have : 2 ^ (i' + j) = 2 ^ (i' + j - (i + j')) * 2 ^ (i + j') := by rw [← Nat.pow_add]; congr 1; omega
    rw [this, ← Nat.mul_assoc] at k1
    simpa using Nat.eq_of_mul_eq_mul_right (Nat.two_pow_pos _) k1
theorem dmul_parts {a b : UInt64} (ha : Core.DFin a) (hb : Core.DFin b) :
    ∃ (s : Bool) (n : Nat) (e : Int), Core.val64 (FP.dmul a b) = Core.round Core.b64 (.fin s n e) ∧ -2148 ≤ e ∧ Core.signed s (Core.inUnits n e (-2148)) = zv a * zv b := by
  obtain ⟨s, c, i, h1, f1, z1⟩ := fin_parts ha
  obtain ⟨t, d, j, h2, f2, z2⟩ := fin_parts hb
  obtain ⟨p1, p2, p3⟩ := Core.product_units f1 f2
  refine ⟨s != t, c * d, (i : Int) - 1074 + ((j : Int) - 1074), ?_, by omega, ?_⟩
  · show Core.val64 (Core.dmul a b) = _
    rw [Core.val64_dmul, h1, h2, p1]
  · rw [z1, z2]
    unfold Core.inUnits
    rw [show ((i : Int) - 1074 + ((j : Int) - 1074) - (-2148)).toNat = i + j by omega, Nat.pow_add,
      show c * d * (2 ^ i * 2 ^ j) = (c * 2 ^ i) * (d * 2 ^ j) by ac_rfl, Core.signed_xor]
theorem mul_key : ((2 ^ (Core.b64.qmin - (-2148 : Int)).toNat : Nat) : Int) = U := by
  rw [Core.qmin_b64]; rfl
theorem dmul_le {a b V : UInt64} (ha : Core.DFin a) (hb : Core.DFin b) (hV : Core.val64 V ≠ .nan) (h : zv a * zv b ≤ zv V * U) : zv (FP.dmul a b) ≤ zv V := by
  obtain ⟨s, n, e, h1, h2, h3⟩ := dmul_parts ha hb
  have e1 : zv (FP.dmul a b) = Core.zval Core.b64 (Core.round Core.b64 (.fin s n e)) := by unfold zv; rw [h1]
  rw [e1]
  refine Core.zval_round_le Core.good_b64 (e0 := -2148) (Core.val64_fits V) hV (by rw [Core.qmin_b64]; decide) h2 ?_
  rw [h3, mul_key]; exact h
theorem dmul_ge {a b V : UInt64} (ha : Core.DFin a) (hb : Core.DFin b) (hV : Core.val64 V ≠ .nan) (h : zv V * U ≤ zv a * zv b) : zv V ≤ zv (FP.dmul a b) := by
  obtain ⟨s, n, e, h1, h2, h3⟩ := dmul_parts ha hb
  have e1 : zv (FP.dmul a b) = Core.zval Core.b64 (Core.round Core.b64 (.fin s n e)) := by unfold zv; rw [h1]
  rw [e1]
  refine Core.zval_round_ge Core.good_b64 (e0 := -2148) (Core.val64_fits V) hV (by rw [Core.qmin_b64]; decide) h2 ?_
  rw [h3, mul_key]; exact h
theorem dmul_nn {a b : UInt64} (ha : Core.DFin a) (hb : Core.DFin b) : Core.val64 (FP.dmul a b) ≠ .nan := by
  obtain ⟨s, n, e, h1, h2, h3⟩ := dmul_parts ha hb
  rw [h1]; exact Core.roundRatio_ne_nan _ _ _ _ _
theorem dadd_le {a b V : UInt64} (ha : Core.DFin a) (hb : Core.DFin b) (hV : Core.val64 V ≠ .nan) (h : zv a + zv b ≤ zv V) : zv (FP.dadd a b) ≤ zv V := by
  have := Core.sum_le Core.good_b64 ha hb (Core.val64_fits a) (Core.val64_fits b) (Core.val64_fits V) hV h
  unfold zv; show Core.zval Core.b64 (Core.val64 (Core.dadd a b)) ≤ _
  rw [Core.val64_dadd]; exact this
theorem dadd_ge {a b V : UInt64} (ha : Core.DFin a) (hb : Core.DFin b) (hV : Core.val64 V ≠ .nan) (h : zv V ≤ zv a + zv b) : zv V ≤ zv (FP.dadd a b) := by
  have := Core.sum_ge Core.good_b64 ha hb (Core.val64_fits a) (Core.val64_fits b) (Core.val64_fits V) hV h
  unfold zv; show _ ≤ Core.zval Core.b64 (Core.val64 (Core.dadd a b))
  rw [Core.val64_dadd]; exact this
theorem dadd_nn {a b : UInt64} (ha : Core.DFin a) (hb : Core.DFin b) : Core.val64 (FP.dadd a b) ≠ .nan := by
  have := Core.dadd_out (notNaN_of ha) hb
  exact (Core.notNaN_iff _).mp this
where notNaN_of {a : UInt64} (h : Core.DFin a) : Core.dIsNaN a = false := (Core.notNaN_iff a).mpr (notNan h)
theorem zv_dneg (a : UInt64) : zv (FP.dneg a) = - zv a := by
  unfold zv; rw [FP.val64_dneg, Core.zval_negate]
theorem fin_dneg {a : UInt64} (h : Core.DFin a) : Core.DFin (FP.dneg a) := by
  obtain ⟨s, c, q, h⟩ := h
  refine ⟨!s, c, q, ?_⟩
  rw [FP.val64_dneg, h]; rfl
theorem dsub_dadd {a b : UInt64} (hb : Core.DFin b) : FP.dsub a b = FP.dadd a (FP.dneg b) := by
  have h1 : FP.dneg b = Core.dneg b := FP.dneg_core ((Core.notNaN_iff b).mpr (notNan hb))
  rw [h1]; exact Core.dsub_eq a b
theorem dsub_le {a b V : UInt64} (ha : Core.DFin a) (hb : Core.DFin b) (hV : Core.val64 V ≠ .nan) (h : zv a - zv b ≤ zv V) : zv (FP.dsub a b) ≤ zv V := by
  rw [dsub_dadd hb]; exact dadd_le ha (fin_dneg hb) hV (by rw [zv_dneg]; omega)
theorem dsub_ge {a b V : UInt64} (ha : Core.DFin a) (hb : Core.DFin b) (hV : Core.val64 V ≠ .nan) (h : zv V ≤ zv a - zv b) : zv V ≤ zv (FP.dsub a b) := by
  rw [dsub_dadd hb]; exact dadd_ge ha (fin_dneg hb) hV (by rw [zv_dneg]; omega)
theorem dsub_nn {a b : UInt64} (ha : Core.DFin a) (hb : Core.DFin b) : Core.val64 (FP.dsub a b) ≠ .nan := by
  rw [dsub_dadd hb]; exact dadd_nn ha (fin_dneg hb)
/-- finite, if it lies between two finite ones -/
theorem fin_between {a V W : UInt64} (n : Core.val64 a ≠ .nan) (hV : Core.DFin V) (hW : Core.DFin W) (h1 : zv V ≤ zv a) (h2 : zv a ≤ zv W) : Core.DFin a := by
  have hv := hV.zval_lt; have hw := hW.zval_lt
  unfold zv Core.zval at h1 h2
  cases e : Core.val64 a with
  | nan => exact absurd e n
  | fin s c q => exact ⟨s, c, q, e⟩
  | inf s =>
    exfalso
    rw [e] at h1 h2
    have t : Core.zmag Core.b64 (.inf s) = Core.b64.tails * 2 ^ (Core.b64.exps - 2) := rfl
    rw [t] at h1 h2
    generalize Core.b64.tails * 2 ^ (Core.b64.exps - 2) = top at *
    generalize Core.zmag Core.b64 (Core.val64 V) = v at *
    generalize Core.zmag Core.b64 (Core.val64 W) = w at *
    generalize Core.sgn (Core.val64 V) = sv at *
    generalize Core.sgn (Core.val64 W) = sw at *
    cases s <;> cases sv <;> cases sw <;> simp [Core.signed, Core.sgn] at h1 h2 <;> omega
theorem signed_of (n : Int) : Core.signed (decide (n < 0)) n.natAbs = n := by
  unfold Core.signed
  by_cases q : n < 0
  · simp [q]; omega
  · simp [q]; omega
/-- n * 2^E units are a double -/
theorem repE (n : Int) (E : Nat) (hn : n.natAbs < 2 ^ 53) (hE : E ≤ 2045) : ∃ V, Core.DFin V ∧ zv V = n * 2 ^ E := by
  have hq : Core.b64.qmax = 971 := by decide
  obtain ⟨c', q', h1, h2⟩ := Core.round_exact Core.good_b64 (decide (n < 0)) (c := n.natAbs) (q := (E : Int) - 1074) hn (by rw [Core.qmin_b64]; omega) (by rw [hq]; omega)
  have h3 : Core.val64 (Core.of64 (Core.round Core.b64 (.fin (decide (n < 0)) n.natAbs ((E : Int) - 1074)))) = .fin (decide (n < 0)) c' q' := by
    rw [Core.val64_of64 (Core.round_fits Core.good_b64 _), h1]
  refine ⟨_, ⟨_, _, _, h3⟩, ?_⟩
  unfold zv Core.zval
  rw [h3]
  show Core.signed (decide (n < 0)) (Core.inUnits c' q' Core.b64.qmin) = _
  rw [h2]
  unfold Core.inUnits
  rw [Core.qmin_b64, show ((E : Int) - 1074 - -1074).toNat = E by omega, Core.signed_mul, signed_of, Int.natCast_pow]
  rfl
/-- n / 2^k is a double -/
theorem rep (n : Int) (k : Nat) (hn : n.natAbs ≤ 2 ^ 53) (hk : k ≤ 1000) : ∃ V, Core.DFin V ∧ zv V * 2 ^ k = n * U := by
  by_cases h : n.natAbs < 2 ^ 53
  · obtain ⟨V, fV, zV⟩ := repE n (1074 - k) h (by omega)
    exact ⟨V, fV, by rw [zV, U_pow k (by omega), Int.mul_assoc]⟩
  · by_cases hs : n < 0
    · obtain ⟨V, fV, zV⟩ := repE (-1) (53 + (1074 - k)) (by decide) (by omega)
      exact ⟨V, fV, by rw [zV, U_pow k (by omega), show n = -1 * 2 ^ 53 by omega, Int.pow_add]; ac_rfl⟩
    · obtain ⟨V, fV, zV⟩ := repE 1 (53 + (1074 - k)) (by decide) (by omega)
      exact ⟨V, fV, by rw [zV, U_pow k (by omega), show n = 1 * 2 ^ 53 by omega, Int.pow_add]; ac_rfl⟩
/-- and so are, with the infinities, the numbers up to 2^53 * 2^E -/
theorem repI (n : Int) (E : Nat) (hn : n.natAbs ≤ 2 ^ 53) (hE : E ≤ 2045) : ∃ V, Core.val64 V ≠ .nan ∧ zv V = n * 2 ^ E := by
  by_cases h : n.natAbs < 2 ^ 53
  · obtain ⟨V, fV, zV⟩ := repE n E h hE; exact ⟨V, notNan fV, zV⟩
  · by_cases hE2 : E + 53 ≤ 2045
    · by_cases hs : n < 0
      · obtain ⟨V, fV, zV⟩ := repE (-1) (53 + E) (by decide) (by omega)
        exact ⟨V, notNan fV, by rw [zV, show n = -1 * 2 ^ 53 by omega, Int.pow_add, Int.mul_assoc]⟩
      · obtain ⟨V, fV, zV⟩ := repE 1 (53 + E) (by decide) (by omega)
        exact ⟨V, notNan fV, by rw [zV, show n = 1 * 2 ^ 53 by omega, Int.pow_add, Int.mul_assoc]⟩
    · by_cases hE3 : E = 2045
      · subst hE3
        have v1 : Core.val64 9218868437227405312 = .inf false := by decide +kernel
        have v2 : Core.val64 18442240474082181120 = .inf true := by decide +kernel
        have z1 : Core.zmag Core.b64 (.inf false) = 2 ^ 53 * 2 ^ 2045 := by decide +kernel
        by_cases hs : n < 0
        · refine ⟨18442240474082181120, by rw [v2]; exact Core.Datum.noConfusion, ?_⟩
          unfold zv Core.zval; rw [v2]
          show Core.signed true (Core.zmag Core.b64 (.inf false)) = _
          rw [z1, Core.signed_mul, show n = -2 ^ 53 by omega, Int.natCast_pow]; rfl
        · refine ⟨9218868437227405312, by rw [v1]; exact Core.Datum.noConfusion, ?_⟩
          unfold zv Core.zval; rw [v1]
          show Core.signed false (Core.zmag Core.b64 (.inf false)) = _
          rw [z1, Core.signed_mul, show n = 2 ^ 53 by omega, Int.natCast_pow]; rfl
      · by_cases hs : n < 0
        · obtain ⟨V, fV, zV⟩ := repE (-2 ^ 52) (1 + E) (by decide) (by omega)
          exact ⟨V, notNan fV, by rw [zV, show n = -2 ^ 52 * 2 ^ 1 by omega, Int.pow_add, Int.mul_assoc]⟩
        · obtain ⟨V, fV, zV⟩ := repE (2 ^ 52) (1 + E) (by decide) (by omega)
          exact ⟨V, notNan fV, by rw [zV, show n = 2 ^ 52 * 2 ^ 1 by omega, Int.pow_add, Int.mul_assoc]⟩
theorem dmul_eq {a b V : UInt64} (ha : Core.DFin a) (hb : Core.DFin b) (hV : Core.val64 V ≠ .nan) (h : zv a * zv b = zv V * U) : zv (FP.dmul a b) = zv V := by
  have := dmul_le ha hb hV (Int.le_of_eq h); have := dmul_ge ha hb hV (Int.le_of_eq h.symm); omega
/-! ## values n / 2^k -/
/-- finite, and worth n / 2^k -/
def DS (n : Int) (k : Nat) (a : UInt64) : Prop := Core.DFin a ∧ zv a * 2 ^ k = n * U
def Le (a : UInt64) (n : Int) (k : Nat) : Prop := zv a * 2 ^ k ≤ n * U
def Ge (a : UInt64) (n : Int) (k : Nat) : Prop := n * U ≤ zv a * 2 ^ k
theorem DS.le {n : Int} {k : Nat} {a : UInt64} (h : DS n k a) : Le a n k := Int.le_of_eq h.2
theorem DS.ge {n : Int} {k : Nat} {a : UInt64} (h : DS n k a) : Ge a n k := Int.le_of_eq h.2.symm
theorem DS.int {i : Int} {a : UInt64} (h : Core.DInt i a) : DS i 0 a := by
  refine ⟨?_, ?_⟩
  · unfold Core.DInt at h
    cases e : Core.val64 a with
    | nan => rw [e] at h; exact h.elim
    | inf => rw [e] at h; exact h.elim
    | fin s c q => exact ⟨s, c, q, e⟩
  · show zv a * 2 ^ 0 = i * U
    rw [Int.pow_zero, Int.mul_one]; exact Core.DInt_zval h
theorem DS.i2d (x : Int32) : DS x.toInt 0 (FP.i2d x) := DS.int (Core.i2d_int x)
theorem DS.l2d {x : Int64} (h : x.toInt.natAbs ≤ 2 ^ 53) : DS x.toInt 0 (FP.l2d x) := DS.int (Core.l2d_int h)
theorem mul_cancel {a b c : Int} (hc : 0 < c) (h : a * c = b * c) : a = b := Int.eq_of_mul_eq_mul_right (by omega) h
theorem le_cancel {a b c : Int} (hc : 0 < c) (h : a * c ≤ b * c) : a ≤ b := Int.le_of_mul_le_mul_right h hc
theorem DS.up {n : Int} {k : Nat} {a : UInt64} (h : DS n k a) (j : Nat) : DS (n * 2 ^ j) (k + j) a := ⟨h.1, by
  rw [Int.pow_add, ← Int.mul_assoc, h.2]; grind⟩
theorem Le.up {n : Int} {k : Nat} {a : UInt64} (h : Le a n k) (j : Nat) : Le a (n * 2 ^ j) (k + j) := by
  unfold Le at *
  have := Int.mul_le_mul_of_nonneg_right h (Int.le_of_lt (pow_pos j))
  rw [Int.pow_add]; grind
theorem Ge.up {n : Int} {k : Nat} {a : UInt64} (h : Ge a n k) (j : Nat) : Ge a (n * 2 ^ j) (k + j) := by
  unfold Ge at *
  have := Int.mul_le_mul_of_nonneg_right h (Int.le_of_lt (pow_pos j))
  rw [Int.pow_add]; grind
/-- what lies between two bounds n / 2^k is finite -/
theorem fin_of {a : UInt64} {n m : Int} {k j : Nat} (nn : Core.val64 a ≠ .nan) (h1 : Ge a n k) (h2 : Le a m j) (bn : n.natAbs ≤ 2 ^ 53) (bm : m.natAbs ≤ 2 ^ 53) (hk : k ≤ 1000) (hj : j ≤ 1000) : Core.DFin a := by
  obtain ⟨V, fV, zV⟩ := rep n k bn hk
  obtain ⟨W, fW, zW⟩ := rep m j bm hj
  refine fin_between nn fV fW ?_ ?_
  · exact le_cancel (pow_pos k) (by unfold Ge at h1; omega)
  · exact le_cancel (pow_pos j) (by unfold Le at h2; omega)
theorem DS.of {a : UInt64} {n : Int} {k : Nat} (nn : Core.val64 a ≠ .nan) (h1 : Ge a n k) (h2 : Le a n k) (bn : n.natAbs ≤ 2 ^ 53) (hk : k ≤ 1000) : DS n k a :=
  ⟨fin_of nn h1 h2 bn bn hk hk, by unfold Ge at h1; unfold Le at h2; omega⟩
/-! the operations against bounds -/
theorem add_Le {a b : UInt64} {n m q : Int} {k : Nat} (fa : Core.DFin a) (fb : Core.DFin b) (ha : Le a n k) (hb : Le b m k) (h : n + m ≤ q) (bq : q.natAbs ≤ 2 ^ 53) (hk : k ≤ 1000) : Le (FP.dadd a b) q k := by
  obtain ⟨V, fV, zV⟩ := rep q k bq hk
  have h1 : zv (FP.dadd a b) ≤ zv V := dadd_le fa fb (notNan fV) (le_cancel (pow_pos k) (by
    unfold Le at ha hb
    rw [Int.add_mul, zV]
    have := Int.mul_le_mul_of_nonneg_right h (Int.le_of_lt U_pos)
    rw [Int.add_mul] at this; omega))
  unfold Le; rw [← zV]; exact Int.mul_le_mul_of_nonneg_right h1 (Int.le_of_lt (pow_pos k))
theorem add_Ge {a b : UInt64} {n m q : Int} {k : Nat} (fa : Core.DFin a) (fb : Core.DFin b) (ha : Ge a n k) (hb : Ge b m k) (h : q ≤ n + m) (bq : q.natAbs ≤ 2 ^ 53) (hk : k ≤ 1000) : Ge (FP.dadd a b) q k := by
  obtain ⟨V, fV, zV⟩ := rep q k bq hk
  have h1 : zv V ≤ zv (FP.dadd a b) := dadd_ge fa fb (notNan fV) (le_cancel (pow_pos k) (by
    unfold Ge at ha hb
    rw [Int.add_mul, zV]
    have := Int.mul_le_mul_of_nonneg_right h (Int.le_of_lt U_pos)
    rw [Int.add_mul] at this; omega))
  unfold Ge; rw [← zV]; exact Int.mul_le_mul_of_nonneg_right h1 (Int.le_of_lt (pow_pos k))
theorem DS.add {a b : UInt64} {n m : Int} {k : Nat} (ha : DS n k a) (hb : DS m k b) (bq : (n + m).natAbs ≤ 2 ^ 53) (hk : k ≤ 1000) : DS (n + m) k (FP.dadd a b) :=
  DS.of (dadd_nn ha.1 hb.1) (add_Ge ha.1 hb.1 ha.ge hb.ge (Int.le_refl _) bq hk) (add_Le ha.1 hb.1 ha.le hb.le (Int.le_refl _) bq hk) bq hk
theorem DS.neg {a : UInt64} {n : Int} {k : Nat} (ha : DS n k a) : DS (-n) k (FP.dneg a) := ⟨fin_dneg ha.1, by rw [zv_dneg, Int.neg_mul, ha.2, Int.neg_mul]⟩
theorem DS.sub {a b : UInt64} {n m : Int} {k : Nat} (ha : DS n k a) (hb : DS m k b) (bq : (n - m).natAbs ≤ 2 ^ 53) (hk : k ≤ 1000) : DS (n - m) k (FP.dsub a b) := by
  rw [dsub_dadd hb.1, show n - m = n + -m by omega]; exact ha.add hb.neg (by rw [← Int.sub_eq_add_neg]; exact bq) hk
theorem DS.mul {a b : UInt64} {n m : Int} {k j : Nat} (ha : DS n k a) (hb : DS m j b) (bq : (n * m).natAbs ≤ 2 ^ 53) (hk : k + j ≤ 1000) : DS (n * m) (k + j) (FP.dmul a b) := by
  obtain ⟨V, fV, zV⟩ := rep (n * m) (k + j) bq hk
  have e : zv a * zv b = zv V * U := by
    have h1 := ha.2; have h2 := hb.2
    refine mul_cancel (pow_pos (k + j)) ?_
    calc zv a * zv b * 2 ^ (k + j) = (zv a * 2 ^ k) * (zv b * 2 ^ j) := by rw [Int.pow_add]; grind
      _ = (n * U) * (m * U) := by rw [h1, h2]
      _ = (n * m * U) * U := by grind
      _ = zv V * U * 2 ^ (k + j) := by rw [← zV]; grind
  have g1 := dmul_le ha.1 hb.1 (notNan fV) (Int.le_of_eq e)
  have g2 := dmul_ge ha.1 hb.1 (notNan fV) (Int.le_of_eq e.symm)
  have g : zv (FP.dmul a b) = zv V := by omega
  exact ⟨fin_between (dmul_nn ha.1 hb.1) fV fV (by omega) (by omega), by rw [g, zV]⟩
theorem DS.pos {b : UInt64} {m : Int} {j : Nat} (hb : DS m j b) (hm : 0 < m) : 0 < zv b := by
  have h1 : 0 < zv b * 2 ^ j := by rw [hb.2]; exact Int.mul_pos hm U_pos
  exact Int.pos_of_mul_pos_left h1 (pow_pos j)
/-- a quotient against a bound q / 2^l -/
theorem div_Le {a b : UInt64} {n m q : Int} {k j l : Nat} (ha : DS n k a) (hb : DS m j b) (hm : 0 < m) (h : n * 2 ^ j * 2 ^ l ≤ q * m * 2 ^ k) (bq : q.natAbs ≤ 2 ^ 53) (hl : l ≤ 1000) : Le (FP.ddiv a b) q l := by
  obtain ⟨V, fV, zV⟩ := rep q l bq hl
  have h1 : zv (FP.ddiv a b) ≤ zv V := ddiv_le ha.1 hb.1 (hb.pos hm) (notNan fV) (by
    refine le_cancel (pow_pos (k + j + l)) ?_
    have e1 : zv a * U * 2 ^ (k + j + l) = (n * 2 ^ j * 2 ^ l) * (U * U) := by
      calc zv a * U * 2 ^ (k + j + l) = (zv a * 2 ^ k) * U * 2 ^ j * 2 ^ l := by rw [Int.pow_add, Int.pow_add]; grind
        _ = _ := by rw [ha.2]; grind
    have e2 : zv V * zv b * 2 ^ (k + j + l) = (q * m * 2 ^ k) * (U * U) := by
      calc zv V * zv b * 2 ^ (k + j + l) = (zv V * 2 ^ l) * (zv b * 2 ^ j) * 2 ^ k := by rw [Int.pow_add, Int.pow_add]; grind
        _ = _ := by rw [zV, hb.2]; grind
    rw [e1, e2]
    exact Int.mul_le_mul_of_nonneg_right h (Int.le_of_lt (Int.mul_pos U_pos U_pos)))
  unfold Le; rw [← zV]; exact Int.mul_le_mul_of_nonneg_right h1 (Int.le_of_lt (pow_pos l))
theorem div_Ge {a b : UInt64} {n m q : Int} {k j l : Nat} (ha : DS n k a) (hb : DS m j b) (hm : 0 < m) (h : q * m * 2 ^ k ≤ n * 2 ^ j * 2 ^ l) (bq : q.natAbs ≤ 2 ^ 53) (hl : l ≤ 1000) : Ge (FP.ddiv a b) q l := by
  obtain ⟨V, fV, zV⟩ := rep q l bq hl
  have h1 : zv V ≤ zv (FP.ddiv a b) := ddiv_ge ha.1 hb.1 (hb.pos hm) (notNan fV) (by
    refine le_cancel (pow_pos (k + j + l)) ?_
    have e1 : zv a * U * 2 ^ (k + j + l) = (n * 2 ^ j * 2 ^ l) * (U * U) := by
      calc zv a * U * 2 ^ (k + j + l) = (zv a * 2 ^ k) * U * 2 ^ j * 2 ^ l := by rw [Int.pow_add, Int.pow_add]; grind
        _ = _ := by rw [ha.2]; grind
    have e2 : zv V * zv b * 2 ^ (k + j + l) = (q * m * 2 ^ k) * (U * U) := by
      calc zv V * zv b * 2 ^ (k + j + l) = (zv V * 2 ^ l) * (zv b * 2 ^ j) * 2 ^ k := by rw [Int.pow_add, Int.pow_add]; grind
        _ = _ := by rw [zV, hb.2]; grind
    rw [e1, e2]
    exact Int.mul_le_mul_of_nonneg_right h (Int.le_of_lt (Int.mul_pos U_pos U_pos)))
  unfold Ge; rw [← zV]; exact Int.mul_le_mul_of_nonneg_right h1 (Int.le_of_lt (pow_pos l))
theorem DS.div {a b : UInt64} {n m q : Int} {k j l : Nat} (ha : DS n k a) (hb : DS m j b) (hm : 0 < m) (h : n * 2 ^ j * 2 ^ l = q * m * 2 ^ k) (bq : q.natAbs ≤ 2 ^ 53) (hl : l ≤ 1000) : DS q l (FP.ddiv a b) :=
  DS.of (ddiv_nn ha.1 hb.1 (hb.pos hm)) (div_Ge ha hb hm (Int.le_of_eq h.symm) bq hl) (div_Le ha hb hm (Int.le_of_eq h) bq hl) bq hl
/-! comparisons -/
theorem cmp_zv {a b : UInt64} (ha : Core.val64 a ≠ .nan) (hb : Core.val64 b ≠ .nan) : FP.dcmp a b = some (compare (zv a) (zv b)) := Core.dcmp_zval ha hb
theorem cmpV_of {a b : UInt64} (ha : Core.val64 a ≠ .nan) (hb : Core.val64 b ≠ .nan) (o : ClassFile.CmpOp) : Op.cmpValue (FP.dcmp a b) o = if zv a < zv b then -1 else if zv a = zv b then 0 else 1 := by
  rw [cmp_zv ha hb, Core.compare_ite]
  split
  · rfl
  · split <;> rfl
theorem cmp_gt {a b : UInt64} (ha : Core.val64 a ≠ .nan) (hb : Core.val64 b ≠ .nan) (h : zv b < zv a) (o : ClassFile.CmpOp) : Op.cmpValue (FP.dcmp a b) o = 1 := by
  rw [cmpV_of ha hb, if_neg (by omega), if_neg (by omega)]
theorem cmp_lt {a b : UInt64} (ha : Core.val64 a ≠ .nan) (hb : Core.val64 b ≠ .nan) (h : zv a < zv b) (o : ClassFile.CmpOp) : Op.cmpValue (FP.dcmp a b) o = -1 := by
  rw [cmpV_of ha hb, if_pos h]
theorem cmp_eq {a b : UInt64} (ha : Core.val64 a ≠ .nan) (hb : Core.val64 b ≠ .nan) (h : zv a = zv b) (o : ClassFile.CmpOp) : Op.cmpValue (FP.dcmp a b) o = 0 := by
  rw [cmpV_of ha hb, if_neg (by omega), if_pos h]
theorem zv_zero : zv FP.dconst0 = 0 := Core.zval64_zero
theorem cmp_neg {a b : UInt64} {k : Int32} {o : ClassFile.CmpOp} (h : Op.cmpValue (FP.dcmp a b) o = k) (ha : Core.val64 a ≠ .nan) (hb : Core.val64 b ≠ .nan) : k < 0 ↔ zv a < zv b := by
  rw [← h, cmpV_of ha hb]; split
  · exact ⟨fun _ => by assumption, fun _ => by decide⟩
  · split
    · exact ⟨fun h => absurd h (by decide), fun h => absurd h (by assumption)⟩
    · exact ⟨fun h => absurd h (by decide), fun h => absurd h (by assumption)⟩
theorem cmp_pos {a b : UInt64} {k : Int32} {o : ClassFile.CmpOp} (h : Op.cmpValue (FP.dcmp a b) o = k) (ha : Core.val64 a ≠ .nan) (hb : Core.val64 b ≠ .nan) : 0 < k ↔ zv b < zv a := by
  rw [← h, cmpV_of ha hb]; split
  · exact ⟨fun h => absurd h (by decide), fun h => by omega⟩
  · split
    · exact ⟨fun h => absurd h (by decide), fun h => by omega⟩
    · exact ⟨fun h => by omega, fun _ => by decide⟩
theorem cmp_nul {a b : UInt64} {k : Int32} {o : ClassFile.CmpOp} (h : Op.cmpValue (FP.dcmp a b) o = k) (ha : Core.val64 a ≠ .nan) (hb : Core.val64 b ≠ .nan) : k = 0 ↔ zv a = zv b := by
  rw [← h, cmpV_of ha hb]; split
  · exact ⟨fun h => absurd h (by decide), fun h => by omega⟩
  · split
    · exact ⟨fun _ => by assumption, fun _ => rfl⟩
    · exact ⟨fun h => absurd h (by decide), fun h => by omega⟩
theorem lt_of {a b : UInt64} {n m : Int} {k : Nat} (h1 : Le a n k) (h2 : Ge b m k) (h : n < m) : zv a < zv b := by
  unfold Le at h1; unfold Ge at h2
  have : n * U < m * U := Int.mul_lt_mul_of_pos_right h U_pos
  exact Int.lt_of_mul_lt_mul_right (a := 2 ^ k) (by omega) (Int.le_of_lt (pow_pos k))
theorem le_of {a b : UInt64} {n m : Int} {k : Nat} (h1 : Le a n k) (h2 : Ge b m k) (h : n ≤ m) : zv a ≤ zv b := by
  unfold Le at h1; unfold Ge at h2
  have : n * U ≤ m * U := Int.mul_le_mul_of_nonneg_right h (Int.le_of_lt U_pos)
  exact Int.le_of_mul_le_mul_right (a := 2 ^ k) (by omega) (pow_pos k)
theorem DS.cmp {a b : UInt64} {n m : Int} {k : Nat} (ha : DS n k a) (hb : DS m k b) (o : ClassFile.CmpOp) : Op.cmpValue (FP.dcmp a b) o = if n < m then -1 else if n = m then 0 else 1 := by
  rw [cmpV_of (notNan ha.1) (notNan hb.1)]
  by_cases h1 : n < m
  · rw [if_pos h1, if_pos (lt_of ha.le hb.ge h1)]
  · by_cases h2 : n = m
    · have e : zv a = zv b := by
        subst h2; have := le_of ha.le hb.ge (Int.le_refl _); have := le_of hb.le ha.ge (Int.le_refl _); omega
      rw [if_neg h1, if_pos h2, if_neg (by omega), if_pos e]
    · have := lt_of hb.le ha.ge (show m < n by omega)
      rw [if_neg h1, if_neg h2, if_neg (by omega), if_neg (by omega)]
theorem DS.zero : DS 0 0 FP.dconst0 := ⟨⟨false, 0, _, Core.val64_dconst0⟩, by
  have : zv FP.dconst0 = 0 := Core.zval64_zero
  rw [this]; simp⟩
theorem DS.one : DS 1 0 FP.dconst1 := DS.int Core.dint_one
theorem zv_one : zv FP.dconst1 = U := by have := DS.one.2; rwa [Int.pow_zero, Int.mul_one, Int.one_mul] at this
theorem DS.noNaN {n : Int} {k : Nat} {a : UInt64} (h : DS n k a) : Jvm.Free.Fl.NoNaN64 a := (Jvm.Free.Fl.fin64_core.mpr h.1).noNaN
theorem noNaN_of {a : UInt64} (h : Core.val64 a ≠ .nan) : Jvm.Free.Fl.NoNaN64 a := Jvm.Free.Fl.noNaN64_no.mpr ((Core.notNaN_iff a).mpr h)
end Jvm.OwnFP
namespace Jvm.OwnFP
open Jvm.FP
theorem sgn_pos {a : UInt64} (h : 0 < zv a) : Core.sgn (Core.val64 a) = false := by
  unfold zv Core.zval at h
  cases e : Core.sgn (Core.val64 a) with
  | false => rfl
  | true => rw [e] at h; simp only [Core.signed, if_true] at h; omega
/-- one quotient by two roads -/
theorem DS.div_same {a a' b b' : UInt64} {n d : Int} {k j : Nat} (ha : DS n k a) (ha' : DS n k a') (hb : DS d j b) (hb' : DS d j b') (hn : 0 < n) (hd : 0 < d) : FP.ddiv a b = FP.ddiv a' b' := by
  have e1 : zv a = zv a' := mul_cancel (pow_pos k) (by rw [ha.2, ha'.2])
  have e2 : zv b = zv b' := mul_cancel (pow_pos j) (by rw [hb.2, hb'.2])
  refine ddiv_congr ha.1 hb.1 (hb.pos hd) ha'.1 hb'.1 (hb'.pos hd) ?_ (by rw [e1, e2])
  rw [sgn_pos (ha.pos hn), sgn_pos (ha'.pos hn)]
end Jvm.OwnFP
namespace Jvm.OwnFP
open Jvm.FP
theorem Le.neg {a : UInt64} {n : Int} {k : Nat} (h : Le a n k) : Ge (FP.dneg a) (-n) k := by unfold Le at h; unfold Ge; rw [zv_dneg, Int.neg_mul, Int.neg_mul]; omega
theorem Ge.neg {a : UInt64} {n : Int} {k : Nat} (h : Ge a n k) : Le (FP.dneg a) (-n) k := by unfold Ge at h; unfold Le; rw [zv_dneg, Int.neg_mul, Int.neg_mul]; omega
theorem sub_Le {a b : UInt64} {n m q : Int} {k : Nat} (fa : Core.DFin a) (fb : Core.DFin b) (ha : Le a n k) (hb : Ge b m k) (h : n - m ≤ q) (bq : q.natAbs ≤ 2 ^ 53) (hk : k ≤ 1000) : Le (FP.dsub a b) q k := by
  rw [dsub_dadd fb]; exact add_Le fa (fin_dneg fb) ha hb.neg (by omega) bq hk
theorem sub_Ge {a b : UInt64} {n m q : Int} {k : Nat} (fa : Core.DFin a) (fb : Core.DFin b) (ha : Ge a n k) (hb : Le b m k) (h : q ≤ n - m) (bq : q.natAbs ≤ 2 ^ 53) (hk : k ≤ 1000) : Ge (FP.dsub a b) q k := by
  rw [dsub_dadd fb]; exact add_Ge fa (fin_dneg fb) ha hb.neg (by omega) bq hk
/-- one quotient at two scales -/
theorem DS.div_scale {a a' b b' : UInt64} {n d : Int} {k k' : Nat} (ha : DS n k a) (ha' : DS n k' a') (hb : DS d k b) (hb' : DS d k' b') (hn : 0 < n) (hd : 0 < d) : FP.ddiv a b = FP.ddiv a' b' := by
  refine ddiv_congr ha.1 hb.1 (hb.pos hd) ha'.1 hb'.1 (hb'.pos hd) ?_ ?_
  · rw [sgn_pos (ha.pos hn), sgn_pos (ha'.pos hn)]
  · refine mul_cancel (pow_pos (k + k')) ?_
    calc zv a * zv b' * 2 ^ (k + k') = (zv a * 2 ^ k) * (zv b' * 2 ^ k') := by rw [Int.pow_add]; ac_rfl
      _ = (zv a' * 2 ^ k') * (zv b * 2 ^ k) := by rw [ha.2, hb'.2, ha'.2, hb.2]
      _ = zv a' * zv b * 2 ^ (k + k') := by rw [Int.pow_add]; ac_rfl
end Jvm.OwnFP
namespace Jvm.Pilot.@@N@@
open Jvm Jvm.ClassFile Sem Op Lib Jvm.Free Jvm.Stand Jvm.LawKit Jvm.RoadKit Bundle Jvm.Pilot.@@N@@.Jvm.D
open Jvm.OwnFP Jvm.FP
theorem pn_com_example_foglane_foglane_uncertainty_TriangularVariancePinLaw : plainName "com/example/foglane/foglane/uncertainty/TriangularVariancePinLaw" = true := by first | (simp [plainName, overriddenIn]; done) | decide +kernel
theorem pn_com_example_foglane_foglane_uncertainty_UncertainQuantity_Triangular : plainName "com/example/foglane/foglane/uncertainty/UncertainQuantity$Triangular" = true := by first | (simp [plainName, overriddenIn]; done) | decide +kernel
theorem pn_java_lang_Record : plainName "java/lang/Record" = true := by first | (simp [plainName, overriddenIn]; done) | decide +kernel
theorem pn_java_lang_Double : plainName "java/lang/Double" = true := by first | (simp [plainName, overriddenIn]; done) | decide +kernel
theorem pd___V : parseMethodDescriptor "()V" = some ⟨[], none⟩ := by decide +kernel
theorem pd__DDD_V : parseMethodDescriptor "(DDD)V" = some ⟨[.double, .double, .double], none⟩ := by decide +kernel
theorem pd__D_Z : parseMethodDescriptor "(D)Z" = some ⟨[.double], some .boolean⟩ := by decide +kernel
theorem pd__D_D : parseMethodDescriptor "(D)D" = some ⟨[.double], some .double⟩ := by decide +kernel
theorem pd___D : parseMethodDescriptor "()D" = some ⟨[], some .double⟩ := by decide +kernel
theorem abs_le_max {a : UInt64} (h : Core.DFin a) (o : CmpOp) : ¬ 0 < cmpValue (FP.dcmp (a &&& 0x7fffffffffffffff) (9218868437227405311 : UInt64)) o := by
  have f : Core.DFin (a &&& 0x7fffffffffffffff) := by
    rw [Core.fin_bits, Core.mask_toNat, Nat.mod_mod]; exact (Core.fin_bits a).mp h
  have m : Core.val64 9218868437227405311 ≠ .nan := by decide +kernel
  have z : zv (a &&& 0x7fffffffffffffff) ≤ zv 9218868437227405311 := by
    have h1 : Core.zmag Core.b64 (Core.val64 (a &&& 0x7fffffffffffffff)) ≤ Core.zmag Core.b64 (Core.val64 9218868437227405311) := by
      rw [Core.zmag_bits (notNan f), Core.zmag_bits m, Core.unitsOf_le_iff, Core.mask_toNat, Nat.mod_mod]
      have := (Core.fin_bits a).mp h
      show a.toNat % 2 ^ 63 ≤ 9218868437227405311 % 2 ^ 63
      omega
    have h2 : zv (a &&& 0x7fffffffffffffff) ≤ ((Core.zmag Core.b64 (Core.val64 (a &&& 0x7fffffffffffffff)) : Nat) : Int) := by
      unfold zv Core.zval Core.signed; split <;> omega
    have h3 : zv 9218868437227405311 = ((Core.zmag Core.b64 (Core.val64 9218868437227405311) : Nat) : Int) := by
      have : Core.sgn (Core.val64 9218868437227405311) = false := by decide +kernel
      unfold zv Core.zval; rw [this]; rfl
    omega
  rw [cmpV_of (notNan f) m]
  split
  · decide
  · split
    · decide
    · omega
theorem d2_0 : decode jdk_30_method_1_code 0 = .ok (.aload_n 0, 1) := by decide +kernel
theorem d2_1 : decode jdk_30_method_1_code 1 = .ok (.invokespecial 1, 3) := by decide +kernel
theorem d2_4 : decode jdk_30_method_1_code 4 = .ok (.return_, 1) := by decide +kernel
theorem ef_2 (m : MethodId) (a1 : Addr) : entryFrame m #[(.ref a1)] 1 = (mkF m 0 #[.val (.ref a1)] []) := by first | (simp [entryFrame, mkF, argsToLocals, Value.category]; done) | rfl
def Q_2 (Z : State) (a1 : Addr) (h0 : Heap) (n0 : Nat) (v : Option Value) (h : Heap) (L : List Loc) : Prop := v = none ∧ Fr n0 L ∧ h = h0
set_option maxRecDepth 65536 in
set_option maxHeartbeats 2000000 in
theorem rm_2 (l : Launch) (Z : State) (a0 : Array Value) (hw : ∀ d ∈ tables_1, d.before a0 Z = true) (ws : List Jvm.Cond) (a1 : Addr) (h0 : Heap) (n0 : Nat) (Z0 : n0 ≤ h0.size)  :
    MetFree l (⟨"java/lang/Record", "<init>", "()V"⟩ : MethodName) (head1 (Jvm.Cond.code (⟨"java/lang/Record", "<init>", "()V"⟩ : MethodName) jdk_30_method_1_code 1 none :: ws) ({ frames := 1, cells := 0, slots := 0, locals := 12 } : Room)) (fun aa UU => aa = #[(.ref a1)] ∧ Z.Warmed39 UU.vm ∧ UU.heap = h0) (fun _ _ _ _ _ => True) (fun _ UU oo UU' => ∃ v L, oo = .returned v ∧ Q_2 Z a1 h0 n0 v UU'.heap L ∧ FrameEnd UU oo UU' L ({ frames := 1, cells := 0, slots := 0, locals := 12 } : Room).cells ({ frames := 1, cells := 0, slots := 0, locals := 12 } : Room).slots) := by
  refine MetFree.of_bodySF (plainFor_of_name pn_java_lang_Record) hisR ?_
  intro p e s m args below meth c s₁ Bd hml0 hP hK
  obtain ⟨rfl, hZ, hh⟩ := hP
  have hx := Bd.exec
  have hby := Bd.bytes
  have hml : c.maxLocals = 1 := hml0
  have hown : s.vm.findClass "java/lang/Record" = some m.cls := findClass_of_methodNamed Bd.named
  have hnaM := (name_of_methodNamed Bd.named Bd.method).1
  have X0 : Stand p l e ({ frames := 1, cells := 0, slots := 0, locals := 12 } : Room) s m #[(.ref a1)] below meth c s₁ [] 0 0 := Stand.of_body Bd
  have e0 : s₁.heap = h0 := by rw [← hh, Bd.state]; rfl
  have N0 := Fr.nil n0
  have pre0 : ∀ t, Steps p.tables e below (s₁.setTop (entryFrame m #[(.ref a1)] 1)) t → Steps p.tables e below (s₁.setTop (entryFrame m #[(.ref a1)] 1)) t := fun t k => k
  have c0 : ∀ t, Steps p.tables e below (s₁.setTop (mkF m 0 #[.val (.ref a1)] [])) t → Steps p.tables e below (s₁.setTop (entryFrame m #[(.ref a1)] 1)) t := fun t k => castTop (ef_2 m a1) k
  have c1 : ∀ t, Steps p.tables e below (s₁.setTop (mkF m 1 #[.val (.ref a1)] [(.ref a1)])) t → Steps p.tables e below (s₁.setTop (entryFrame m #[(.ref a1)] 1)) t := fun t k => c0 t (by
    show Steps p.tables e below (s₁.setTop (mkF m 0 #[.val (.ref a1)] [])) _
    refine XS.aloadN X0.here hx rfl (hb hby d2_0) rfl rfl ?_
    show Steps p.tables e below (s₁.setTop (mkF m 1 #[.val (.ref a1)] [(.ref a1)])) _
    exact k)
  obtain ⟨T2, X2, e2, st2⟩ := initO X0 hx hZ hown (hw _ (List.mem_of_getElem? (i := 12) rfl)) (hw _ (List.mem_of_getElem? (i := 13) rfl)) (hw _ (List.mem_of_getElem? (i := 14) rfl)) e0 (g := (mkF m 1 #[.val (.ref a1)] [(.ref a1)])) rfl (by rw [hml]; rfl) rfl (hb hby d2_1) (by decide) (W := 0) (by show 2 * 0 + _ ≤ _; exact Nat.le_of_eq rfl) (by decide)
  have c3 : ∀ t, Steps p.tables e below (T2.setTop (mkF m 4 #[.val (.ref a1)] [])) t → Steps p.tables e below (s₁.setTop (entryFrame m #[(.ref a1)] 1)) t := fun t k => c1 t (st2 _ k)
  obtain ⟨fs, hr, hrun, hended, hW, hsame⟩ := X2.leave (v := none) (fun _ => rfl)
  refine ⟨_, _, pre0 _ (c3 _ (X2.returnOut hx Bd.returns (hb hby d2_4) hr)), hrun, hended, _, _, rfl, ?_, ⟨_, rfl⟩, hW, hsame.mono (by decide) (by decide)⟩
  show Q_2 Z a1 h0 n0 _ T2.heap _
  rw [e2]
  exact ⟨rfl, N0, rfl⟩
theorem d4_0 : decode jdk_117_method_7_code 0 = .ok (.dload_n 0, 1) := by decide +kernel
theorem d4_1 : decode jdk_117_method_7_code 1 = .ok (.invokestatic 38, 3) := by decide +kernel
theorem d4_4 : decode jdk_117_method_7_code 4 = .ok (.ldc2_w 111, 3) := by decide +kernel
theorem d4_7 : decode jdk_117_method_7_code 7 = .ok (.dcmp .l, 1) := by decide +kernel
theorem d4_8 : decode jdk_117_method_7_code 8 = .ok (.ifCond .le 7, 3) := by decide +kernel
theorem d4_15 : decode jdk_117_method_7_code 15 = .ok (.iconst 0, 1) := by decide +kernel
theorem d4_16 : decode jdk_117_method_7_code 16 = .ok (.ireturn, 1) := by decide +kernel
theorem ef_4 (m : MethodId) (pd : UInt64) : entryFrame m #[(.double pd)] 2 = (mkF m 0 #[.val (.double pd), .second] []) := by first | (simp [entryFrame, mkF, argsToLocals, Value.category]; done) | rfl
def Q_4 (Z : State) (pd : UInt64) (h0 : Heap) (n0 : Nat) (v : Option Value) (h : Heap) (L : List Loc) : Prop := v = some (.int (0 : Int32)) ∧ Fr n0 L ∧ h = h0
set_option maxRecDepth 65536 in
set_option maxHeartbeats 2000000 in
theorem rm_4 (l : Launch) (Z : State) (a0 : Array Value) (hw : ∀ d ∈ tables_1, d.before a0 Z = true) (ws : List Jvm.Cond) (pd : UInt64) (h0 : Heap) (n0 : Nat) (Z0 : n0 ≤ h0.size) (fd : Core.DFin pd) :
    MetFree l (⟨"java/lang/Double", "isInfinite", "(D)Z"⟩ : MethodName) (head1 (Jvm.Cond.code (⟨"java/lang/Double", "isInfinite", "(D)Z"⟩ : MethodName) jdk_117_method_7_code 2 (some .boolean) :: ws) ({ frames := 1, cells := 0, slots := 0, locals := 13 } : Room)) (fun aa UU => aa = #[(.double pd)] ∧ Z.Warmed39 UU.vm ∧ UU.heap = h0) (fun _ _ _ _ _ => True) (fun _ UU oo UU' => ∃ v L, oo = .returned v ∧ Q_4 Z pd h0 n0 v UU'.heap L ∧ FrameEnd UU oo UU' L ({ frames := 1, cells := 0, slots := 0, locals := 13 } : Room).cells ({ frames := 1, cells := 0, slots := 0, locals := 13 } : Room).slots) := by
  refine MetFree.of_bodySF (plainFor_of_name pn_java_lang_Double) hisR ?_
  intro p e s m args below meth c s₁ Bd hml0 hP hK
  obtain ⟨rfl, hZ, hh⟩ := hP
  have hx := Bd.exec
  have hby := Bd.bytes
  have hml : c.maxLocals = 2 := hml0
  have hown : s.vm.findClass "java/lang/Double" = some m.cls := findClass_of_methodNamed Bd.named
  have hnaM := (name_of_methodNamed Bd.named Bd.method).1
  have X0 : Stand p l e ({ frames := 1, cells := 0, slots := 0, locals := 13 } : Room) s m #[(.double pd)] below meth c s₁ [] 0 0 := Stand.of_body Bd
  have e0 : s₁.heap = h0 := by rw [← hh, Bd.state]; rfl
  have N0 := Fr.nil n0
  have pre0 : ∀ t, Steps p.tables e below (s₁.setTop (entryFrame m #[(.double pd)] 2)) t → Steps p.tables e below (s₁.setTop (entryFrame m #[(.double pd)] 2)) t := fun t k => k
  have c0 : ∀ t, Steps p.tables e below (s₁.setTop (mkF m 0 #[.val (.double pd), .second] [])) t → Steps p.tables e below (s₁.setTop (entryFrame m #[(.double pd)] 2)) t := fun t k => castTop (ef_4 m pd) k
  have c1 : ∀ t, Steps p.tables e below (s₁.setTop (mkF m 1 #[.val (.double pd), .second] [(.double pd)])) t → Steps p.tables e below (s₁.setTop (entryFrame m #[(.double pd)] 2)) t := fun t k => c0 t (by
    show Steps p.tables e below (s₁.setTop (mkF m 0 #[.val (.double pd), .second] [])) _
    refine XS.dloadN X0.here hx rfl (hb hby d4_0) rfl ?_
    show Steps p.tables e below (s₁.setTop (mkF m 1 #[.val (.double pd), .second] [(.double pd)])) _
    exact k)
  obtain ⟨T2, X2, e2, st2⟩ := natS X0 hx hZ hown (hw _ (List.mem_of_getElem? (i := 19) rfl)) (hw _ (List.mem_of_getElem? (i := 20) rfl)) (hw _ (List.mem_of_getElem? (i := 21) rfl)) (hw _ (List.mem_of_getElem? (i := 22) rfl)) (by decide) e0 (W := 0) (F := fun a' => a' = #[(.double pd)]) (val := .double (pd &&& 0x7fffffffffffffff)) (val' := .double (pd &&& 0x7fffffffffffffff)) (fun hc => (Jvm.Free.NT.Abs64.pays hc (mvT hZ (hw _ (List.mem_of_getElem? (i := 20) rfl))) (by decide) (by decide)).mono (fun A a' hp => ⟨pd, hp.2.2, noNaN_of (notNan fd)⟩) (fun A a' v B hp hq => ⟨(hq.2 pd ⟨hp.2.2, noNaN_of (notNan fd)⟩).trans (congrArg (fun z => some (Value.double z)) rfl), hq.1⟩)) (g := (mkF m 1 #[.val (.double pd), .second] [(.double pd)])) rfl (by rw [hml]; rfl) (argsL := [(.double pd)]) (rest := []) (lenOf pd__D_D rfl) rfl (by show 2 * 0 + _ ≤ _; exact Nat.le_of_eq rfl) (hb hby d4_1) (by decide) (by decide) rfl rfl
  have c3 : ∀ t, Steps p.tables e below (T2.setTop (mkF m 4 #[.val (.double pd), .second] [(.double (pd &&& 0x7fffffffffffffff))])) t → Steps p.tables e below (s₁.setTop (entryFrame m #[(.double pd)] 2)) t := fun t k => c1 t (st2 _ k)
  obtain ⟨k7, hk7⟩ : ∃ v : Int32, cmpValue (FP.dcmp (pd &&& 0x7fffffffffffffff) (9218868437227405311 : UInt64)) .l = v := ⟨_, rfl⟩
  have k7v : ¬ 0 < k7 := hk7 ▸ abs_le_max fd .l
  have c4 : ∀ t, Steps p.tables e below (T2.setTop (mkF m 16 #[.val (.double pd), .second] [(.int (0 : Int32))])) t → Steps p.tables e below (s₁.setTop (entryFrame m #[(.double pd)] 2)) t := fun t k => c3 t (by
    show Steps p.tables e below (T2.setTop (mkF m 4 #[.val (.double pd), .second] [(.double (pd &&& 0x7fffffffffffffff))])) _
    refine Jvm.Stand.ldc2DoubleC X2 hx hown (mvT hZ (hw _ (List.mem_of_getElem? (i := 23) rfl))) (g := (mkF m 4 #[.val (.double pd), .second] [(.double (pd &&& 0x7fffffffffffffff))])) rfl (hb hby d4_4) _ ?_
    show Steps p.tables e below (T2.setTop (mkF m 7 #[.val (.double pd), .second] [(.double (9218868437227405311 : UInt64)), (.double (pd &&& 0x7fffffffffffffff))])) _
    refine XS.dcmpS X2.here hx rfl (hb hby d4_7) rfl hk7 ?_
    show Steps p.tables e below (T2.setTop (mkF m 8 #[.val (.double pd), .second] [(.int k7)])) _
    refine XS.ifYes X2.here hx rfl (pc0 := 8) (pc' := 15) rfl (hb hby d4_8) rfl (XT.i0_le_t k7v) (by decide) (by decide) ?_
    show Steps p.tables e below (T2.setTop (mkF m 15 #[.val (.double pd), .second] [])) _
    refine XS.iconst X2.here hx rfl (hb hby d4_15) ?_
    show Steps p.tables e below (T2.setTop (mkF m 16 #[.val (.double pd), .second] [(.int (0 : Int32))])) _
    exact k)
  obtain ⟨fs, hr, hrun, hended, hW, hsame⟩ := X2.leave (v := (some (.int (0 : Int32)))) (fun h => by rw [Bd.returns] at h; cases h)
  refine ⟨_, _, pre0 _ (c4 _ (retN X2 hx (t := .boolean) Bd.returns (by simp) (hb hby d4_16) hr)), hrun, hended, _, _, rfl, ?_, ⟨_, rfl⟩, hW, hsame.mono (by decide) (by decide)⟩
  show Q_4 Z pd h0 n0 _ T2.heap _
  rw [e2]
  exact ⟨rfl, N0, rfl⟩
theorem d1_0 : decode prog_102_method_1_code 0 = .ok (.aload_n 0, 1) := by decide +kernel
theorem d1_1 : decode prog_102_method_1_code 1 = .ok (.invokespecial 1, 3) := by decide +kernel
theorem d1_4 : decode prog_102_method_1_code 4 = .ok (.dconst 0, 1) := by decide +kernel
theorem d1_5 : decode prog_102_method_1_code 5 = .ok (.dload_n 1, 1) := by decide +kernel
theorem d1_6 : decode prog_102_method_1_code 6 = .ok (.dcmp .g, 1) := by decide +kernel
theorem d1_7 : decode prog_102_method_1_code 7 = .ok (.ifCond .gt 24, 3) := by decide +kernel
theorem d1_10 : decode prog_102_method_1_code 10 = .ok (.dload_n 1, 1) := by decide +kernel
theorem d1_11 : decode prog_102_method_1_code 11 = .ok (.dload_n 3, 1) := by decide +kernel
theorem d1_12 : decode prog_102_method_1_code 12 = .ok (.dcmp .g, 1) := by decide +kernel
theorem d1_13 : decode prog_102_method_1_code 13 = .ok (.ifCond .gt 18, 3) := by decide +kernel
theorem d1_16 : decode prog_102_method_1_code 16 = .ok (.dload_n 3, 1) := by decide +kernel
theorem d1_17 : decode prog_102_method_1_code 17 = .ok (.dload 5, 2) := by decide +kernel
theorem d1_19 : decode prog_102_method_1_code 19 = .ok (.dcmp .g, 1) := by decide +kernel
theorem d1_20 : decode prog_102_method_1_code 20 = .ok (.ifCond .gt 11, 3) := by decide +kernel
theorem d1_23 : decode prog_102_method_1_code 23 = .ok (.dload 5, 2) := by decide +kernel
theorem d1_25 : decode prog_102_method_1_code 25 = .ok (.invokestatic 7, 3) := by decide +kernel
theorem d1_28 : decode prog_102_method_1_code 28 = .ok (.ifCond .eq 20, 3) := by decide +kernel
theorem d1_48 : decode prog_102_method_1_code 48 = .ok (.aload_n 0, 1) := by decide +kernel
theorem d1_49 : decode prog_102_method_1_code 49 = .ok (.dload_n 1, 1) := by decide +kernel
theorem d1_50 : decode prog_102_method_1_code 50 = .ok (.putfield 22, 3) := by decide +kernel
theorem d1_53 : decode prog_102_method_1_code 53 = .ok (.aload_n 0, 1) := by decide +kernel
theorem d1_54 : decode prog_102_method_1_code 54 = .ok (.dload_n 3, 1) := by decide +kernel
theorem d1_55 : decode prog_102_method_1_code 55 = .ok (.putfield 28, 3) := by decide +kernel
theorem d1_58 : decode prog_102_method_1_code 58 = .ok (.aload_n 0, 1) := by decide +kernel
theorem d1_59 : decode prog_102_method_1_code 59 = .ok (.dload 5, 2) := by decide +kernel
theorem d1_61 : decode prog_102_method_1_code 61 = .ok (.putfield 31, 3) := by decide +kernel
theorem d1_64 : decode prog_102_method_1_code 64 = .ok (.return_, 1) := by decide +kernel
theorem ef_1 (m : MethodId) (a1 : Addr) (p1 : UInt64) (p2 : UInt64) (p3 : UInt64) : entryFrame m #[(.ref a1), (.double p1), (.double p2), (.double p3)] 7 = (mkF m 0 #[.val (.ref a1), .val (.double p1), .second, .val (.double p2), .second, .val (.double p3), .second] []) := by first | (simp [entryFrame, mkF, argsToLocals, Value.category]; done) | rfl
def Q_1 (Z : State) (a1 : Addr) (p1 : UInt64) (p2 : UInt64) (p3 : UInt64) (h0 : Heap) (n0 : Nat) (v : Option Value) (h : Heap) (L : List Loc) : Prop := v = none ∧ Fr n0 L ∧ Keep h0 h [a1] ∧ Exa Z h a1 "com/example/foglane/foglane/uncertainty/UncertainQuantity$Triangular" ∧ Fld Z h a1 "com/example/foglane/foglane/uncertainty/UncertainQuantity$Triangular" "smallest" "D" (.double p1) ∧ Fld Z h a1 "com/example/foglane/foglane/uncertainty/UncertainQuantity$Triangular" "mostPlausible" "D" (.double p2) ∧ Fld Z h a1 "com/example/foglane/foglane/uncertainty/UncertainQuantity$Triangular" "largest" "D" (.double p3)
set_option maxRecDepth 65536 in
set_option maxHeartbeats 2000000 in
theorem rm_1 (l : Launch) (Z : State) (a0 : Array Value) (hw : ∀ d ∈ tables_1, d.before a0 Z = true) (ws : List Jvm.Cond) (a1 : Addr) (p1 : UInt64) (p2 : UInt64) (p3 : UInt64) (h0 : Heap) (n0 : Nat) (Z0 : n0 ≤ h0.size) (E_a1 : Exa Z h0 a1 "com/example/foglane/foglane/uncertainty/UncertainQuantity$Triangular") (F_0 : Fld Z h0 a1 "com/example/foglane/foglane/uncertainty/UncertainQuantity$Triangular" "smallest" "D" (.double (0 : UInt64))) (F_1 : Fld Z h0 a1 "com/example/foglane/foglane/uncertainty/UncertainQuantity$Triangular" "mostPlausible" "D" (.double (0 : UInt64))) (F_2 : Fld Z h0 a1 "com/example/foglane/foglane/uncertainty/UncertainQuantity$Triangular" "largest" "D" (.double (0 : UInt64))) (g_a1 : n0 ≤ a1) (f1 : Core.DFin p1) (f2 : Core.DFin p2) (f3 : Core.DFin p3) (l1 : 0 ≤ zv p1) (l2 : zv p1 ≤ zv p2) (l3 : zv p2 ≤ zv p3) :
    MetFree l (⟨"com/example/foglane/foglane/uncertainty/UncertainQuantity$Triangular", "<init>", "(DDD)V"⟩ : MethodName) (head1 (Jvm.Cond.code (⟨"com/example/foglane/foglane/uncertainty/UncertainQuantity$Triangular", "<init>", "(DDD)V"⟩ : MethodName) prog_102_method_1_code 7 none :: ws) ({ frames := 2, cells := 0, slots := 0, locals := 26 } : Room)) (fun aa UU => aa = #[(.ref a1), (.double p1), (.double p2), (.double p3)] ∧ Z.Warmed39 UU.vm ∧ UU.heap = h0) (fun _ _ _ _ _ => True) (fun _ UU oo UU' => ∃ v L, oo = .returned v ∧ Q_1 Z a1 p1 p2 p3 h0 n0 v UU'.heap L ∧ FrameEnd UU oo UU' L ({ frames := 2, cells := 0, slots := 0, locals := 26 } : Room).cells ({ frames := 2, cells := 0, slots := 0, locals := 26 } : Room).slots) := by
  refine MetFree.of_bodySF (plainFor_of_name pn_com_example_foglane_foglane_uncertainty_UncertainQuantity_Triangular) hisR ?_
  intro p e s m args below meth c s₁ Bd hml0 hP hK
  obtain ⟨rfl, hZ, hh⟩ := hP
  have hx := Bd.exec
  have hby := Bd.bytes
  have hml : c.maxLocals = 7 := hml0
  have hown : s.vm.findClass "com/example/foglane/foglane/uncertainty/UncertainQuantity$Triangular" = some m.cls := findClass_of_methodNamed Bd.named
  have hnaM := (name_of_methodNamed Bd.named Bd.method).1
  have X0 : Stand p l e ({ frames := 2, cells := 0, slots := 0, locals := 26 } : Room) s m #[(.ref a1), (.double p1), (.double p2), (.double p3)] below meth c s₁ [] 0 0 := Stand.of_body Bd
  have e0 : s₁.heap = h0 := by rw [← hh, Bd.state]; rfl
  have N0 := Fr.nil n0
  have pre0 : ∀ t, Steps p.tables e below (s₁.setTop (entryFrame m #[(.ref a1), (.double p1), (.double p2), (.double p3)] 7)) t → Steps p.tables e below (s₁.setTop (entryFrame m #[(.ref a1), (.double p1), (.double p2), (.double p3)] 7)) t := fun t k => k
  have c0 : ∀ t, Steps p.tables e below (s₁.setTop (mkF m 0 #[.val (.ref a1), .val (.double p1), .second, .val (.double p2), .second, .val (.double p3), .second] [])) t → Steps p.tables e below (s₁.setTop (entryFrame m #[(.ref a1), (.double p1), (.double p2), (.double p3)] 7)) t := fun t k => castTop (ef_1 m a1 p1 p2 p3) k
  have K0 := Keep.refl h0 [a1]
  have c1 : ∀ t, Steps p.tables e below (s₁.setTop (mkF m 1 #[.val (.ref a1), .val (.double p1), .second, .val (.double p2), .second, .val (.double p3), .second] [(.ref a1)])) t → Steps p.tables e below (s₁.setTop (entryFrame m #[(.ref a1), (.double p1), (.double p2), (.double p3)] 7)) t := fun t k => c0 t (by
    show Steps p.tables e below (s₁.setTop (mkF m 0 #[.val (.ref a1), .val (.double p1), .second, .val (.double p2), .second, .val (.double p3), .second] [])) _
    refine XS.aloadN X0.here hx rfl (hb hby d1_0) rfl rfl ?_
    show Steps p.tables e below (s₁.setTop (mkF m 1 #[.val (.ref a1), .val (.double p1), .second, .val (.double p2), .second, .val (.double p3), .second] [(.ref a1)])) _
    exact k)
  obtain ⟨_, _, ⟨T2, L2, k2', n2⟩, -, X2, ⟨Lc2, hQ2, l2, y2, z2⟩, st2⟩ := X0.specialBack hx (y := (⟨"java/lang/Record", "<init>", "()V"⟩ : MethodName)) rfl hown (mvT hZ (hw _ (List.mem_of_getElem? (i := 7) rfl))) (mvT hZ (hw _ (List.mem_of_getElem? (i := 8) rfl))) (mvT hZ (hw _ (List.mem_of_getElem? (i := 11) rfl))) (by decide) (backOf (W := 0) (rm_2 l Z a0 hw [] a1 h0 n0 Z0) hZ (hw _ (List.mem_of_getElem? (i := 11) rfl)) (hw _ (List.mem_of_getElem? (i := 10) rfl)) (by decide) (by decide)) (g := (mkF m 1 #[.val (.ref a1), .val (.double p1), .second, .val (.double p2), .second, .val (.double p3), .second] [(.ref a1)])) rfl (by rw [hml]; rfl) (Steps.refl _) (a := a1) (argsL := []) (rest := []) (lenOf pd___V rfl) rfl (by show 2 * 0 + _ ≤ _; exact Nat.le_of_eq rfl) (hb hby d1_1) (fun _ _ => ⟨rfl, e0, (by decide : 0 + 0 ≤ _), (by decide : 0 + 0 ≤ _)⟩)
  dsimp only [Pt.U, Pt.locs, Pt.cells, Pt.slots] at X2 l2 y2 z2 st2 hQ2
  subst l2 y2 z2
  obtain ⟨rfl, N2, e2⟩ := hQ2
  have M2 := Fr.app N0 N2
  have c3 : ∀ t, Steps p.tables e below (T2.setTop (mkF m 4 #[.val (.ref a1), .val (.double p1), .second, .val (.double p2), .second, .val (.double p3), .second] [])) t → Steps p.tables e below (s₁.setTop (entryFrame m #[(.ref a1), (.double p1), (.double p2), (.double p3)] 7)) t := fun t k => c1 t (st2.trans k)
  obtain ⟨k6, hk6⟩ : ∃ v : Int32, cmpValue (FP.dcmp FP.dconst0 p1) .g = v := ⟨_, rfl⟩
  have v6 : ¬ 0 < k6 := by
    rw [← hk6, cmpV_of (notNan DS.zero.1) (notNan f1)]
    have := l1; rw [zv_zero]
    split
    · decide
    · split
      · decide
      · omega
  obtain ⟨k12, hk12⟩ : ∃ v : Int32, cmpValue (FP.dcmp p1 p2) .g = v := ⟨_, rfl⟩
  have v12 : ¬ 0 < k12 := by
    rw [← hk12, cmpV_of (notNan f1) (notNan f2)]
    have := l2
    split
    · decide
    · split
      · decide
      · omega
  obtain ⟨k19, hk19⟩ : ∃ v : Int32, cmpValue (FP.dcmp p2 p3) .g = v := ⟨_, rfl⟩
  have v19 : ¬ 0 < k19 := by
    rw [← hk19, cmpV_of (notNan f2) (notNan f3)]
    have := l3
    split
    · decide
    · split
      · decide
      · omega
  have c4 : ∀ t, Steps p.tables e below (T2.setTop (mkF m 25 #[.val (.ref a1), .val (.double p1), .second, .val (.double p2), .second, .val (.double p3), .second] [(.double p3)])) t → Steps p.tables e below (s₁.setTop (entryFrame m #[(.ref a1), (.double p1), (.double p2), (.double p3)] 7)) t := fun t k => c3 t (by
    show Steps p.tables e below (T2.setTop (mkF m 4 #[.val (.ref a1), .val (.double p1), .second, .val (.double p2), .second, .val (.double p3), .second] [])) _
    refine XS.dconst0 X2.here hx rfl (hb hby d1_4) rfl ?_
    show Steps p.tables e below (T2.setTop (mkF m 5 #[.val (.ref a1), .val (.double p1), .second, .val (.double p2), .second, .val (.double p3), .second] [(.double FP.dconst0)])) _
    refine XS.dloadN X2.here hx rfl (hb hby d1_5) rfl ?_
    show Steps p.tables e below (T2.setTop (mkF m 6 #[.val (.ref a1), .val (.double p1), .second, .val (.double p2), .second, .val (.double p3), .second] [(.double p1), (.double FP.dconst0)])) _
    refine XS.dcmpS X2.here hx rfl (hb hby d1_6) rfl hk6 ?_
    show Steps p.tables e below (T2.setTop (mkF m 7 #[.val (.ref a1), .val (.double p1), .second, .val (.double p2), .second, .val (.double p3), .second] [(.int k6)])) _
    refine XS.ifNo X2.here hx rfl (hb hby d1_7) rfl (XT.i0_gt_f v6) ?_
    show Steps p.tables e below (T2.setTop (mkF m 10 #[.val (.ref a1), .val (.double p1), .second, .val (.double p2), .second, .val (.double p3), .second] [])) _
    refine XS.dloadN X2.here hx rfl (hb hby d1_10) rfl ?_
    show Steps p.tables e below (T2.setTop (mkF m 11 #[.val (.ref a1), .val (.double p1), .second, .val (.double p2), .second, .val (.double p3), .second] [(.double p1)])) _
    refine XS.dloadN X2.here hx rfl (hb hby d1_11) rfl ?_
    show Steps p.tables e below (T2.setTop (mkF m 12 #[.val (.ref a1), .val (.double p1), .second, .val (.double p2), .second, .val (.double p3), .second] [(.double p2), (.double p1)])) _
    refine XS.dcmpS X2.here hx rfl (hb hby d1_12) rfl hk12 ?_
    show Steps p.tables e below (T2.setTop (mkF m 13 #[.val (.ref a1), .val (.double p1), .second, .val (.double p2), .second, .val (.double p3), .second] [(.int k12)])) _
    refine XS.ifNo X2.here hx rfl (hb hby d1_13) rfl (XT.i0_gt_f v12) ?_
    show Steps p.tables e below (T2.setTop (mkF m 16 #[.val (.ref a1), .val (.double p1), .second, .val (.double p2), .second, .val (.double p3), .second] [])) _
    refine XS.dloadN X2.here hx rfl (hb hby d1_16) rfl ?_
    show Steps p.tables e below (T2.setTop (mkF m 17 #[.val (.ref a1), .val (.double p1), .second, .val (.double p2), .second, .val (.double p3), .second] [(.double p2)])) _
    refine XS.dload X2.here hx rfl (hb hby d1_17) rfl ?_
    show Steps p.tables e below (T2.setTop (mkF m 19 #[.val (.ref a1), .val (.double p1), .second, .val (.double p2), .second, .val (.double p3), .second] [(.double p3), (.double p2)])) _
    refine XS.dcmpS X2.here hx rfl (hb hby d1_19) rfl hk19 ?_
    show Steps p.tables e below (T2.setTop (mkF m 20 #[.val (.ref a1), .val (.double p1), .second, .val (.double p2), .second, .val (.double p3), .second] [(.int k19)])) _
    refine XS.ifNo X2.here hx rfl (hb hby d1_20) rfl (XT.i0_gt_f v19) ?_
    show Steps p.tables e below (T2.setTop (mkF m 23 #[.val (.ref a1), .val (.double p1), .second, .val (.double p2), .second, .val (.double p3), .second] [])) _
    refine XS.dload X2.here hx rfl (hb hby d1_23) rfl ?_
    show Steps p.tables e below (T2.setTop (mkF m 25 #[.val (.ref a1), .val (.double p1), .second, .val (.double p2), .second, .val (.double p3), .second] [(.double p3)])) _
    exact k)
  obtain ⟨_, _, ⟨T5, L5, k5', n5⟩, -, X5, ⟨Lc5, hQ5, l5, y5, z5⟩, st5⟩ := Jvm.LawKit.callS X2 hx (y := (⟨"java/lang/Double", "isInfinite", "(D)Z"⟩ : MethodName)) hown (mvT hZ (hw _ (List.mem_of_getElem? (i := 15) rfl))) (mvT hZ (hw _ (List.mem_of_getElem? (i := 16) rfl))) (mvT hZ (hw _ (List.mem_of_getElem? (i := 17) rfl))) (mvT hZ (hw _ (List.mem_of_getElem? (i := 18) rfl))) (by decide) (backOf (W := 0) (rm_4 l Z a0 hw [] p3 h0 n0 Z0 f3) hZ (hw _ (List.mem_of_getElem? (i := 18) rfl)) (hw _ (List.mem_of_getElem? (i := 17) rfl)) (by decide) (by decide)) (g := (mkF m 25 #[.val (.ref a1), .val (.double p1), .second, .val (.double p2), .second, .val (.double p3), .second] [(.double p3)])) rfl (by rw [hml]; rfl) (argsL := [(.double p3)]) (rest := []) (lenOf pd__D_Z rfl) rfl (by show 2 * 0 + _ ≤ _; exact Nat.le_of_eq rfl) (hb hby d1_25) (fun _ _ => ⟨rfl, e2, (by decide : 0 + 0 ≤ _), (by decide : 0 + 0 ≤ _)⟩)
  dsimp only [Pt.U, Pt.locs, Pt.cells, Pt.slots] at X5 l5 y5 z5 st5 hQ5
  subst l5 y5 z5
  obtain ⟨rfl, N5, e5⟩ := hQ5
  have M5 := Fr.app M2 N5
  have c6 : ∀ t, Steps p.tables e below (T5.setTop (mkF m 28 #[.val (.ref a1), .val (.double p1), .second, .val (.double p2), .second, .val (.double p3), .second] [(.int (0 : Int32))])) t → Steps p.tables e below (s₁.setTop (entryFrame m #[(.ref a1), (.double p1), (.double p2), (.double p3)] 7)) t := fun t k => c4 t (st5 _ k)
  have c7 : ∀ t, Steps p.tables e below (T5.setTop (mkF m 50 #[.val (.ref a1), .val (.double p1), .second, .val (.double p2), .second, .val (.double p3), .second] [(.double p1), (.ref a1)])) t → Steps p.tables e below (s₁.setTop (entryFrame m #[(.ref a1), (.double p1), (.double p2), (.double p3)] 7)) t := fun t k => c6 t (by
    show Steps p.tables e below (T5.setTop (mkF m 28 #[.val (.ref a1), .val (.double p1), .second, .val (.double p2), .second, .val (.double p3), .second] [(.int (0 : Int32))])) _
    refine XS.ifYes X5.here hx rfl (pc0 := 28) (pc' := 48) rfl (hb hby d1_28) rfl (XT.i0_eq_t (by decide)) (by decide) (by decide) ?_
    show Steps p.tables e below (T5.setTop (mkF m 48 #[.val (.ref a1), .val (.double p1), .second, .val (.double p2), .second, .val (.double p3), .second] [])) _
    refine XS.aloadN X5.here hx rfl (hb hby d1_48) rfl rfl ?_
    show Steps p.tables e below (T5.setTop (mkF m 49 #[.val (.ref a1), .val (.double p1), .second, .val (.double p2), .second, .val (.double p3), .second] [(.ref a1)])) _
    refine XS.dloadN X5.here hx rfl (hb hby d1_49) rfl ?_
    show Steps p.tables e below (T5.setTop (mkF m 50 #[.val (.ref a1), .val (.double p1), .second, .val (.double p2), .second, .val (.double p3), .second] [(.double p1), (.ref a1)])) _
    exact k)
  obtain ⟨T8, h8, X8, e8, W8, st8⟩ := putF X5 hx hZ hown (host := "") (Or.inl (hw _ (List.mem_of_getElem? (i := 24) rfl))) Via.refl e5 F_0 E_a1 (Or.inr ⟨(hw _ (List.mem_of_getElem? (i := 25) rfl)), rfl, hnaM⟩) (hw _ (List.mem_of_getElem? (i := 2) rfl)) (ty := .double) (by decide) rfl rfl (g := (mkF m 50 #[.val (.ref a1), .val (.double p1), .second, .val (.double p2), .second, .val (.double p3), .second] [(.double p1), (.ref a1)])) rfl rfl (hb hby d1_50)
  have F9 : Fld Z h8 a1 "com/example/foglane/foglane/uncertainty/UncertainQuantity$Triangular" "smallest" "D" (.double p1) := F_0.same W8
  have F10 : Exa Z h8 a1 "com/example/foglane/foglane/uncertainty/UncertainQuantity$Triangular" := (E_a1.wr W8)
  have F11 : Fld Z h8 a1 "com/example/foglane/foglane/uncertainty/UncertainQuantity$Triangular" "mostPlausible" "D" (.double (0 : UInt64)) := (F_1.other W8 (Or.inr (slot_ne (Or.inr (hw _ (List.mem_of_getElem? (i := 27) rfl))) (Or.inr (hw _ (List.mem_of_getElem? (i := 25) rfl))) (by decide) (t := .double) (t' := .double) (by decide) (by decide))))
  have F12 : Fld Z h8 a1 "com/example/foglane/foglane/uncertainty/UncertainQuantity$Triangular" "largest" "D" (.double (0 : UInt64)) := (F_2.other W8 (Or.inr (slot_ne (Or.inr (hw _ (List.mem_of_getElem? (i := 29) rfl))) (Or.inr (hw _ (List.mem_of_getElem? (i := 25) rfl))) (by decide) (t := .double) (t' := .double) (by decide) (by decide))))
  have N8 := Fr.snoc X8 M5 g_a1
  have K13 : Keep h0 h8 [a1] := K0.wr W8 (Or.inl (List.mem_of_getElem? (i := 0) rfl))
  have c14 : ∀ t, Steps p.tables e below (T8.setTop (mkF m 53 #[.val (.ref a1), .val (.double p1), .second, .val (.double p2), .second, .val (.double p3), .second] [])) t → Steps p.tables e below (s₁.setTop (entryFrame m #[(.ref a1), (.double p1), (.double p2), (.double p3)] 7)) t := fun t k => c7 t (st8 _ k)
  have c15 : ∀ t, Steps p.tables e below (T8.setTop (mkF m 55 #[.val (.ref a1), .val (.double p1), .second, .val (.double p2), .second, .val (.double p3), .second] [(.double p2), (.ref a1)])) t → Steps p.tables e below (s₁.setTop (entryFrame m #[(.ref a1), (.double p1), (.double p2), (.double p3)] 7)) t := fun t k => c14 t (by
    show Steps p.tables e below (T8.setTop (mkF m 53 #[.val (.ref a1), .val (.double p1), .second, .val (.double p2), .second, .val (.double p3), .second] [])) _
    refine XS.aloadN X8.here hx rfl (hb hby d1_53) rfl rfl ?_
    show Steps p.tables e below (T8.setTop (mkF m 54 #[.val (.ref a1), .val (.double p1), .second, .val (.double p2), .second, .val (.double p3), .second] [(.ref a1)])) _
    refine XS.dloadN X8.here hx rfl (hb hby d1_54) rfl ?_
    show Steps p.tables e below (T8.setTop (mkF m 55 #[.val (.ref a1), .val (.double p1), .second, .val (.double p2), .second, .val (.double p3), .second] [(.double p2), (.ref a1)])) _
    exact k)
  obtain ⟨T16, h16, X16, e16, W16, st16⟩ := putF X8 hx hZ hown (host := "") (Or.inl (hw _ (List.mem_of_getElem? (i := 26) rfl))) Via.refl e8 F11 F10 (Or.inr ⟨(hw _ (List.mem_of_getElem? (i := 27) rfl)), rfl, hnaM⟩) (hw _ (List.mem_of_getElem? (i := 2) rfl)) (ty := .double) (by decide) rfl rfl (g := (mkF m 55 #[.val (.ref a1), .val (.double p1), .second, .val (.double p2), .second, .val (.double p3), .second] [(.double p2), (.ref a1)])) rfl rfl (hb hby d1_55)
  have F17 : Fld Z h16 a1 "com/example/foglane/foglane/uncertainty/UncertainQuantity$Triangular" "mostPlausible" "D" (.double p2) := F11.same W16
  have F18 : Exa Z h16 a1 "com/example/foglane/foglane/uncertainty/UncertainQuantity$Triangular" := (F10.wr W16)
  have F19 : Fld Z h16 a1 "com/example/foglane/foglane/uncertainty/UncertainQuantity$Triangular" "smallest" "D" (.double p1) := (F9.other W16 (Or.inr (slot_ne (Or.inr (hw _ (List.mem_of_getElem? (i := 25) rfl))) (Or.inr (hw _ (List.mem_of_getElem? (i := 27) rfl))) (by decide) (t := .double) (t' := .double) (by decide) (by decide))))
  have F20 : Fld Z h16 a1 "com/example/foglane/foglane/uncertainty/UncertainQuantity$Triangular" "largest" "D" (.double (0 : UInt64)) := (F12.other W16 (Or.inr (slot_ne (Or.inr (hw _ (List.mem_of_getElem? (i := 29) rfl))) (Or.inr (hw _ (List.mem_of_getElem? (i := 27) rfl))) (by decide) (t := .double) (t' := .double) (by decide) (by decide))))
  have N16 := Fr.snoc X16 N8 g_a1
  have K21 : Keep h0 h16 [a1] := K13.wr W16 (Or.inl (List.mem_of_getElem? (i := 0) rfl))
  have c22 : ∀ t, Steps p.tables e below (T16.setTop (mkF m 58 #[.val (.ref a1), .val (.double p1), .second, .val (.double p2), .second, .val (.double p3), .second] [])) t → Steps p.tables e below (s₁.setTop (entryFrame m #[(.ref a1), (.double p1), (.double p2), (.double p3)] 7)) t := fun t k => c15 t (st16 _ k)
  have c23 : ∀ t, Steps p.tables e below (T16.setTop (mkF m 61 #[.val (.ref a1), .val (.double p1), .second, .val (.double p2), .second, .val (.double p3), .second] [(.double p3), (.ref a1)])) t → Steps p.tables e below (s₁.setTop (entryFrame m #[(.ref a1), (.double p1), (.double p2), (.double p3)] 7)) t := fun t k => c22 t (by
    show Steps p.tables e below (T16.setTop (mkF m 58 #[.val (.ref a1), .val (.double p1), .second, .val (.double p2), .second, .val (.double p3), .second] [])) _
    refine XS.aloadN X16.here hx rfl (hb hby d1_58) rfl rfl ?_
    show Steps p.tables e below (T16.setTop (mkF m 59 #[.val (.ref a1), .val (.double p1), .second, .val (.double p2), .second, .val (.double p3), .second] [(.ref a1)])) _
    refine XS.dload X16.here hx rfl (hb hby d1_59) rfl ?_
    show Steps p.tables e below (T16.setTop (mkF m 61 #[.val (.ref a1), .val (.double p1), .second, .val (.double p2), .second, .val (.double p3), .second] [(.double p3), (.ref a1)])) _
    exact k)
  obtain ⟨T24, h24, X24, e24, W24, st24⟩ := putF X16 hx hZ hown (host := "") (Or.inl (hw _ (List.mem_of_getElem? (i := 28) rfl))) Via.refl e16 F20 F18 (Or.inr ⟨(hw _ (List.mem_of_getElem? (i := 29) rfl)), rfl, hnaM⟩) (hw _ (List.mem_of_getElem? (i := 2) rfl)) (ty := .double) (by decide) rfl rfl (g := (mkF m 61 #[.val (.ref a1), .val (.double p1), .second, .val (.double p2), .second, .val (.double p3), .second] [(.double p3), (.ref a1)])) rfl rfl (hb hby d1_61)
  have F25 : Fld Z h24 a1 "com/example/foglane/foglane/uncertainty/UncertainQuantity$Triangular" "largest" "D" (.double p3) := F20.same W24
  have F26 : Exa Z h24 a1 "com/example/foglane/foglane/uncertainty/UncertainQuantity$Triangular" := (F18.wr W24)
  have F27 : Fld Z h24 a1 "com/example/foglane/foglane/uncertainty/UncertainQuantity$Triangular" "smallest" "D" (.double p1) := (F19.other W24 (Or.inr (slot_ne (Or.inr (hw _ (List.mem_of_getElem? (i := 25) rfl))) (Or.inr (hw _ (List.mem_of_getElem? (i := 29) rfl))) (by decide) (t := .double) (t' := .double) (by decide) (by decide))))
  have F28 : Fld Z h24 a1 "com/example/foglane/foglane/uncertainty/UncertainQuantity$Triangular" "mostPlausible" "D" (.double p2) := (F17.other W24 (Or.inr (slot_ne (Or.inr (hw _ (List.mem_of_getElem? (i := 27) rfl))) (Or.inr (hw _ (List.mem_of_getElem? (i := 29) rfl))) (by decide) (t := .double) (t' := .double) (by decide) (by decide))))
  have N24 := Fr.snoc X24 N16 g_a1
  have K29 : Keep h0 h24 [a1] := K21.wr W24 (Or.inl (List.mem_of_getElem? (i := 0) rfl))
  have c30 : ∀ t, Steps p.tables e below (T24.setTop (mkF m 64 #[.val (.ref a1), .val (.double p1), .second, .val (.double p2), .second, .val (.double p3), .second] [])) t → Steps p.tables e below (s₁.setTop (entryFrame m #[(.ref a1), (.double p1), (.double p2), (.double p3)] 7)) t := fun t k => c23 t (st24 _ k)
  obtain ⟨fs, hr, hrun, hended, hW, hsame⟩ := X24.leave (v := none) (fun _ => rfl)
  refine ⟨_, _, pre0 _ (c30 _ (X24.returnOut hx Bd.returns (hb hby d1_64) hr)), hrun, hended, _, _, rfl, ?_, ⟨_, rfl⟩, hW, hsame.mono (by decide) (by decide)⟩
  show Q_1 Z a1 p1 p2 p3 h0 n0 _ T24.heap _
  rw [e24]
  exact ⟨rfl, N24, K29, F26, F27, F28, F25⟩
theorem c18 : DS 18 0 (4625759767262920704 : UInt64) := ⟨by rw [Core.fin_bits]; decide, by decide +kernel⟩
theorem mul_b {x y : Int} {k : Nat} (hx : 0 ≤ x ∧ x ≤ 2 ^ k) (hy : 0 ≤ y ∧ y ≤ 2 ^ k) : 0 ≤ x * y ∧ x * y ≤ 2 ^ (k + k) :=
  ⟨Int.mul_nonneg hx.1 hy.1, by rw [Int.pow_add]; exact Int.mul_le_mul hx.2 hy.2 hy.1 (Int.le_of_lt (pow_pos k))⟩
theorem d6_0 : decode prog_102_method_4_code 0 = .ok (.aload_n 0, 1) := by decide +kernel
theorem d6_1 : decode prog_102_method_4_code 1 = .ok (.getfield 22, 3) := by decide +kernel
theorem d6_4 : decode prog_102_method_4_code 4 = .ok (.dstore_n 1, 1) := by decide +kernel
theorem d6_5 : decode prog_102_method_4_code 5 = .ok (.aload_n 0, 1) := by decide +kernel
theorem d6_6 : decode prog_102_method_4_code 6 = .ok (.getfield 28, 3) := by decide +kernel
theorem d6_9 : decode prog_102_method_4_code 9 = .ok (.dstore_n 3, 1) := by decide +kernel
theorem d6_10 : decode prog_102_method_4_code 10 = .ok (.aload_n 0, 1) := by decide +kernel
theorem d6_11 : decode prog_102_method_4_code 11 = .ok (.getfield 31, 3) := by decide +kernel
theorem d6_14 : decode prog_102_method_4_code 14 = .ok (.dstore 5, 2) := by decide +kernel
theorem d6_16 : decode prog_102_method_4_code 16 = .ok (.dload_n 1, 1) := by decide +kernel
theorem d6_17 : decode prog_102_method_4_code 17 = .ok (.dload_n 1, 1) := by decide +kernel
theorem d6_18 : decode prog_102_method_4_code 18 = .ok (.dmul, 1) := by decide +kernel
theorem d6_19 : decode prog_102_method_4_code 19 = .ok (.dload_n 3, 1) := by decide +kernel
theorem d6_20 : decode prog_102_method_4_code 20 = .ok (.dload_n 3, 1) := by decide +kernel
theorem d6_21 : decode prog_102_method_4_code 21 = .ok (.dmul, 1) := by decide +kernel
theorem d6_22 : decode prog_102_method_4_code 22 = .ok (.dadd, 1) := by decide +kernel
theorem d6_23 : decode prog_102_method_4_code 23 = .ok (.dload 5, 2) := by decide +kernel
theorem d6_25 : decode prog_102_method_4_code 25 = .ok (.dload 5, 2) := by decide +kernel
theorem d6_27 : decode prog_102_method_4_code 27 = .ok (.dmul, 1) := by decide +kernel
theorem d6_28 : decode prog_102_method_4_code 28 = .ok (.dadd, 1) := by decide +kernel
theorem d6_29 : decode prog_102_method_4_code 29 = .ok (.dload_n 1, 1) := by decide +kernel
theorem d6_30 : decode prog_102_method_4_code 30 = .ok (.dload_n 3, 1) := by decide +kernel
theorem d6_31 : decode prog_102_method_4_code 31 = .ok (.dmul, 1) := by decide +kernel
theorem d6_32 : decode prog_102_method_4_code 32 = .ok (.dsub, 1) := by decide +kernel
theorem d6_33 : decode prog_102_method_4_code 33 = .ok (.dload_n 1, 1) := by decide +kernel
theorem d6_34 : decode prog_102_method_4_code 34 = .ok (.dload 5, 2) := by decide +kernel
theorem d6_36 : decode prog_102_method_4_code 36 = .ok (.dmul, 1) := by decide +kernel
theorem d6_37 : decode prog_102_method_4_code 37 = .ok (.dsub, 1) := by decide +kernel
theorem d6_38 : decode prog_102_method_4_code 38 = .ok (.dload_n 3, 1) := by decide +kernel
theorem d6_39 : decode prog_102_method_4_code 39 = .ok (.dload 5, 2) := by decide +kernel
theorem d6_41 : decode prog_102_method_4_code 41 = .ok (.dmul, 1) := by decide +kernel
theorem d6_42 : decode prog_102_method_4_code 42 = .ok (.dsub, 1) := by decide +kernel
theorem d6_43 : decode prog_102_method_4_code 43 = .ok (.ldc2_w 57, 3) := by decide +kernel
theorem d6_46 : decode prog_102_method_4_code 46 = .ok (.ddiv, 1) := by decide +kernel
theorem d6_47 : decode prog_102_method_4_code 47 = .ok (.dreturn, 1) := by decide +kernel
theorem ef_6 (m : MethodId) (a1 : Addr) (p1 : UInt64) (p2 : UInt64) (p3 : UInt64) (A_ B_ C_ : Int) (k_ : Nat) : entryFrame m #[(.ref a1)] 7 = (mkF m 0 #[.val (.ref a1), .unset, .unset, .unset, .unset, .unset, .unset] []) := by first | (simp [entryFrame, mkF, argsToLocals, Value.category]; done) | rfl
def Q_6 (Z : State) (a1 : Addr) (p1 : UInt64) (p2 : UInt64) (p3 : UInt64) (A_ B_ C_ : Int) (k_ : Nat) (h0 : Heap) (n0 : Nat) (v : Option Value) (h : Heap) (L : List Loc) : Prop := (∃ x, DS (A_ * A_ + B_ * B_ + C_ * C_ - A_ * B_ - A_ * C_ - B_ * C_) (k_ + k_) x ∧ v = some (.double (FP.ddiv x (4625759767262920704 : UInt64)))) ∧ Fr n0 L ∧ h = h0
set_option maxRecDepth 65536 in
set_option maxHeartbeats 2000000 in
theorem rm_6 (l : Launch) (Z : State) (a0 : Array Value) (hw : ∀ d ∈ tables_1, d.before a0 Z = true) (ws : List Jvm.Cond) (a1 : Addr) (p1 : UInt64) (p2 : UInt64) (p3 : UInt64) (A_ B_ C_ : Int) (k_ : Nat) (h0 : Heap) (n0 : Nat) (Z0 : n0 ≤ h0.size) (G_0 : Fld Z h0 a1 "com/example/foglane/foglane/uncertainty/UncertainQuantity$Triangular" "smallest" "D" (.double p1)) (G_1 : Fld Z h0 a1 "com/example/foglane/foglane/uncertainty/UncertainQuantity$Triangular" "mostPlausible" "D" (.double p2)) (G_2 : Fld Z h0 a1 "com/example/foglane/foglane/uncertainty/UncertainQuantity$Triangular" "largest" "D" (.double p3)) (d1 : DS A_ k_ p1) (d2 : DS B_ k_ p2) (d3 : DS C_ k_ p3) (b1 : 0 ≤ A_ ∧ A_ ≤ 2 ^ 22) (b2 : 0 ≤ B_ ∧ B_ ≤ 2 ^ 22) (b3 : 0 ≤ C_ ∧ C_ ≤ 2 ^ 22) (bk : k_ ≤ 40) :
    MetFree l (⟨"com/example/foglane/foglane/uncertainty/UncertainQuantity$Triangular", "variance", "()D"⟩ : MethodName) (head1 (Jvm.Cond.code (⟨"com/example/foglane/foglane/uncertainty/UncertainQuantity$Triangular", "variance", "()D"⟩ : MethodName) prog_102_method_4_code 7 (some .double) :: ws) ({ frames := 0, cells := 0, slots := 0, locals := 0 } : Room)) (fun aa UU => aa = #[(.ref a1)] ∧ Z.Warmed39 UU.vm ∧ UU.heap = h0) (fun _ _ _ _ _ => True) (fun _ UU oo UU' => ∃ v L, oo = .returned v ∧ Q_6 Z a1 p1 p2 p3 A_ B_ C_ k_ h0 n0 v UU'.heap L ∧ FrameEnd UU oo UU' L ({ frames := 0, cells := 0, slots := 0, locals := 0 } : Room).cells ({ frames := 0, cells := 0, slots := 0, locals := 0 } : Room).slots) := by
  refine MetFree.of_bodySF (plainFor_of_name pn_com_example_foglane_foglane_uncertainty_UncertainQuantity_Triangular) hisR ?_
  intro p e s m args below meth c s₁ Bd hml0 hP hK
  obtain ⟨rfl, hZ, hh⟩ := hP
  have hx := Bd.exec
  have hby := Bd.bytes
  have hml : c.maxLocals = 7 := hml0
  have hown : s.vm.findClass "com/example/foglane/foglane/uncertainty/UncertainQuantity$Triangular" = some m.cls := findClass_of_methodNamed Bd.named
  have hnaM := (name_of_methodNamed Bd.named Bd.method).1
  have X0 : Stand p l e ({ frames := 0, cells := 0, slots := 0, locals := 0 } : Room) s m #[(.ref a1)] below meth c s₁ [] 0 0 := Stand.of_body Bd
  have e0 : s₁.heap = h0 := by rw [← hh, Bd.state]; rfl
  have N0 := Fr.nil n0
  have pre0 : ∀ t, Steps p.tables e below (s₁.setTop (entryFrame m #[(.ref a1)] 7)) t → Steps p.tables e below (s₁.setTop (entryFrame m #[(.ref a1)] 7)) t := fun t k => k
  have c0 : ∀ t, Steps p.tables e below (s₁.setTop (mkF m 0 #[.val (.ref a1), .unset, .unset, .unset, .unset, .unset, .unset] [])) t → Steps p.tables e below (s₁.setTop (entryFrame m #[(.ref a1)] 7)) t := fun t k => castTop (ef_6 m a1 p1 p2 p3 A_ B_ C_ k_) k
  have kk : k_ + k_ ≤ 1000 := by omega
  have mAA := mul_b b1 b1
  have mBB := mul_b b2 b2
  have mCC := mul_b b3 b3
  have mAB := mul_b b1 b2
  have mAC := mul_b b1 b3
  have mBC := mul_b b2 b3
  have c1 : ∀ t, Steps p.tables e below (s₁.setTop (mkF m 1 #[.val (.ref a1), .unset, .unset, .unset, .unset, .unset, .unset] [(.ref a1)])) t → Steps p.tables e below (s₁.setTop (entryFrame m #[(.ref a1)] 7)) t := fun t k => c0 t (by
    show Steps p.tables e below (s₁.setTop (mkF m 0 #[.val (.ref a1), .unset, .unset, .unset, .unset, .unset, .unset] [])) _
    refine XS.aloadN X0.here hx rfl (hb hby d6_0) rfl rfl ?_
    show Steps p.tables e below (s₁.setTop (mkF m 1 #[.val (.ref a1), .unset, .unset, .unset, .unset, .unset, .unset] [(.ref a1)])) _
    exact k)
  obtain ⟨T2, X2, e2, st2⟩ := getF X0 hx hZ hown (host := "") (Or.inl (hw _ (List.mem_of_getElem? (i := 24) rfl))) Via.refl e0 G_0 (g := (mkF m 1 #[.val (.ref a1), .unset, .unset, .unset, .unset, .unset, .unset] [(.ref a1)])) rfl rfl (hb hby d6_1)
  have c3 : ∀ t, Steps p.tables e below (T2.setTop (mkF m 4 #[.val (.ref a1), .unset, .unset, .unset, .unset, .unset, .unset] [(.double p1)])) t → Steps p.tables e below (s₁.setTop (entryFrame m #[(.ref a1)] 7)) t := fun t k => c1 t (st2 _ k)
  have c4 : ∀ t, Steps p.tables e below (T2.setTop (mkF m 6 #[.val (.ref a1), .val (.double p1), .second, .unset, .unset, .unset, .unset] [(.ref a1)])) t → Steps p.tables e below (s₁.setTop (entryFrame m #[(.ref a1)] 7)) t := fun t k => c3 t (by
    show Steps p.tables e below (T2.setTop (mkF m 4 #[.val (.ref a1), .unset, .unset, .unset, .unset, .unset, .unset] [(.double p1)])) _
    refine XS.dstoreN X2.here hx rfl (hb hby d6_4) rfl (l' := #[.val (.ref a1), .val (.double p1), .second, .unset, .unset, .unset, .unset]) rfl ?_
    show Steps p.tables e below (T2.setTop (mkF m 5 #[.val (.ref a1), .val (.double p1), .second, .unset, .unset, .unset, .unset] [])) _
    refine XS.aloadN X2.here hx rfl (hb hby d6_5) rfl rfl ?_
    show Steps p.tables e below (T2.setTop (mkF m 6 #[.val (.ref a1), .val (.double p1), .second, .unset, .unset, .unset, .unset] [(.ref a1)])) _
    exact k)
  obtain ⟨T5, X5, e5, st5⟩ := getF X2 hx hZ hown (host := "") (Or.inl (hw _ (List.mem_of_getElem? (i := 26) rfl))) Via.refl e2 G_1 (g := (mkF m 6 #[.val (.ref a1), .val (.double p1), .second, .unset, .unset, .unset, .unset] [(.ref a1)])) rfl rfl (hb hby d6_6)
  have c6 : ∀ t, Steps p.tables e below (T5.setTop (mkF m 9 #[.val (.ref a1), .val (.double p1), .second, .unset, .unset, .unset, .unset] [(.double p2)])) t → Steps p.tables e below (s₁.setTop (entryFrame m #[(.ref a1)] 7)) t := fun t k => c4 t (st5 _ k)
  have c7 : ∀ t, Steps p.tables e below (T5.setTop (mkF m 11 #[.val (.ref a1), .val (.double p1), .second, .val (.double p2), .second, .unset, .unset] [(.ref a1)])) t → Steps p.tables e below (s₁.setTop (entryFrame m #[(.ref a1)] 7)) t := fun t k => c6 t (by
    show Steps p.tables e below (T5.setTop (mkF m 9 #[.val (.ref a1), .val (.double p1), .second, .unset, .unset, .unset, .unset] [(.double p2)])) _
    refine XS.dstoreN X5.here hx rfl (hb hby d6_9) rfl (l' := #[.val (.ref a1), .val (.double p1), .second, .val (.double p2), .second, .unset, .unset]) rfl ?_
    show Steps p.tables e below (T5.setTop (mkF m 10 #[.val (.ref a1), .val (.double p1), .second, .val (.double p2), .second, .unset, .unset] [])) _
    refine XS.aloadN X5.here hx rfl (hb hby d6_10) rfl rfl ?_
    show Steps p.tables e below (T5.setTop (mkF m 11 #[.val (.ref a1), .val (.double p1), .second, .val (.double p2), .second, .unset, .unset] [(.ref a1)])) _
    exact k)
  obtain ⟨T8, X8, e8, st8⟩ := getF X5 hx hZ hown (host := "") (Or.inl (hw _ (List.mem_of_getElem? (i := 28) rfl))) Via.refl e5 G_2 (g := (mkF m 11 #[.val (.ref a1), .val (.double p1), .second, .val (.double p2), .second, .unset, .unset] [(.ref a1)])) rfl rfl (hb hby d6_11)
  have c9 : ∀ t, Steps p.tables e below (T8.setTop (mkF m 14 #[.val (.ref a1), .val (.double p1), .second, .val (.double p2), .second, .unset, .unset] [(.double p3)])) t → Steps p.tables e below (s₁.setTop (entryFrame m #[(.ref a1)] 7)) t := fun t k => c7 t (st8 _ k)
  obtain ⟨d18, hd18⟩ : ∃ v : UInt64, FP.dmul p1 p1 = v := ⟨_, rfl⟩
  have e18 : DS (A_ * A_) (k_ + k_) d18 := hd18 ▸ d1.mul d1 (by omega) kk
  obtain ⟨d21, hd21⟩ : ∃ v : UInt64, FP.dmul p2 p2 = v := ⟨_, rfl⟩
  have e21 : DS (B_ * B_) (k_ + k_) d21 := hd21 ▸ d2.mul d2 (by omega) kk
  obtain ⟨d22, hd22⟩ : ∃ v : UInt64, FP.dadd d18 d21 = v := ⟨_, rfl⟩
  have e22 : DS (A_ * A_ + B_ * B_) (k_ + k_) d22 := hd22 ▸ e18.add e21 (by omega) kk
  obtain ⟨d27, hd27⟩ : ∃ v : UInt64, FP.dmul p3 p3 = v := ⟨_, rfl⟩
  have e27 : DS (C_ * C_) (k_ + k_) d27 := hd27 ▸ d3.mul d3 (by omega) kk
  obtain ⟨d28, hd28⟩ : ∃ v : UInt64, FP.dadd d22 d27 = v := ⟨_, rfl⟩
  have e28 : DS (A_ * A_ + B_ * B_ + C_ * C_) (k_ + k_) d28 := hd28 ▸ e22.add e27 (by omega) kk
  obtain ⟨d31, hd31⟩ : ∃ v : UInt64, FP.dmul p1 p2 = v := ⟨_, rfl⟩
  have e31 : DS (A_ * B_) (k_ + k_) d31 := hd31 ▸ d1.mul d2 (by omega) kk
  obtain ⟨d32, hd32⟩ : ∃ v : UInt64, FP.dsub d28 d31 = v := ⟨_, rfl⟩
  have e32 : DS (A_ * A_ + B_ * B_ + C_ * C_ - A_ * B_) (k_ + k_) d32 := hd32 ▸ e28.sub e31 (by omega) kk
  obtain ⟨d36, hd36⟩ : ∃ v : UInt64, FP.dmul p1 p3 = v := ⟨_, rfl⟩
  have e36 : DS (A_ * C_) (k_ + k_) d36 := hd36 ▸ d1.mul d3 (by omega) kk
  obtain ⟨d37, hd37⟩ : ∃ v : UInt64, FP.dsub d32 d36 = v := ⟨_, rfl⟩
  have e37 : DS (A_ * A_ + B_ * B_ + C_ * C_ - A_ * B_ - A_ * C_) (k_ + k_) d37 := hd37 ▸ e32.sub e36 (by omega) kk
  obtain ⟨d41, hd41⟩ : ∃ v : UInt64, FP.dmul p2 p3 = v := ⟨_, rfl⟩
  have e41 : DS (B_ * C_) (k_ + k_) d41 := hd41 ▸ d2.mul d3 (by omega) kk
  obtain ⟨d42, hd42⟩ : ∃ v : UInt64, FP.dsub d37 d41 = v := ⟨_, rfl⟩
  have e42 : DS (A_ * A_ + B_ * B_ + C_ * C_ - A_ * B_ - A_ * C_ - B_ * C_) (k_ + k_) d42 := hd42 ▸ e37.sub e41 (by omega) kk
  obtain ⟨d46, hd46⟩ : ∃ v : UInt64, FP.ddiv d42 (4625759767262920704 : UInt64) = v := ⟨_, rfl⟩
  have c10 : ∀ t, Steps p.tables e below (T8.setTop (mkF m 47 #[.val (.ref a1), .val (.double p1), .second, .val (.double p2), .second, .val (.double p3), .second] [(.double d46)])) t → Steps p.tables e below (s₁.setTop (entryFrame m #[(.ref a1)] 7)) t := fun t k => c9 t (by
    show Steps p.tables e below (T8.setTop (mkF m 14 #[.val (.ref a1), .val (.double p1), .second, .val (.double p2), .second, .unset, .unset] [(.double p3)])) _
    refine XS.dstore X8.here hx rfl (hb hby d6_14) rfl (l' := #[.val (.ref a1), .val (.double p1), .second, .val (.double p2), .second, .val (.double p3), .second]) rfl ?_
    show Steps p.tables e below (T8.setTop (mkF m 16 #[.val (.ref a1), .val (.double p1), .second, .val (.double p2), .second, .val (.double p3), .second] [])) _
    refine XS.dloadN X8.here hx rfl (hb hby d6_16) rfl ?_
    show Steps p.tables e below (T8.setTop (mkF m 17 #[.val (.ref a1), .val (.double p1), .second, .val (.double p2), .second, .val (.double p3), .second] [(.double p1)])) _
    refine XS.dloadN X8.here hx rfl (hb hby d6_17) rfl ?_
    show Steps p.tables e below (T8.setTop (mkF m 18 #[.val (.ref a1), .val (.double p1), .second, .val (.double p2), .second, .val (.double p3), .second] [(.double p1), (.double p1)])) _
    refine XS.dmulS X8.here hx rfl (hb hby d6_18) rfl (hd18 ▸ e18.noNaN) hd18 ?_
    show Steps p.tables e below (T8.setTop (mkF m 19 #[.val (.ref a1), .val (.double p1), .second, .val (.double p2), .second, .val (.double p3), .second] [(.double d18)])) _
    refine XS.dloadN X8.here hx rfl (hb hby d6_19) rfl ?_
    show Steps p.tables e below (T8.setTop (mkF m 20 #[.val (.ref a1), .val (.double p1), .second, .val (.double p2), .second, .val (.double p3), .second] [(.double p2), (.double d18)])) _
    refine XS.dloadN X8.here hx rfl (hb hby d6_20) rfl ?_
    show Steps p.tables e below (T8.setTop (mkF m 21 #[.val (.ref a1), .val (.double p1), .second, .val (.double p2), .second, .val (.double p3), .second] [(.double p2), (.double p2), (.double d18)])) _
    refine XS.dmulS X8.here hx rfl (hb hby d6_21) rfl (hd21 ▸ e21.noNaN) hd21 ?_
    show Steps p.tables e below (T8.setTop (mkF m 22 #[.val (.ref a1), .val (.double p1), .second, .val (.double p2), .second, .val (.double p3), .second] [(.double d21), (.double d18)])) _
    refine XS.daddS X8.here hx rfl (hb hby d6_22) rfl (hd22 ▸ e22.noNaN) hd22 ?_
    show Steps p.tables e below (T8.setTop (mkF m 23 #[.val (.ref a1), .val (.double p1), .second, .val (.double p2), .second, .val (.double p3), .second] [(.double d22)])) _
    refine XS.dload X8.here hx rfl (hb hby d6_23) rfl ?_
    show Steps p.tables e below (T8.setTop (mkF m 25 #[.val (.ref a1), .val (.double p1), .second, .val (.double p2), .second, .val (.double p3), .second] [(.double p3), (.double d22)])) _
    refine XS.dload X8.here hx rfl (hb hby d6_25) rfl ?_
    show Steps p.tables e below (T8.setTop (mkF m 27 #[.val (.ref a1), .val (.double p1), .second, .val (.double p2), .second, .val (.double p3), .second] [(.double p3), (.double p3), (.double d22)])) _
    refine XS.dmulS X8.here hx rfl (hb hby d6_27) rfl (hd27 ▸ e27.noNaN) hd27 ?_
    show Steps p.tables e below (T8.setTop (mkF m 28 #[.val (.ref a1), .val (.double p1), .second, .val (.double p2), .second, .val (.double p3), .second] [(.double d27), (.double d22)])) _
    refine XS.daddS X8.here hx rfl (hb hby d6_28) rfl (hd28 ▸ e28.noNaN) hd28 ?_
    show Steps p.tables e below (T8.setTop (mkF m 29 #[.val (.ref a1), .val (.double p1), .second, .val (.double p2), .second, .val (.double p3), .second] [(.double d28)])) _
    refine XS.dloadN X8.here hx rfl (hb hby d6_29) rfl ?_
    show Steps p.tables e below (T8.setTop (mkF m 30 #[.val (.ref a1), .val (.double p1), .second, .val (.double p2), .second, .val (.double p3), .second] [(.double p1), (.double d28)])) _
    refine XS.dloadN X8.here hx rfl (hb hby d6_30) rfl ?_
    show Steps p.tables e below (T8.setTop (mkF m 31 #[.val (.ref a1), .val (.double p1), .second, .val (.double p2), .second, .val (.double p3), .second] [(.double p2), (.double p1), (.double d28)])) _
    refine XS.dmulS X8.here hx rfl (hb hby d6_31) rfl (hd31 ▸ e31.noNaN) hd31 ?_
    show Steps p.tables e below (T8.setTop (mkF m 32 #[.val (.ref a1), .val (.double p1), .second, .val (.double p2), .second, .val (.double p3), .second] [(.double d31), (.double d28)])) _
    refine XS.dsubS X8.here hx rfl (hb hby d6_32) rfl (hd32 ▸ e32.noNaN) hd32 ?_
    show Steps p.tables e below (T8.setTop (mkF m 33 #[.val (.ref a1), .val (.double p1), .second, .val (.double p2), .second, .val (.double p3), .second] [(.double d32)])) _
    refine XS.dloadN X8.here hx rfl (hb hby d6_33) rfl ?_
    show Steps p.tables e below (T8.setTop (mkF m 34 #[.val (.ref a1), .val (.double p1), .second, .val (.double p2), .second, .val (.double p3), .second] [(.double p1), (.double d32)])) _
    refine XS.dload X8.here hx rfl (hb hby d6_34) rfl ?_
    show Steps p.tables e below (T8.setTop (mkF m 36 #[.val (.ref a1), .val (.double p1), .second, .val (.double p2), .second, .val (.double p3), .second] [(.double p3), (.double p1), (.double d32)])) _
    refine XS.dmulS X8.here hx rfl (hb hby d6_36) rfl (hd36 ▸ e36.noNaN) hd36 ?_
    show Steps p.tables e below (T8.setTop (mkF m 37 #[.val (.ref a1), .val (.double p1), .second, .val (.double p2), .second, .val (.double p3), .second] [(.double d36), (.double d32)])) _
    refine XS.dsubS X8.here hx rfl (hb hby d6_37) rfl (hd37 ▸ e37.noNaN) hd37 ?_
    show Steps p.tables e below (T8.setTop (mkF m 38 #[.val (.ref a1), .val (.double p1), .second, .val (.double p2), .second, .val (.double p3), .second] [(.double d37)])) _
    refine XS.dloadN X8.here hx rfl (hb hby d6_38) rfl ?_
    show Steps p.tables e below (T8.setTop (mkF m 39 #[.val (.ref a1), .val (.double p1), .second, .val (.double p2), .second, .val (.double p3), .second] [(.double p2), (.double d37)])) _
    refine XS.dload X8.here hx rfl (hb hby d6_39) rfl ?_
    show Steps p.tables e below (T8.setTop (mkF m 41 #[.val (.ref a1), .val (.double p1), .second, .val (.double p2), .second, .val (.double p3), .second] [(.double p3), (.double p2), (.double d37)])) _
    refine XS.dmulS X8.here hx rfl (hb hby d6_41) rfl (hd41 ▸ e41.noNaN) hd41 ?_
    show Steps p.tables e below (T8.setTop (mkF m 42 #[.val (.ref a1), .val (.double p1), .second, .val (.double p2), .second, .val (.double p3), .second] [(.double d41), (.double d37)])) _
    refine XS.dsubS X8.here hx rfl (hb hby d6_42) rfl (hd42 ▸ e42.noNaN) hd42 ?_
    show Steps p.tables e below (T8.setTop (mkF m 43 #[.val (.ref a1), .val (.double p1), .second, .val (.double p2), .second, .val (.double p3), .second] [(.double d42)])) _
    refine Jvm.Stand.ldc2DoubleC X8 hx hown (mvT hZ (hw _ (List.mem_of_getElem? (i := 36) rfl))) (g := (mkF m 43 #[.val (.ref a1), .val (.double p1), .second, .val (.double p2), .second, .val (.double p3), .second] [(.double d42)])) rfl (hb hby d6_43) _ ?_
    show Steps p.tables e below (T8.setTop (mkF m 46 #[.val (.ref a1), .val (.double p1), .second, .val (.double p2), .second, .val (.double p3), .second] [(.double (4625759767262920704 : UInt64)), (.double d42)])) _
    refine XS.ddivS X8.here hx rfl (hb hby d6_46) rfl (noNaN_of (ddiv_nn e42.1 c18.1 (c18.pos (by decide)))) hd46 ?_
    show Steps p.tables e below (T8.setTop (mkF m 47 #[.val (.ref a1), .val (.double p1), .second, .val (.double p2), .second, .val (.double p3), .second] [(.double d46)])) _
    exact k)
  obtain ⟨fs, hr, hrun, hended, hW, hsame⟩ := X8.leave (v := (some (.double d46))) (fun h => by rw [Bd.returns] at h; cases h)
  refine ⟨_, _, pre0 _ (c10 _ (retOut X8 hx (t := .double) (i := .dreturn) Bd.returns rfl (Or.inr (Or.inr (Or.inl ⟨rfl, rfl, _, rfl⟩))) (hb hby d6_47) hr)), hrun, hended, _, _, rfl, ?_, ⟨_, rfl⟩, hW, hsame.mono (by decide) (by decide)⟩
  show Q_6 Z a1 p1 p2 p3 A_ B_ C_ k_ h0 n0 _ T8.heap _
  rw [e8]
  exact ⟨⟨d42, e42, by rw [hd46]⟩, N0, rfl⟩
/-- far from the ends of the range a rounded ratio scales by powers of two -/
theorem shift_k {A B k : Nat} (hA : 0 < A) (hB : 0 < B) (bA : A < 2 ^ 60) (bB : B < 2 ^ 60) (hk : k ≤ 100) :
    ∃ (c : Nat) (q : Int), Core.roundRatio Core.b64 false A B 0 = .fin false c q ∧ Core.roundRatio Core.b64 false A B (-(k : Int)) = .fin false c (q - k) ∧ -1074 + (k : Int) ≤ q := by
  have lA : A.log2 < 60 := (Nat.log2_lt (by omega)).mpr bA
  have lB : B.log2 < 60 := (Nat.log2_lt (by omega)).mpr bB
  have l1 : -61 ≤ Core.leading A B ∧ Core.leading A B ≤ 60 := by
    unfold Core.leading
    dsimp only
    split <;> omega
  have q0 : Core.quantum Core.b64 A B 0 = Core.leading A B - 52 := by
    unfold Core.quantum; rw [Core.qmin_b64]
    have : (Core.b64.p : Int) - 1 = 52 := by decide
    omega
  have q1 : Core.quantum Core.b64 A B (-(k : Int)) = Core.leading A B - 52 - k := by
    unfold Core.quantum; rw [Core.qmin_b64]
    have : (Core.b64.p : Int) - 1 = 52 := by decide
    omega
  generalize Core.leading A B = ll at *
  have hq : Core.b64.qmax = 971 := by decide
  have u1 : Core.unitsNum A (-(k : Int)) (ll - 52 - k) = Core.unitsNum A 0 (ll - 52) := by
    unfold Core.unitsNum; congr 3; omega
  have u2 : Core.unitsDen B (-(k : Int)) (ll - 52 - k) = Core.unitsDen B 0 (ll - 52) := by
    unfold Core.unitsDen; congr 3; omega
  unfold Core.roundRatio
  rw [if_neg (by omega), if_neg (by omega), q0, q1]
  unfold Core.roundAt
  rw [u1, u2]
  generalize Core.nearest (Core.unitsNum A 0 (ll - 52)) (Core.unitsDen B 0 (ll - 52)) = c
  unfold Core.settle Core.bound
  by_cases hc : c < 2 ^ Core.b64.p
  · rw [if_pos hc, if_pos hc, if_pos (by omega), if_pos (by omega)]
    exact ⟨c, _, rfl, rfl, by omega⟩
  · rw [if_neg hc, if_neg hc, if_pos (by omega), if_pos (by omega)]
    exact ⟨_, ll - 52 + 1, rfl, by congr 1; omega, by omega⟩
/-- a quotient by its plain ratio -/
theorem ac1 (a D x y P : Nat) : a * D * (x * y) * P = (a * x * y) * (D * P) := by ac_rfl
theorem ac2 (N d j P : Nat) : (N * P) * (d * j) = N * d * j * P := by ac_rfl
theorem ac4 (x u : Int) : x * u * (x * u) = u * (x * x) * u := by ac_rfl
theorem quo_ratio {x c : UInt64} {N D : Int} {k : Nat} (hx : DS N k x) (hc : DS D 0 c) (hN : 0 < N) (hD : 0 < D) (hk : k ≤ 1000) : Core.val64 (FP.ddiv x c) = Core.roundRatio Core.b64 false N.toNat D.toNat (-(k : Int)) := by
  obtain ⟨s, a, d, i, j, z1, z2, hd, hr⟩ := ddiv_parts hx.1 hc.1 (hc.pos hD)
  have px := hx.pos hN
  rw [z1] at px
  obtain ⟨rfl, pa⟩ := signed_pos_parts px
  rw [hr]
  have e1 : a * 2 ^ i * 2 ^ k = N.toNat * 2 ^ 1074 := by
    have e := hx.2
    rw [z1] at e
    have u : U = ((2 ^ 1074 : Nat) : Int) := rfl
    have e' : (((a * 2 ^ i) * 2 ^ k : Nat) : Int) = ((N.toNat * 2 ^ 1074 : Nat) : Int) := by
      rw [Int.natCast_mul, Int.natCast_mul N.toNat, ← u, Int.toNat_of_nonneg (by omega), ← e, Int.natCast_pow]; rfl
    exact Int.ofNat.inj e'
  have e2 : d * 2 ^ j = D.toNat * 2 ^ 1074 := by
    have e := hc.2
    rw [z2, Int.pow_zero, Int.mul_one] at e
    have u : U = ((2 ^ 1074 : Nat) : Int) := rfl
    have e' : ((d * 2 ^ j : Nat) : Int) = ((D.toNat * 2 ^ 1074 : Nat) : Int) := by
      rw [e, Int.natCast_mul D.toNat, ← u, Int.toNat_of_nonneg (by omega)]
    exact Int.ofNat.inj e'
  apply Core.roundRatio_congr hd (by omega)
  -- a * D * 2^(i - j + k) = N * d * 2^(j - k - i)
  have key : a * D.toNat * 2 ^ (i + k) = N.toNat * d * 2 ^ j := by
    have p := Nat.two_pow_pos 1074
    refine Nat.eq_of_mul_eq_mul_right p ?_
    calc a * D.toNat * 2 ^ (i + k) * 2 ^ 1074 = (a * 2 ^ i * 2 ^ k) * (D.toNat * 2 ^ 1074) := by rw [Nat.pow_add]; exact ac1 _ _ _ _ _
      _ = (N.toNat * 2 ^ 1074) * (d * 2 ^ j) := by rw [e1, e2]
      _ = N.toNat * d * 2 ^ j * 2 ^ 1074 := ac2 _ _ _ _
  by_cases hle : j ≤ i + k
  · rw [show ((i : Int) - j - -(k : Int)).toNat = i + k - j by omega, show (-(k : Int) - ((i : Int) - j)).toNat = 0 by omega]
    rw [show i + k = (i + k - j) + j by omega, Nat.pow_add, ← Nat.mul_assoc] at key
    simpa using Nat.eq_of_mul_eq_mul_right (Nat.two_pow_pos j) key
  · rw [show ((i : Int) - j - -(k : Int)).toNat = 0 by omega, show (-(k : Int) - ((i : Int) - j)).toNat = j - (i + k) by omega]
    have key2 : a * D.toNat * 2 ^ (i + k) = N.toNat * d * 2 ^ (j - (i + k)) * 2 ^ (i + k) := by rw [key, Nat.mul_assoc (N.toNat * d), ← Nat.pow_add, Nat.sub_add_cancel (by omega)]
    simpa using Nat.eq_of_mul_eq_mul_right (Nat.two_pow_pos (i + k)) key2
/-- dividing by c first and by 2^k then, or the other way round -/
theorem scale_k {x y c s : UInt64} {N D : Int} {k : Nat} (hx : DS N k x) (hy : DS N 0 y) (hc : DS D 0 c) (hN : 0 < N) (bN : N < 2 ^ 60) (hD : 0 < D) (bD : D < 2 ^ 60) (hk : k ≤ 100) (fs : Core.DFin s) (zs : zv s = 2 ^ k * U) :
    Core.DFin (FP.ddiv x c) ∧ Core.DFin (FP.ddiv y c) ∧ Core.val64 (FP.ddiv (FP.ddiv y c) s) ≠ .nan ∧ zv (FP.ddiv (FP.ddiv y c) s) = zv (FP.ddiv x c) := by
  obtain ⟨m, q, r0, r1, hq⟩ := shift_k (A := N.toNat) (B := D.toNat) (k := k) (by omega) (by omega) (by omega) (by omega) hk
  have v0 : Core.val64 (FP.ddiv y c) = .fin false m q := by have := quo_ratio hy hc hN hD (by omega); rw [this, show -((0 : Nat) : Int) = 0 by rfl]; exact r0
  have v1 : Core.val64 (FP.ddiv x c) = .fin false m (q - k) := by rw [quo_ratio hx hc hN hD (by omega)]; exact r1
  have f0 : Core.DFin (FP.ddiv y c) := ⟨_, _, _, v0⟩
  have f1 : Core.DFin (FP.ddiv x c) := ⟨_, _, _, v1⟩
  have e : zv (FP.ddiv y c) = zv (FP.ddiv x c) * 2 ^ k := by
    unfold zv Core.zval
    rw [v0, v1]
    show ((m * 2 ^ (q - Core.b64.qmin).toNat : Nat) : Int) = ((m * 2 ^ (q - k - Core.b64.qmin).toNat : Nat) : Int) * 2 ^ k
    rw [Core.qmin_b64, show (q - -1074).toNat = (q - k - -1074).toNat + k by omega, Nat.pow_add, ← Nat.mul_assoc, Int.natCast_mul, Int.natCast_pow 2 k]; rfl
  have ps : 0 < zv s := by rw [zs]; exact Int.mul_pos (pow_pos k) U_pos
  have e2 : zv (FP.ddiv y c) * U = zv (FP.ddiv x c) * zv s := by rw [e, zs, Int.mul_assoc]
  have g1 := ddiv_le f0 fs ps (notNan f1) (Int.le_of_eq e2)
  have g2 := ddiv_ge f0 fs ps (notNan f1) (Int.le_of_eq e2.symm)
  exact ⟨f1, f0, ddiv_nn f0 fs ps, by omega⟩
theorem sq_s {s : UInt64} {w : Nat} (hs : DS (2 ^ w) 0 s) (hw : w ≤ 31) : Core.DFin (FP.dmul s s) ∧ zv (FP.dmul s s) = 2 ^ (w + w) * U := by
  obtain ⟨V, fV, zV⟩ := repE 1 (1074 + (w + w)) (by decide) (by omega)
  have u : U = 2 ^ 1074 := by have := U_pow 0 (by decide); rw [this]; simp
  have zs : zv s = 2 ^ w * U := by have := hs.2; rwa [Int.pow_zero, Int.mul_one] at this
  have e : zv (FP.dmul s s) = zv V := dmul_eq hs.1 hs.1 (notNan fV) (by rw [zs, zV, Int.one_mul, Int.pow_add, Int.pow_add, ← u]; exact ac4 _ _)
  refine ⟨fin_between (dmul_nn hs.1 hs.1) fV fV (by omega) (by omega), ?_⟩
  rw [e, zV, Int.one_mul, Int.pow_add, ← u, Int.mul_comm]
theorem lshl_k : ∀ K : Fin 32, ((1 : Int64) <<< ((Int32.ofNat K.val).toInt64 &&& 63)).toInt = ((2 ^ K.val : Nat) : Int) := by decide +kernel
theorem w_k (x : Int32) : ∃ K : Fin 32, x &&& (31 : Int32) = Int32.ofNat K.val := by
  have h1 := Kit.i32_mask x 31 (k := 5) (by decide) (by decide)
  refine ⟨⟨(x &&& (31 : Int32)).toInt.toNat, by omega⟩, ?_⟩
  apply Int32.toInt_inj.mp
  show (x &&& (31 : Int32)).toInt = (Int32.ofNat (x &&& (31 : Int32)).toInt.toNat).toInt
  rw [Int32.toInt_ofNat_small (by omega)]; omega
theorem m20 (x : Int32) : 0 ≤ (x &&& (1048575 : Int32)).toInt64.toInt ∧ (x &&& (1048575 : Int32)).toInt64.toInt < 2 ^ 20 := by
  have h1 := Kit.i32_mask x 1048575 (k := 20) (by decide) (by decide)
  rw [Kit.i64_of_i32]; omega
theorem var_id (a p q : Int) : a * a + (a + p) * (a + p) + (a + p + q) * (a + p + q) - a * (a + p) - a * (a + p + q) - (a + p) * (a + p + q) = p * p + p * q + q * q := by grind
/-- both sides of the law -/
theorem both_k {s x y : UInt64} {N : Int} {w : Nat} (hs : DS (2 ^ w) 0 s) (hw : w ≤ 31) (hx : DS N (w + w) x) (hy : DS N 0 y) (h0 : 0 ≤ N) (hN : N < 2 ^ 50) :
    Core.DFin (FP.ddiv x (4625759767262920704 : UInt64)) ∧ Core.DFin (FP.ddiv y (4625759767262920704 : UInt64)) ∧ Core.val64 (FP.ddiv (FP.ddiv y (4625759767262920704 : UInt64)) (FP.dmul s s)) ≠ .nan ∧ zv (FP.ddiv (FP.ddiv y (4625759767262920704 : UInt64)) (FP.dmul s s)) = zv (FP.ddiv x (4625759767262920704 : UInt64)) := by
  obtain ⟨fs, zs⟩ := sq_s hs hw
  by_cases hz : N = 0
  · subst hz
    have ps : 0 < zv (FP.dmul s s) := by rw [zs]; exact Int.mul_pos (pow_pos _) U_pos
    have d1 : DS 0 0 (FP.ddiv x (4625759767262920704 : UInt64)) := hx.div c18 (by decide) (by simp) (by decide) (by decide)
    have d2 : DS 0 0 (FP.ddiv y (4625759767262920704 : UInt64)) := hy.div c18 (by decide) (by simp) (by decide) (by decide)
    have z1 : zv (FP.ddiv x (4625759767262920704 : UInt64)) = 0 := by have := d1.2; rw [Int.pow_zero, Int.mul_one, Int.zero_mul] at this; exact this
    have z2 : zv (FP.ddiv y (4625759767262920704 : UInt64)) = 0 := by have := d2.2; rw [Int.pow_zero, Int.mul_one, Int.zero_mul] at this; exact this
    have g1 := ddiv_le d2.1 fs ps (notNan DS.zero.1) (by rw [z2, zv_zero]; simp)
    have g2 := ddiv_ge d2.1 fs ps (notNan DS.zero.1) (by rw [z2, zv_zero]; simp)
    rw [zv_zero] at g1 g2
    exact ⟨d1.1, d2.1, ddiv_nn d2.1 fs ps, by omega⟩
  · exact scale_k hx hy c18 (by omega) (by omega) (by decide) (by decide) (by omega) fs zs
theorem ef_0 (m : MethodId) (q1 : Int32) (q2 : Int32) (q3 : Int32) (q4 : Int32) : entryFrame m #[(.int q1), (.int q2), (.int q3), (.int q4)] maxLocals = (mkF m 0 #[.val (.int q1), .val (.int q2), .val (.int q3), .val (.int q4), .unset, .unset, .unset, .unset, .unset, .unset, .unset, .unset, .unset, .unset, .unset, .unset, .unset, .unset, .unset] []) := by first | (simp [entryFrame, mkF, argsToLocals, Value.category, maxLocals]; done) | rfl
def Q_0 (Z : State) (q1 : Int32) (q2 : Int32) (q3 : Int32) (q4 : Int32) (h0 : Heap) (n0 : Nat) (v : Option Value) (h : Heap) (L : List Loc) : Prop := v = some (.int 1) ∧ Fr n0 L
set_option maxRecDepth 65536 in
set_option maxHeartbeats 2000000 in
theorem rm_0 (l : Launch) (Z : State) (a0 : Array Value) (hw : ∀ d ∈ tables_1, d.before a0 Z = true) (ws : List Jvm.Cond) (q1 : Int32) (q2 : Int32) (q3 : Int32) (q4 : Int32) (h0 : Heap) (n0 : Nat) (Z0 : n0 ≤ h0.size)  :
    MetFree l x (head1 (Jvm.Cond.code x code maxLocals ret :: ws) room_1) (fun aa UU => aa = #[(.int q1), (.int q2), (.int q3), (.int q4)] ∧ Z.Warmed39 UU.vm ∧ UU.heap = h0) (fun _ _ _ _ _ => True) (fun _ UU oo UU' => ∃ v L, oo = .returned v ∧ Q_0 Z q1 q2 q3 q4 h0 n0 v UU'.heap L ∧ FrameEnd UU oo UU' L 16 128) := by
  refine MetFree.of_bodySF (plainFor_of_name pn_com_example_foglane_foglane_uncertainty_TriangularVariancePinLaw) hisR ?_
  intro p e s m args below meth c s₁ Bd hml0 hP hK
  obtain ⟨rfl, hZ, hh⟩ := hP
  have hx := Bd.exec
  have hby := Bd.bytes
  have hml : c.maxLocals = 19 := hml0
  have hown : s.vm.findClass "com/example/foglane/foglane/uncertainty/TriangularVariancePinLaw" = some m.cls := findClass_of_methodNamed Bd.named
  have hnaM := (name_of_methodNamed Bd.named Bd.method).1
  have X0 : Stand p l e room_1 s m #[(.int q1), (.int q2), (.int q3), (.int q4)] below meth c s₁ [] 0 0 := Stand.of_body Bd
  have e0 : s₁.heap = h0 := by rw [← hh, Bd.state]; rfl
  have N0 := Fr.nil n0
  have pre0 : ∀ t, Steps p.tables e below (s₁.setTop (entryFrame m #[(.int q1), (.int q2), (.int q3), (.int q4)] maxLocals)) t → Steps p.tables e below (s₁.setTop (entryFrame m #[(.int q1), (.int q2), (.int q3), (.int q4)] maxLocals)) t := fun t k => k
  have c0 : ∀ t, Steps p.tables e below (s₁.setTop (mkF m 0 #[.val (.int q1), .val (.int q2), .val (.int q3), .val (.int q4), .unset, .unset, .unset, .unset, .unset, .unset, .unset, .unset, .unset, .unset, .unset, .unset, .unset, .unset, .unset] [])) t → Steps p.tables e below (s₁.setTop (entryFrame m #[(.int q1), (.int q2), (.int q3), (.int q4)] maxLocals)) t := fun t k => castTop (ef_0 m q1 q2 q3 q4) k
  obtain ⟨aa, haa⟩ : ∃ v : Int64, v = ((q1 &&& (1048575 : Int32)).toInt64) := ⟨_, rfl⟩
  have c1 : ∀ t, Steps p.tables e below (s₁.setTop (mkF m 7 #[.val (.int q1), .val (.int q2), .val (.int q3), .val (.int q4), .val (.long aa), .second, .unset, .unset, .unset, .unset, .unset, .unset, .unset, .unset, .unset, .unset, .unset, .unset, .unset] [])) t → Steps p.tables e below (s₁.setTop (entryFrame m #[(.int q1), (.int q2), (.int q3), (.int q4)] maxLocals)) t := fun t k => c0 t (by
    rw [haa] at k
    show Steps p.tables e below (s₁.setTop (mkF m 0 #[.val (.int q1), .val (.int q2), .val (.int q3), .val (.int q4), .unset, .unset, .unset, .unset, .unset, .unset, .unset, .unset, .unset, .unset, .unset, .unset, .unset, .unset, .unset] [])) _
    refine XS.iloadN X0.here hx rfl (hb hby at_0) rfl ?_
    show Steps p.tables e below (s₁.setTop (mkF m 1 #[.val (.int q1), .val (.int q2), .val (.int q3), .val (.int q4), .unset, .unset, .unset, .unset, .unset, .unset, .unset, .unset, .unset, .unset, .unset, .unset, .unset, .unset, .unset] [(.int q1)])) _
    refine Jvm.Stand.ldcI X0 hx hown (mvT hZ (hw _ (List.mem_of_getElem? (i := 0) rfl))) rfl (hb hby at_1) ?_
    show Steps p.tables e below (s₁.setTop (mkF m 3 #[.val (.int q1), .val (.int q2), .val (.int q3), .val (.int q4), .unset, .unset, .unset, .unset, .unset, .unset, .unset, .unset, .unset, .unset, .unset, .unset, .unset, .unset, .unset] [(.int (1048575 : Int32)), (.int q1)])) _
    refine XS.iand X0.here hx rfl (hb hby at_3) rfl ?_
    show Steps p.tables e below (s₁.setTop (mkF m 4 #[.val (.int q1), .val (.int q2), .val (.int q3), .val (.int q4), .unset, .unset, .unset, .unset, .unset, .unset, .unset, .unset, .unset, .unset, .unset, .unset, .unset, .unset, .unset] [(.int (q1 &&& (1048575 : Int32)))])) _
    refine XT.i2l X0.here hx rfl (hb hby at_4) rfl ?_
    show Steps p.tables e below (s₁.setTop (mkF m 5 #[.val (.int q1), .val (.int q2), .val (.int q3), .val (.int q4), .unset, .unset, .unset, .unset, .unset, .unset, .unset, .unset, .unset, .unset, .unset, .unset, .unset, .unset, .unset] [(.long ((q1 &&& (1048575 : Int32)).toInt64))])) _
    refine XT.lstore X0.here hx rfl (hb hby at_5) rfl (l' := #[.val (.int q1), .val (.int q2), .val (.int q3), .val (.int q4), .val (.long ((q1 &&& (1048575 : Int32)).toInt64)), .second, .unset, .unset, .unset, .unset, .unset, .unset, .unset, .unset, .unset, .unset, .unset, .unset, .unset]) rfl ?_
    show Steps p.tables e below (s₁.setTop (mkF m 7 #[.val (.int q1), .val (.int q2), .val (.int q3), .val (.int q4), .val (.long ((q1 &&& (1048575 : Int32)).toInt64)), .second, .unset, .unset, .unset, .unset, .unset, .unset, .unset, .unset, .unset, .unset, .unset, .unset, .unset] [])) _
    exact k)
  obtain ⟨pp, hpp⟩ : ∃ v : Int64, v = ((q2 &&& (1048575 : Int32)).toInt64) := ⟨_, rfl⟩
  have c2 : ∀ t, Steps p.tables e below (s₁.setTop (mkF m 14 #[.val (.int q1), .val (.int q2), .val (.int q3), .val (.int q4), .val (.long aa), .second, .val (.long pp), .second, .unset, .unset, .unset, .unset, .unset, .unset, .unset, .unset, .unset, .unset, .unset] [])) t → Steps p.tables e below (s₁.setTop (entryFrame m #[(.int q1), (.int q2), (.int q3), (.int q4)] maxLocals)) t := fun t k => c1 t (by
    rw [hpp] at k
    show Steps p.tables e below (s₁.setTop (mkF m 7 #[.val (.int q1), .val (.int q2), .val (.int q3), .val (.int q4), .val (.long aa), .second, .unset, .unset, .unset, .unset, .unset, .unset, .unset, .unset, .unset, .unset, .unset, .unset, .unset] [])) _
    refine XS.iloadN X0.here hx rfl (hb hby at_7) rfl ?_
    show Steps p.tables e below (s₁.setTop (mkF m 8 #[.val (.int q1), .val (.int q2), .val (.int q3), .val (.int q4), .val (.long aa), .second, .unset, .unset, .unset, .unset, .unset, .unset, .unset, .unset, .unset, .unset, .unset, .unset, .unset] [(.int q2)])) _
    refine Jvm.Stand.ldcI X0 hx hown (mvT hZ (hw _ (List.mem_of_getElem? (i := 0) rfl))) rfl (hb hby at_8) ?_
    show Steps p.tables e below (s₁.setTop (mkF m 10 #[.val (.int q1), .val (.int q2), .val (.int q3), .val (.int q4), .val (.long aa), .second, .unset, .unset, .unset, .unset, .unset, .unset, .unset, .unset, .unset, .unset, .unset, .unset, .unset] [(.int (1048575 : Int32)), (.int q2)])) _
    refine XS.iand X0.here hx rfl (hb hby at_10) rfl ?_
    show Steps p.tables e below (s₁.setTop (mkF m 11 #[.val (.int q1), .val (.int q2), .val (.int q3), .val (.int q4), .val (.long aa), .second, .unset, .unset, .unset, .unset, .unset, .unset, .unset, .unset, .unset, .unset, .unset, .unset, .unset] [(.int (q2 &&& (1048575 : Int32)))])) _
    refine XT.i2l X0.here hx rfl (hb hby at_11) rfl ?_
    show Steps p.tables e below (s₁.setTop (mkF m 12 #[.val (.int q1), .val (.int q2), .val (.int q3), .val (.int q4), .val (.long aa), .second, .unset, .unset, .unset, .unset, .unset, .unset, .unset, .unset, .unset, .unset, .unset, .unset, .unset] [(.long ((q2 &&& (1048575 : Int32)).toInt64))])) _
    refine XT.lstore X0.here hx rfl (hb hby at_12) rfl (l' := #[.val (.int q1), .val (.int q2), .val (.int q3), .val (.int q4), .val (.long aa), .second, .val (.long ((q2 &&& (1048575 : Int32)).toInt64)), .second, .unset, .unset, .unset, .unset, .unset, .unset, .unset, .unset, .unset, .unset, .unset]) rfl ?_
    show Steps p.tables e below (s₁.setTop (mkF m 14 #[.val (.int q1), .val (.int q2), .val (.int q3), .val (.int q4), .val (.long aa), .second, .val (.long ((q2 &&& (1048575 : Int32)).toInt64)), .second, .unset, .unset, .unset, .unset, .unset, .unset, .unset, .unset, .unset, .unset, .unset] [])) _
    exact k)
  obtain ⟨qq, hqq⟩ : ∃ v : Int64, v = ((q3 &&& (1048575 : Int32)).toInt64) := ⟨_, rfl⟩
  have c3 : ∀ t, Steps p.tables e below (s₁.setTop (mkF m 21 #[.val (.int q1), .val (.int q2), .val (.int q3), .val (.int q4), .val (.long aa), .second, .val (.long pp), .second, .val (.long qq), .second, .unset, .unset, .unset, .unset, .unset, .unset, .unset, .unset, .unset] [])) t → Steps p.tables e below (s₁.setTop (entryFrame m #[(.int q1), (.int q2), (.int q3), (.int q4)] maxLocals)) t := fun t k => c2 t (by
    rw [hqq] at k
    show Steps p.tables e below (s₁.setTop (mkF m 14 #[.val (.int q1), .val (.int q2), .val (.int q3), .val (.int q4), .val (.long aa), .second, .val (.long pp), .second, .unset, .unset, .unset, .unset, .unset, .unset, .unset, .unset, .unset, .unset, .unset] [])) _
    refine XS.iloadN X0.here hx rfl (hb hby at_14) rfl ?_
    show Steps p.tables e below (s₁.setTop (mkF m 15 #[.val (.int q1), .val (.int q2), .val (.int q3), .val (.int q4), .val (.long aa), .second, .val (.long pp), .second, .unset, .unset, .unset, .unset, .unset, .unset, .unset, .unset, .unset, .unset, .unset] [(.int q3)])) _
    refine Jvm.Stand.ldcI X0 hx hown (mvT hZ (hw _ (List.mem_of_getElem? (i := 0) rfl))) rfl (hb hby at_15) ?_
    show Steps p.tables e below (s₁.setTop (mkF m 17 #[.val (.int q1), .val (.int q2), .val (.int q3), .val (.int q4), .val (.long aa), .second, .val (.long pp), .second, .unset, .unset, .unset, .unset, .unset, .unset, .unset, .unset, .unset, .unset, .unset] [(.int (1048575 : Int32)), (.int q3)])) _
    refine XS.iand X0.here hx rfl (hb hby at_17) rfl ?_
    show Steps p.tables e below (s₁.setTop (mkF m 18 #[.val (.int q1), .val (.int q2), .val (.int q3), .val (.int q4), .val (.long aa), .second, .val (.long pp), .second, .unset, .unset, .unset, .unset, .unset, .unset, .unset, .unset, .unset, .unset, .unset] [(.int (q3 &&& (1048575 : Int32)))])) _
    refine XT.i2l X0.here hx rfl (hb hby at_18) rfl ?_
    show Steps p.tables e below (s₁.setTop (mkF m 19 #[.val (.int q1), .val (.int q2), .val (.int q3), .val (.int q4), .val (.long aa), .second, .val (.long pp), .second, .unset, .unset, .unset, .unset, .unset, .unset, .unset, .unset, .unset, .unset, .unset] [(.long ((q3 &&& (1048575 : Int32)).toInt64))])) _
    refine XT.lstore X0.here hx rfl (hb hby at_19) rfl (l' := #[.val (.int q1), .val (.int q2), .val (.int q3), .val (.int q4), .val (.long aa), .second, .val (.long pp), .second, .val (.long ((q3 &&& (1048575 : Int32)).toInt64)), .second, .unset, .unset, .unset, .unset, .unset, .unset, .unset, .unset, .unset]) rfl ?_
    show Steps p.tables e below (s₁.setTop (mkF m 21 #[.val (.int q1), .val (.int q2), .val (.int q3), .val (.int q4), .val (.long aa), .second, .val (.long pp), .second, .val (.long ((q3 &&& (1048575 : Int32)).toInt64)), .second, .unset, .unset, .unset, .unset, .unset, .unset, .unset, .unset, .unset] [])) _
    exact k)
  have A1 := m20 q1
  rw [← haa] at A1
  have P1 := m20 q2
  rw [← hpp] at P1
  have Q1 := m20 q3
  rw [← hqq] at Q1
  obtain ⟨K, hK⟩ := w_k q4
  have bK := K.isLt
  obtain ⟨sc, hsc⟩ : ∃ v : Int64, v = ((1 : Int64) <<< ((q4 &&& (31 : Int32)).toInt64 &&& 63)) := ⟨_, rfl⟩
  have c4 : ∀ t, Steps p.tables e below (s₁.setTop (mkF m 29 #[.val (.int q1), .val (.int q2), .val (.int q3), .val (.int q4), .val (.long aa), .second, .val (.long pp), .second, .val (.long qq), .second, .val (.long sc), .second, .unset, .unset, .unset, .unset, .unset, .unset, .unset] [])) t → Steps p.tables e below (s₁.setTop (entryFrame m #[(.int q1), (.int q2), (.int q3), (.int q4)] maxLocals)) t := fun t k => c3 t (by
    rw [hsc] at k
    show Steps p.tables e below (s₁.setTop (mkF m 21 #[.val (.int q1), .val (.int q2), .val (.int q3), .val (.int q4), .val (.long aa), .second, .val (.long pp), .second, .val (.long qq), .second, .unset, .unset, .unset, .unset, .unset, .unset, .unset, .unset, .unset] [])) _
    refine XT.lconst X0.here hx rfl (hb hby at_21) ?_
    show Steps p.tables e below (s₁.setTop (mkF m 22 #[.val (.int q1), .val (.int q2), .val (.int q3), .val (.int q4), .val (.long aa), .second, .val (.long pp), .second, .val (.long qq), .second, .unset, .unset, .unset, .unset, .unset, .unset, .unset, .unset, .unset] [(.long (1 : Int64))])) _
    refine XS.iloadN X0.here hx rfl (hb hby at_22) rfl ?_
    show Steps p.tables e below (s₁.setTop (mkF m 23 #[.val (.int q1), .val (.int q2), .val (.int q3), .val (.int q4), .val (.long aa), .second, .val (.long pp), .second, .val (.long qq), .second, .unset, .unset, .unset, .unset, .unset, .unset, .unset, .unset, .unset] [(.int q4), (.long (1 : Int64))])) _
    refine XS.bipush X0.here hx rfl (hb hby at_23) ?_
    show Steps p.tables e below (s₁.setTop (mkF m 25 #[.val (.int q1), .val (.int q2), .val (.int q3), .val (.int q4), .val (.long aa), .second, .val (.long pp), .second, .val (.long qq), .second, .unset, .unset, .unset, .unset, .unset, .unset, .unset, .unset, .unset] [(.int (31 : Int32)), (.int q4), (.long (1 : Int64))])) _
    refine XS.iand X0.here hx rfl (hb hby at_25) rfl ?_
    show Steps p.tables e below (s₁.setTop (mkF m 26 #[.val (.int q1), .val (.int q2), .val (.int q3), .val (.int q4), .val (.long aa), .second, .val (.long pp), .second, .val (.long qq), .second, .unset, .unset, .unset, .unset, .unset, .unset, .unset, .unset, .unset] [(.int (q4 &&& (31 : Int32))), (.long (1 : Int64))])) _
    refine XT.lshl X0.here hx rfl (hb hby at_26) rfl ?_
    show Steps p.tables e below (s₁.setTop (mkF m 27 #[.val (.int q1), .val (.int q2), .val (.int q3), .val (.int q4), .val (.long aa), .second, .val (.long pp), .second, .val (.long qq), .second, .unset, .unset, .unset, .unset, .unset, .unset, .unset, .unset, .unset] [(.long ((1 : Int64) <<< ((q4 &&& (31 : Int32)).toInt64 &&& 63)))])) _
    refine XT.lstore X0.here hx rfl (hb hby at_27) rfl (l' := #[.val (.int q1), .val (.int q2), .val (.int q3), .val (.int q4), .val (.long aa), .second, .val (.long pp), .second, .val (.long qq), .second, .val (.long ((1 : Int64) <<< ((q4 &&& (31 : Int32)).toInt64 &&& 63))), .second, .unset, .unset, .unset, .unset, .unset, .unset, .unset]) rfl ?_
    show Steps p.tables e below (s₁.setTop (mkF m 29 #[.val (.int q1), .val (.int q2), .val (.int q3), .val (.int q4), .val (.long aa), .second, .val (.long pp), .second, .val (.long qq), .second, .val (.long ((1 : Int64) <<< ((q4 &&& (31 : Int32)).toInt64 &&& 63))), .second, .unset, .unset, .unset, .unset, .unset, .unset, .unset] [])) _
    exact k)
  have s1 : sc.toInt = 2 ^ K.val := by
    rw [hsc, hK, lshl_k K, Int.natCast_pow]; rfl
  obtain ⟨ds, hds⟩ : ∃ v : UInt64, FP.l2d sc = v := ⟨_, rfl⟩
  have Ds : DS (2 ^ K.val) 0 ds := by
    have b : (2 : Nat) ^ K.val ≤ 2 ^ 31 := Nat.pow_le_pow_right (by decide) (by omega)
    have b'' : sc.toInt = ((2 ^ K.val : Nat) : Int) := by rw [s1, Int.natCast_pow]; rfl
    rw [← hds, ← s1]
    generalize (2 : Nat) ^ K.val = W at b b''
    exact DS.l2d (by omega)
  have ap : (aa + pp).toInt = aa.toInt + pp.toInt := Kit.i64_add (by omega) (by omega)
  have apq : (aa + pp + qq).toInt = aa.toInt + pp.toInt + qq.toInt := by rw [Kit.i64_add (by omega) (by omega), ap]
  have dy : ∀ n : Int, n * 2 ^ 0 * 2 ^ K.val = n * 2 ^ K.val * 2 ^ 0 := fun n => by simp
  have c5 : ∀ t, Steps p.tables e below (s₁.setTop (mkF m 34 #[.val (.int q1), .val (.int q2), .val (.int q3), .val (.int q4), .val (.long aa), .second, .val (.long pp), .second, .val (.long qq), .second, .val (.long sc), .second, .val (.double ds), .second, .unset, .unset, .unset, .unset, .unset] [])) t → Steps p.tables e below (s₁.setTop (entryFrame m #[(.int q1), (.int q2), (.int q3), (.int q4)] maxLocals)) t := fun t k => c4 t (by
    show Steps p.tables e below (s₁.setTop (mkF m 29 #[.val (.int q1), .val (.int q2), .val (.int q3), .val (.int q4), .val (.long aa), .second, .val (.long pp), .second, .val (.long qq), .second, .val (.long sc), .second, .unset, .unset, .unset, .unset, .unset, .unset, .unset] [])) _
    refine XT.lload X0.here hx rfl (hb hby at_29) rfl ?_
    show Steps p.tables e below (s₁.setTop (mkF m 31 #[.val (.int q1), .val (.int q2), .val (.int q3), .val (.int q4), .val (.long aa), .second, .val (.long pp), .second, .val (.long qq), .second, .val (.long sc), .second, .unset, .unset, .unset, .unset, .unset, .unset, .unset] [(.long sc)])) _
    refine XS.l2dS X0.here hx rfl (hb hby at_31) rfl hds ?_
    show Steps p.tables e below (s₁.setTop (mkF m 32 #[.val (.int q1), .val (.int q2), .val (.int q3), .val (.int q4), .val (.long aa), .second, .val (.long pp), .second, .val (.long qq), .second, .val (.long sc), .second, .unset, .unset, .unset, .unset, .unset, .unset, .unset] [(.double ds)])) _
    refine XS.dstore X0.here hx rfl (hb hby at_32) rfl (l' := #[.val (.int q1), .val (.int q2), .val (.int q3), .val (.int q4), .val (.long aa), .second, .val (.long pp), .second, .val (.long qq), .second, .val (.long sc), .second, .val (.double ds), .second, .unset, .unset, .unset, .unset, .unset]) rfl ?_
    show Steps p.tables e below (s₁.setTop (mkF m 34 #[.val (.int q1), .val (.int q2), .val (.int q3), .val (.int q4), .val (.long aa), .second, .val (.long pp), .second, .val (.long qq), .second, .val (.long sc), .second, .val (.double ds), .second, .unset, .unset, .unset, .unset, .unset] [])) _
    exact k)
  obtain ⟨T6, h6, X6, e6, E6, A6, D6, -, st6⟩ := newO X0 hx hZ hown (hw _ (List.mem_of_getElem? (i := 1) rfl)) (hw _ (List.mem_of_getElem? (i := 2) rfl)) (hw _ (List.mem_of_getElem? (i := 3) rfl)) e0 (g := (mkF m 34 #[.val (.int q1), .val (.int q2), .val (.int q3), .val (.int q4), .val (.long aa), .second, .val (.long pp), .second, .val (.long qq), .second, .val (.long sc), .second, .val (.double ds), .second, .unset, .unset, .unset, .unset, .unset] [])) rfl (hb hby at_34) (by decide) (by decide)
  obtain ⟨ob, g6⟩ : ∃ z, z = h0.size := ⟨_, rfl⟩
  rw [← g6] at A6 D6 st6
  have F7 : Fld Z h6 ob "com/example/foglane/foglane/uncertainty/UncertainQuantity$Triangular" "smallest" "D" (.double (0 : UInt64)) := (D6 (Or.inr (hw _ (List.mem_of_getElem? (i := 25) rfl))) (ty := .double) (by decide))
  have F8 : Fld Z h6 ob "com/example/foglane/foglane/uncertainty/UncertainQuantity$Triangular" "mostPlausible" "D" (.double (0 : UInt64)) := (D6 (Or.inr (hw _ (List.mem_of_getElem? (i := 27) rfl))) (ty := .double) (by decide))
  have F9 : Fld Z h6 ob "com/example/foglane/foglane/uncertainty/UncertainQuantity$Triangular" "largest" "D" (.double (0 : UInt64)) := (D6 (Or.inr (hw _ (List.mem_of_getElem? (i := 29) rfl))) (ty := .double) (by decide))
  have c10 : ∀ t, Steps p.tables e below (T6.setTop (mkF m 37 #[.val (.int q1), .val (.int q2), .val (.int q3), .val (.int q4), .val (.long aa), .second, .val (.long pp), .second, .val (.long qq), .second, .val (.long sc), .second, .val (.double ds), .second, .unset, .unset, .unset, .unset, .unset] [(.ref ob)])) t → Steps p.tables e below (s₁.setTop (entryFrame m #[(.int q1), (.int q2), (.int q3), (.int q4)] maxLocals)) t := fun t k => c5 t (st6 _ k)
  obtain ⟨e1, he1⟩ : ∃ v : UInt64, FP.l2d aa = v := ⟨_, rfl⟩
  have De1 : DS aa.toInt 0 e1 := by
    rw [← he1]; exact DS.l2d (by omega)
  obtain ⟨t1, ht1⟩ : ∃ v : UInt64, FP.ddiv e1 ds = v := ⟨_, rfl⟩
  have Dt1 : DS aa.toInt K.val t1 := ht1 ▸ De1.div Ds (pow_pos _) (dy _) (by omega) (by omega)
  obtain ⟨e2, he2⟩ : ∃ v : UInt64, FP.l2d (aa + pp) = v := ⟨_, rfl⟩
  have De2 : DS (aa.toInt + pp.toInt) 0 e2 := by
    rw [← he2, ← ap]; exact DS.l2d (by omega)
  obtain ⟨t2, ht2⟩ : ∃ v : UInt64, FP.ddiv e2 ds = v := ⟨_, rfl⟩
  have Dt2 : DS (aa.toInt + pp.toInt) K.val t2 := ht2 ▸ De2.div Ds (pow_pos _) (dy _) (by omega) (by omega)
  obtain ⟨e3, he3⟩ : ∃ v : UInt64, FP.l2d ((aa + pp) + qq) = v := ⟨_, rfl⟩
  have De3 : DS (aa.toInt + pp.toInt + qq.toInt) 0 e3 := by
    rw [← he3, ← apq]; exact DS.l2d (by omega)
  obtain ⟨t3, ht3⟩ : ∃ v : UInt64, FP.ddiv e3 ds = v := ⟨_, rfl⟩
  have Dt3 : DS (aa.toInt + pp.toInt + qq.toInt) K.val t3 := ht3 ▸ De3.div Ds (pow_pos _) (dy _) (by omega) (by omega)
  have c11 : ∀ t, Steps p.tables e below (T6.setTop (mkF m 65 #[.val (.int q1), .val (.int q2), .val (.int q3), .val (.int q4), .val (.long aa), .second, .val (.long pp), .second, .val (.long qq), .second, .val (.long sc), .second, .val (.double ds), .second, .unset, .unset, .unset, .unset, .unset] [(.double t3), (.double t2), (.double t1), (.ref ob), (.ref ob)])) t → Steps p.tables e below (s₁.setTop (entryFrame m #[(.int q1), (.int q2), (.int q3), (.int q4)] maxLocals)) t := fun t k => c10 t (by
    show Steps p.tables e below (T6.setTop (mkF m 37 #[.val (.int q1), .val (.int q2), .val (.int q3), .val (.int q4), .val (.long aa), .second, .val (.long pp), .second, .val (.long qq), .second, .val (.long sc), .second, .val (.double ds), .second, .unset, .unset, .unset, .unset, .unset] [(.ref ob)])) _
    refine XS.dup X6.here hx rfl (hb hby at_37) rfl rfl ?_
    show Steps p.tables e below (T6.setTop (mkF m 38 #[.val (.int q1), .val (.int q2), .val (.int q3), .val (.int q4), .val (.long aa), .second, .val (.long pp), .second, .val (.long qq), .second, .val (.long sc), .second, .val (.double ds), .second, .unset, .unset, .unset, .unset, .unset] [(.ref ob), (.ref ob)])) _
    refine XT.lload X6.here hx rfl (hb hby at_38) rfl ?_
    show Steps p.tables e below (T6.setTop (mkF m 40 #[.val (.int q1), .val (.int q2), .val (.int q3), .val (.int q4), .val (.long aa), .second, .val (.long pp), .second, .val (.long qq), .second, .val (.long sc), .second, .val (.double ds), .second, .unset, .unset, .unset, .unset, .unset] [(.long aa), (.ref ob), (.ref ob)])) _
    refine XS.l2dS X6.here hx rfl (hb hby at_40) rfl he1 ?_
    show Steps p.tables e below (T6.setTop (mkF m 41 #[.val (.int q1), .val (.int q2), .val (.int q3), .val (.int q4), .val (.long aa), .second, .val (.long pp), .second, .val (.long qq), .second, .val (.long sc), .second, .val (.double ds), .second, .unset, .unset, .unset, .unset, .unset] [(.double e1), (.ref ob), (.ref ob)])) _
    refine XS.dload X6.here hx rfl (hb hby at_41) rfl ?_
    show Steps p.tables e below (T6.setTop (mkF m 43 #[.val (.int q1), .val (.int q2), .val (.int q3), .val (.int q4), .val (.long aa), .second, .val (.long pp), .second, .val (.long qq), .second, .val (.long sc), .second, .val (.double ds), .second, .unset, .unset, .unset, .unset, .unset] [(.double ds), (.double e1), (.ref ob), (.ref ob)])) _
    refine XS.ddivS X6.here hx rfl (hb hby at_43) rfl (ht1 ▸ Dt1.noNaN) ht1 ?_
    show Steps p.tables e below (T6.setTop (mkF m 44 #[.val (.int q1), .val (.int q2), .val (.int q3), .val (.int q4), .val (.long aa), .second, .val (.long pp), .second, .val (.long qq), .second, .val (.long sc), .second, .val (.double ds), .second, .unset, .unset, .unset, .unset, .unset] [(.double t1), (.ref ob), (.ref ob)])) _
    refine XT.lload X6.here hx rfl (hb hby at_44) rfl ?_
    show Steps p.tables e below (T6.setTop (mkF m 46 #[.val (.int q1), .val (.int q2), .val (.int q3), .val (.int q4), .val (.long aa), .second, .val (.long pp), .second, .val (.long qq), .second, .val (.long sc), .second, .val (.double ds), .second, .unset, .unset, .unset, .unset, .unset] [(.long aa), (.double t1), (.ref ob), (.ref ob)])) _
    refine XT.lload X6.here hx rfl (hb hby at_46) rfl ?_
    show Steps p.tables e below (T6.setTop (mkF m 48 #[.val (.int q1), .val (.int q2), .val (.int q3), .val (.int q4), .val (.long aa), .second, .val (.long pp), .second, .val (.long qq), .second, .val (.long sc), .second, .val (.double ds), .second, .unset, .unset, .unset, .unset, .unset] [(.long pp), (.long aa), (.double t1), (.ref ob), (.ref ob)])) _
    refine XT.ladd X6.here hx rfl (hb hby at_48) rfl ?_
    show Steps p.tables e below (T6.setTop (mkF m 49 #[.val (.int q1), .val (.int q2), .val (.int q3), .val (.int q4), .val (.long aa), .second, .val (.long pp), .second, .val (.long qq), .second, .val (.long sc), .second, .val (.double ds), .second, .unset, .unset, .unset, .unset, .unset] [(.long (aa + pp)), (.double t1), (.ref ob), (.ref ob)])) _
    refine XS.l2dS X6.here hx rfl (hb hby at_49) rfl he2 ?_
    show Steps p.tables e below (T6.setTop (mkF m 50 #[.val (.int q1), .val (.int q2), .val (.int q3), .val (.int q4), .val (.long aa), .second, .val (.long pp), .second, .val (.long qq), .second, .val (.long sc), .second, .val (.double ds), .second, .unset, .unset, .unset, .unset, .unset] [(.double e2), (.double t1), (.ref ob), (.ref ob)])) _
    refine XS.dload X6.here hx rfl (hb hby at_50) rfl ?_
    show Steps p.tables e below (T6.setTop (mkF m 52 #[.val (.int q1), .val (.int q2), .val (.int q3), .val (.int q4), .val (.long aa), .second, .val (.long pp), .second, .val (.long qq), .second, .val (.long sc), .second, .val (.double ds), .second, .unset, .unset, .unset, .unset, .unset] [(.double ds), (.double e2), (.double t1), (.ref ob), (.ref ob)])) _
    refine XS.ddivS X6.here hx rfl (hb hby at_52) rfl (ht2 ▸ Dt2.noNaN) ht2 ?_
    show Steps p.tables e below (T6.setTop (mkF m 53 #[.val (.int q1), .val (.int q2), .val (.int q3), .val (.int q4), .val (.long aa), .second, .val (.long pp), .second, .val (.long qq), .second, .val (.long sc), .second, .val (.double ds), .second, .unset, .unset, .unset, .unset, .unset] [(.double t2), (.double t1), (.ref ob), (.ref ob)])) _
    refine XT.lload X6.here hx rfl (hb hby at_53) rfl ?_
    show Steps p.tables e below (T6.setTop (mkF m 55 #[.val (.int q1), .val (.int q2), .val (.int q3), .val (.int q4), .val (.long aa), .second, .val (.long pp), .second, .val (.long qq), .second, .val (.long sc), .second, .val (.double ds), .second, .unset, .unset, .unset, .unset, .unset] [(.long aa), (.double t2), (.double t1), (.ref ob), (.ref ob)])) _
    refine XT.lload X6.here hx rfl (hb hby at_55) rfl ?_
    show Steps p.tables e below (T6.setTop (mkF m 57 #[.val (.int q1), .val (.int q2), .val (.int q3), .val (.int q4), .val (.long aa), .second, .val (.long pp), .second, .val (.long qq), .second, .val (.long sc), .second, .val (.double ds), .second, .unset, .unset, .unset, .unset, .unset] [(.long pp), (.long aa), (.double t2), (.double t1), (.ref ob), (.ref ob)])) _
    refine XT.ladd X6.here hx rfl (hb hby at_57) rfl ?_
    show Steps p.tables e below (T6.setTop (mkF m 58 #[.val (.int q1), .val (.int q2), .val (.int q3), .val (.int q4), .val (.long aa), .second, .val (.long pp), .second, .val (.long qq), .second, .val (.long sc), .second, .val (.double ds), .second, .unset, .unset, .unset, .unset, .unset] [(.long (aa + pp)), (.double t2), (.double t1), (.ref ob), (.ref ob)])) _
    refine XT.lload X6.here hx rfl (hb hby at_58) rfl ?_
    show Steps p.tables e below (T6.setTop (mkF m 60 #[.val (.int q1), .val (.int q2), .val (.int q3), .val (.int q4), .val (.long aa), .second, .val (.long pp), .second, .val (.long qq), .second, .val (.long sc), .second, .val (.double ds), .second, .unset, .unset, .unset, .unset, .unset] [(.long qq), (.long (aa + pp)), (.double t2), (.double t1), (.ref ob), (.ref ob)])) _
    refine XT.ladd X6.here hx rfl (hb hby at_60) rfl ?_
    show Steps p.tables e below (T6.setTop (mkF m 61 #[.val (.int q1), .val (.int q2), .val (.int q3), .val (.int q4), .val (.long aa), .second, .val (.long pp), .second, .val (.long qq), .second, .val (.long sc), .second, .val (.double ds), .second, .unset, .unset, .unset, .unset, .unset] [(.long ((aa + pp) + qq)), (.double t2), (.double t1), (.ref ob), (.ref ob)])) _
    refine XS.l2dS X6.here hx rfl (hb hby at_61) rfl he3 ?_
    show Steps p.tables e below (T6.setTop (mkF m 62 #[.val (.int q1), .val (.int q2), .val (.int q3), .val (.int q4), .val (.long aa), .second, .val (.long pp), .second, .val (.long qq), .second, .val (.long sc), .second, .val (.double ds), .second, .unset, .unset, .unset, .unset, .unset] [(.double e3), (.double t2), (.double t1), (.ref ob), (.ref ob)])) _
    refine XS.dload X6.here hx rfl (hb hby at_62) rfl ?_
    show Steps p.tables e below (T6.setTop (mkF m 64 #[.val (.int q1), .val (.int q2), .val (.int q3), .val (.int q4), .val (.long aa), .second, .val (.long pp), .second, .val (.long qq), .second, .val (.long sc), .second, .val (.double ds), .second, .unset, .unset, .unset, .unset, .unset] [(.double ds), (.double e3), (.double t2), (.double t1), (.ref ob), (.ref ob)])) _
    refine XS.ddivS X6.here hx rfl (hb hby at_64) rfl (ht3 ▸ Dt3.noNaN) ht3 ?_
    show Steps p.tables e below (T6.setTop (mkF m 65 #[.val (.int q1), .val (.int q2), .val (.int q3), .val (.int q4), .val (.long aa), .second, .val (.long pp), .second, .val (.long qq), .second, .val (.long sc), .second, .val (.double ds), .second, .unset, .unset, .unset, .unset, .unset] [(.double t3), (.double t2), (.double t1), (.ref ob), (.ref ob)])) _
    exact k)
  obtain ⟨_, _, ⟨T12, L12, k12', n12⟩, -, X12, ⟨Lc12, hQ12, l12, y12, z12⟩, st12⟩ := X6.specialBack hx (y := (⟨"com/example/foglane/foglane/uncertainty/UncertainQuantity$Triangular", "<init>", "(DDD)V"⟩ : MethodName)) rfl hown (mvT hZ (hw _ (List.mem_of_getElem? (i := 4) rfl))) (mvT hZ (hw _ (List.mem_of_getElem? (i := 5) rfl))) (mvT hZ (hw _ (List.mem_of_getElem? (i := 6) rfl))) (by decide) (backOf (W := 1) (rm_1 l Z a0 hw [] ob t1 t2 t3 h6 n0 (Nat.le_trans Z0 E6.1) A6 F7 F8 F9 (Nat.le_trans Z0 (Nat.le_of_eq g6.symm)) Dt1.1 Dt2.1 Dt3.1 (by have := le_of (DS.zero.up K.val).le (show Ge t1 aa.toInt (0 + K.val) by rw [Nat.zero_add]; exact Dt1.ge) (by simp; omega); rwa [zv_zero] at this) (le_of Dt1.le Dt2.ge (by omega)) (le_of Dt2.le Dt3.ge (by omega))) hZ (hw _ (List.mem_of_getElem? (i := 6) rfl)) (hw _ (List.mem_of_getElem? (i := 3) rfl)) (by decide) (by decide)) (g := (mkF m 65 #[.val (.int q1), .val (.int q2), .val (.int q3), .val (.int q4), .val (.long aa), .second, .val (.long pp), .second, .val (.long qq), .second, .val (.long sc), .second, .val (.double ds), .second, .unset, .unset, .unset, .unset, .unset] [(.double t3), (.double t2), (.double t1), (.ref ob), (.ref ob)])) rfl (by rw [hml]; rfl) (Steps.refl _) (a := ob) (argsL := [(.double t1), (.double t2), (.double t3)]) (rest := [(.ref ob)]) (lenOf pd__DDD_V rfl) rfl (by show 2 * 0 + _ ≤ _; exact Nat.le_of_eq rfl) (hb hby at_65) (fun _ _ => ⟨rfl, e6, (by decide : 1 + 0 ≤ _), (by decide : 3 + 0 ≤ _)⟩)
  dsimp only [Pt.U, Pt.locs, Pt.cells, Pt.slots] at X12 l12 y12 z12 st12 hQ12
  subst l12 y12 z12
  obtain ⟨rfl, N12, K12, G12_0, G12_1, G12_2, G12_3⟩ := hQ12
  have M12 := Fr.app N0 N12
  have F13 : Exa Z T12.heap ob "com/example/foglane/foglane/uncertainty/UncertainQuantity$Triangular" := (A6.keep K12)
  have c14 : ∀ t, Steps p.tables e below (T12.setTop (mkF m 68 #[.val (.int q1), .val (.int q2), .val (.int q3), .val (.int q4), .val (.long aa), .second, .val (.long pp), .second, .val (.long qq), .second, .val (.long sc), .second, .val (.double ds), .second, .unset, .unset, .unset, .unset, .unset] [(.ref ob)])) t → Steps p.tables e below (s₁.setTop (entryFrame m #[(.int q1), (.int q2), (.int q3), (.int q4)] maxLocals)) t := fun t k => c11 t (st12.trans k)
  have b1 := mul_b (k := 20) (x := pp.toInt) (y := pp.toInt) (by omega) (by omega)
  have b2 := mul_b (k := 20) (x := pp.toInt) (y := qq.toInt) (by omega) (by omega)
  have b3 := mul_b (k := 20) (x := qq.toInt) (y := qq.toInt) (by omega) (by omega)
  obtain ⟨nn, hnn⟩ : ∃ v : Int64, v = (((pp * pp) + (pp * qq)) + (qq * qq)) := ⟨_, rfl⟩
  have c15 : ∀ t, Steps p.tables e below (T12.setTop (mkF m 89 #[.val (.int q1), .val (.int q2), .val (.int q3), .val (.int q4), .val (.long aa), .second, .val (.long pp), .second, .val (.long qq), .second, .val (.long sc), .second, .val (.double ds), .second, .val (.ref ob), .val (.long nn), .second, .unset, .unset] [])) t → Steps p.tables e below (s₁.setTop (entryFrame m #[(.int q1), (.int q2), (.int q3), (.int q4)] maxLocals)) t := fun t k => c14 t (by
    rw [hnn] at k
    show Steps p.tables e below (T12.setTop (mkF m 68 #[.val (.int q1), .val (.int q2), .val (.int q3), .val (.int q4), .val (.long aa), .second, .val (.long pp), .second, .val (.long qq), .second, .val (.long sc), .second, .val (.double ds), .second, .unset, .unset, .unset, .unset, .unset] [(.ref ob)])) _
    refine XS.astore X12.here hx rfl (hb hby at_68) rfl rfl (l' := #[.val (.int q1), .val (.int q2), .val (.int q3), .val (.int q4), .val (.long aa), .second, .val (.long pp), .second, .val (.long qq), .second, .val (.long sc), .second, .val (.double ds), .second, .val (.ref ob), .unset, .unset, .unset, .unset]) rfl ?_
    show Steps p.tables e below (T12.setTop (mkF m 70 #[.val (.int q1), .val (.int q2), .val (.int q3), .val (.int q4), .val (.long aa), .second, .val (.long pp), .second, .val (.long qq), .second, .val (.long sc), .second, .val (.double ds), .second, .val (.ref ob), .unset, .unset, .unset, .unset] [])) _
    refine XT.lload X12.here hx rfl (hb hby at_70) rfl ?_
    show Steps p.tables e below (T12.setTop (mkF m 72 #[.val (.int q1), .val (.int q2), .val (.int q3), .val (.int q4), .val (.long aa), .second, .val (.long pp), .second, .val (.long qq), .second, .val (.long sc), .second, .val (.double ds), .second, .val (.ref ob), .unset, .unset, .unset, .unset] [(.long pp)])) _
    refine XT.lload X12.here hx rfl (hb hby at_72) rfl ?_
    show Steps p.tables e below (T12.setTop (mkF m 74 #[.val (.int q1), .val (.int q2), .val (.int q3), .val (.int q4), .val (.long aa), .second, .val (.long pp), .second, .val (.long qq), .second, .val (.long sc), .second, .val (.double ds), .second, .val (.ref ob), .unset, .unset, .unset, .unset] [(.long pp), (.long pp)])) _
    refine XT.lmul X12.here hx rfl (hb hby at_74) rfl ?_
    show Steps p.tables e below (T12.setTop (mkF m 75 #[.val (.int q1), .val (.int q2), .val (.int q3), .val (.int q4), .val (.long aa), .second, .val (.long pp), .second, .val (.long qq), .second, .val (.long sc), .second, .val (.double ds), .second, .val (.ref ob), .unset, .unset, .unset, .unset] [(.long (pp * pp))])) _
    refine XT.lload X12.here hx rfl (hb hby at_75) rfl ?_
    show Steps p.tables e below (T12.setTop (mkF m 77 #[.val (.int q1), .val (.int q2), .val (.int q3), .val (.int q4), .val (.long aa), .second, .val (.long pp), .second, .val (.long qq), .second, .val (.long sc), .second, .val (.double ds), .second, .val (.ref ob), .unset, .unset, .unset, .unset] [(.long pp), (.long (pp * pp))])) _
    refine XT.lload X12.here hx rfl (hb hby at_77) rfl ?_
    show Steps p.tables e below (T12.setTop (mkF m 79 #[.val (.int q1), .val (.int q2), .val (.int q3), .val (.int q4), .val (.long aa), .second, .val (.long pp), .second, .val (.long qq), .second, .val (.long sc), .second, .val (.double ds), .second, .val (.ref ob), .unset, .unset, .unset, .unset] [(.long qq), (.long pp), (.long (pp * pp))])) _
    refine XT.lmul X12.here hx rfl (hb hby at_79) rfl ?_
    show Steps p.tables e below (T12.setTop (mkF m 80 #[.val (.int q1), .val (.int q2), .val (.int q3), .val (.int q4), .val (.long aa), .second, .val (.long pp), .second, .val (.long qq), .second, .val (.long sc), .second, .val (.double ds), .second, .val (.ref ob), .unset, .unset, .unset, .unset] [(.long (pp * qq)), (.long (pp * pp))])) _
    refine XT.ladd X12.here hx rfl (hb hby at_80) rfl ?_
    show Steps p.tables e below (T12.setTop (mkF m 81 #[.val (.int q1), .val (.int q2), .val (.int q3), .val (.int q4), .val (.long aa), .second, .val (.long pp), .second, .val (.long qq), .second, .val (.long sc), .second, .val (.double ds), .second, .val (.ref ob), .unset, .unset, .unset, .unset] [(.long ((pp * pp) + (pp * qq)))])) _
    refine XT.lload X12.here hx rfl (hb hby at_81) rfl ?_
    show Steps p.tables e below (T12.setTop (mkF m 83 #[.val (.int q1), .val (.int q2), .val (.int q3), .val (.int q4), .val (.long aa), .second, .val (.long pp), .second, .val (.long qq), .second, .val (.long sc), .second, .val (.double ds), .second, .val (.ref ob), .unset, .unset, .unset, .unset] [(.long qq), (.long ((pp * pp) + (pp * qq)))])) _
    refine XT.lload X12.here hx rfl (hb hby at_83) rfl ?_
    show Steps p.tables e below (T12.setTop (mkF m 85 #[.val (.int q1), .val (.int q2), .val (.int q3), .val (.int q4), .val (.long aa), .second, .val (.long pp), .second, .val (.long qq), .second, .val (.long sc), .second, .val (.double ds), .second, .val (.ref ob), .unset, .unset, .unset, .unset] [(.long qq), (.long qq), (.long ((pp * pp) + (pp * qq)))])) _
    refine XT.lmul X12.here hx rfl (hb hby at_85) rfl ?_
    show Steps p.tables e below (T12.setTop (mkF m 86 #[.val (.int q1), .val (.int q2), .val (.int q3), .val (.int q4), .val (.long aa), .second, .val (.long pp), .second, .val (.long qq), .second, .val (.long sc), .second, .val (.double ds), .second, .val (.ref ob), .unset, .unset, .unset, .unset] [(.long (qq * qq)), (.long ((pp * pp) + (pp * qq)))])) _
    refine XT.ladd X12.here hx rfl (hb hby at_86) rfl ?_
    show Steps p.tables e below (T12.setTop (mkF m 87 #[.val (.int q1), .val (.int q2), .val (.int q3), .val (.int q4), .val (.long aa), .second, .val (.long pp), .second, .val (.long qq), .second, .val (.long sc), .second, .val (.double ds), .second, .val (.ref ob), .unset, .unset, .unset, .unset] [(.long (((pp * pp) + (pp * qq)) + (qq * qq)))])) _
    refine XT.lstore X12.here hx rfl (hb hby at_87) rfl (l' := #[.val (.int q1), .val (.int q2), .val (.int q3), .val (.int q4), .val (.long aa), .second, .val (.long pp), .second, .val (.long qq), .second, .val (.long sc), .second, .val (.double ds), .second, .val (.ref ob), .val (.long (((pp * pp) + (pp * qq)) + (qq * qq))), .second, .unset, .unset]) rfl ?_
    show Steps p.tables e below (T12.setTop (mkF m 89 #[.val (.int q1), .val (.int q2), .val (.int q3), .val (.int q4), .val (.long aa), .second, .val (.long pp), .second, .val (.long qq), .second, .val (.long sc), .second, .val (.double ds), .second, .val (.ref ob), .val (.long (((pp * pp) + (pp * qq)) + (qq * qq))), .second, .unset, .unset] [])) _
    exact k)
  have n1 : nn.toInt = pp.toInt * pp.toInt + pp.toInt * qq.toInt + qq.toInt * qq.toInt := by
    have m1 := Kit.i64_mul (x := pp) (y := pp) (by omega) (by omega)
    have m2 := Kit.i64_mul (x := pp) (y := qq) (by omega) (by omega)
    have m3 := Kit.i64_mul (x := qq) (y := qq) (by omega) (by omega)
    have a1 := Kit.i64_add (x := pp * pp) (y := pp * qq) (by omega) (by omega)
    rw [hnn, Kit.i64_add (by omega) (by omega)]; omega
  obtain ⟨dn, hdn⟩ : ∃ v : UInt64, FP.l2d nn = v := ⟨_, rfl⟩
  have Dn : DS (pp.toInt * pp.toInt + pp.toInt * qq.toInt + qq.toInt * qq.toInt) 0 dn := by rw [← hdn, ← n1]; exact DS.l2d (by omega)
  obtain ⟨X_, fX, zX⟩ := rep (pp.toInt * pp.toInt + pp.toInt * qq.toInt + qq.toInt * qq.toInt) (K.val + K.val) (by omega) (by omega)
  have DX : DS (pp.toInt * pp.toInt + pp.toInt * qq.toInt + qq.toInt * qq.toInt) (K.val + K.val) X_ := ⟨fX, zX⟩
  obtain ⟨y1, y2, y3, y4⟩ := both_k Ds (by omega) DX Dn (by omega) (by omega)
  have sqs := sq_s Ds (by omega)
  obtain ⟨u1, hu1⟩ : ∃ v : UInt64, FP.ddiv dn (4625759767262920704 : UInt64) = v := ⟨_, rfl⟩
  obtain ⟨u2, hu2⟩ : ∃ v : UInt64, FP.dmul ds ds = v := ⟨_, rfl⟩
  obtain ⟨u3, hu3⟩ : ∃ v : UInt64, FP.ddiv u1 u2 = v := ⟨_, rfl⟩
  have y3' : Core.val64 (FP.ddiv u1 u2) ≠ .nan := by rw [← hu1, ← hu2]; exact y3
  have c16 : ∀ t, Steps p.tables e below (T12.setTop (mkF m 106 #[.val (.int q1), .val (.int q2), .val (.int q3), .val (.int q4), .val (.long aa), .second, .val (.long pp), .second, .val (.long qq), .second, .val (.long sc), .second, .val (.double ds), .second, .val (.ref ob), .val (.long nn), .second, .val (.double u3), .second] [(.ref ob)])) t → Steps p.tables e below (s₁.setTop (entryFrame m #[(.int q1), (.int q2), (.int q3), (.int q4)] maxLocals)) t := fun t k => c15 t (by
    show Steps p.tables e below (T12.setTop (mkF m 89 #[.val (.int q1), .val (.int q2), .val (.int q3), .val (.int q4), .val (.long aa), .second, .val (.long pp), .second, .val (.long qq), .second, .val (.long sc), .second, .val (.double ds), .second, .val (.ref ob), .val (.long nn), .second, .unset, .unset] [])) _
    refine XT.lload X12.here hx rfl (hb hby at_89) rfl ?_
    show Steps p.tables e below (T12.setTop (mkF m 91 #[.val (.int q1), .val (.int q2), .val (.int q3), .val (.int q4), .val (.long aa), .second, .val (.long pp), .second, .val (.long qq), .second, .val (.long sc), .second, .val (.double ds), .second, .val (.ref ob), .val (.long nn), .second, .unset, .unset] [(.long nn)])) _
    refine XS.l2dS X12.here hx rfl (hb hby at_91) rfl hdn ?_
    show Steps p.tables e below (T12.setTop (mkF m 92 #[.val (.int q1), .val (.int q2), .val (.int q3), .val (.int q4), .val (.long aa), .second, .val (.long pp), .second, .val (.long qq), .second, .val (.long sc), .second, .val (.double ds), .second, .val (.ref ob), .val (.long nn), .second, .unset, .unset] [(.double dn)])) _
    refine Jvm.Stand.ldc2DoubleC X12 hx hown (mvT hZ (hw _ (List.mem_of_getElem? (i := 30) rfl))) (g := (mkF m 92 #[.val (.int q1), .val (.int q2), .val (.int q3), .val (.int q4), .val (.long aa), .second, .val (.long pp), .second, .val (.long qq), .second, .val (.long sc), .second, .val (.double ds), .second, .val (.ref ob), .val (.long nn), .second, .unset, .unset] [(.double dn)])) rfl (hb hby at_92) _ ?_
    show Steps p.tables e below (T12.setTop (mkF m 95 #[.val (.int q1), .val (.int q2), .val (.int q3), .val (.int q4), .val (.long aa), .second, .val (.long pp), .second, .val (.long qq), .second, .val (.long sc), .second, .val (.double ds), .second, .val (.ref ob), .val (.long nn), .second, .unset, .unset] [(.double (4625759767262920704 : UInt64)), (.double dn)])) _
    refine XS.ddivS X12.here hx rfl (hb hby at_95) rfl (noNaN_of (notNan y2)) hu1 ?_
    show Steps p.tables e below (T12.setTop (mkF m 96 #[.val (.int q1), .val (.int q2), .val (.int q3), .val (.int q4), .val (.long aa), .second, .val (.long pp), .second, .val (.long qq), .second, .val (.long sc), .second, .val (.double ds), .second, .val (.ref ob), .val (.long nn), .second, .unset, .unset] [(.double u1)])) _
    refine XS.dload X12.here hx rfl (hb hby at_96) rfl ?_
    show Steps p.tables e below (T12.setTop (mkF m 98 #[.val (.int q1), .val (.int q2), .val (.int q3), .val (.int q4), .val (.long aa), .second, .val (.long pp), .second, .val (.long qq), .second, .val (.long sc), .second, .val (.double ds), .second, .val (.ref ob), .val (.long nn), .second, .unset, .unset] [(.double ds), (.double u1)])) _
    refine XS.dload X12.here hx rfl (hb hby at_98) rfl ?_
    show Steps p.tables e below (T12.setTop (mkF m 100 #[.val (.int q1), .val (.int q2), .val (.int q3), .val (.int q4), .val (.long aa), .second, .val (.long pp), .second, .val (.long qq), .second, .val (.long sc), .second, .val (.double ds), .second, .val (.ref ob), .val (.long nn), .second, .unset, .unset] [(.double ds), (.double ds), (.double u1)])) _
    refine XS.dmulS X12.here hx rfl (hb hby at_100) rfl (noNaN_of (notNan sqs.1)) hu2 ?_
    show Steps p.tables e below (T12.setTop (mkF m 101 #[.val (.int q1), .val (.int q2), .val (.int q3), .val (.int q4), .val (.long aa), .second, .val (.long pp), .second, .val (.long qq), .second, .val (.long sc), .second, .val (.double ds), .second, .val (.ref ob), .val (.long nn), .second, .unset, .unset] [(.double u2), (.double u1)])) _
    refine XS.ddivS X12.here hx rfl (hb hby at_101) rfl (noNaN_of y3') hu3 ?_
    show Steps p.tables e below (T12.setTop (mkF m 102 #[.val (.int q1), .val (.int q2), .val (.int q3), .val (.int q4), .val (.long aa), .second, .val (.long pp), .second, .val (.long qq), .second, .val (.long sc), .second, .val (.double ds), .second, .val (.ref ob), .val (.long nn), .second, .unset, .unset] [(.double u3)])) _
    refine XS.dstore X12.here hx rfl (hb hby at_102) rfl (l' := #[.val (.int q1), .val (.int q2), .val (.int q3), .val (.int q4), .val (.long aa), .second, .val (.long pp), .second, .val (.long qq), .second, .val (.long sc), .second, .val (.double ds), .second, .val (.ref ob), .val (.long nn), .second, .val (.double u3), .second]) rfl ?_
    show Steps p.tables e below (T12.setTop (mkF m 104 #[.val (.int q1), .val (.int q2), .val (.int q3), .val (.int q4), .val (.long aa), .second, .val (.long pp), .second, .val (.long qq), .second, .val (.long sc), .second, .val (.double ds), .second, .val (.ref ob), .val (.long nn), .second, .val (.double u3), .second] [])) _
    refine XS.aload X12.here hx rfl (hb hby at_104) rfl rfl ?_
    show Steps p.tables e below (T12.setTop (mkF m 106 #[.val (.int q1), .val (.int q2), .val (.int q3), .val (.int q4), .val (.long aa), .second, .val (.long pp), .second, .val (.long qq), .second, .val (.long sc), .second, .val (.double ds), .second, .val (.ref ob), .val (.long nn), .second, .val (.double u3), .second] [(.ref ob)])) _
    exact k)
  obtain ⟨cq17, kq17, q17a, q17b, q17c⟩ := isOf hZ rfl G12_0
  obtain ⟨_, _, ⟨T17, L17, k17', n17⟩, -, X17, ⟨Lc17, hQ17, l17, y17, z17⟩, st17⟩ := X12.virtualBack hx (y := (⟨"com/example/foglane/foglane/uncertainty/UncertainQuantity$Triangular", "variance", "()D"⟩ : MethodName)) (z := (⟨"com/example/foglane/foglane/uncertainty/UncertainQuantity$Triangular", "variance", "()D"⟩ : MethodName)) hown (mvT hZ (hw _ (List.mem_of_getElem? (i := 31) rfl))) (mvT hZ (hw _ (List.mem_of_getElem? (i := 32) rfl))) (notFace_of_selects (args := #[]) (mvT hZ (hw _ (List.mem_of_getElem? (i := 34) rfl)))) (mvT hZ (hw _ (List.mem_of_getElem? (i := 34) rfl))) (mvT hZ (hw _ (List.mem_of_getElem? (i := 33) rfl))) (by decide) (backOf (W := 0) (rm_6 l Z a0 hw [] ob t1 t2 t3 aa.toInt (aa.toInt + pp.toInt) (aa.toInt + pp.toInt + qq.toInt) K.val T12.heap n0 (Nat.le_trans (Nat.le_trans Z0 E6.1) K12.1) G12_1 G12_2 G12_3 Dt1 Dt2 Dt3 (by omega) (by omega) (by omega) (by omega)) hZ (hw _ (List.mem_of_getElem? (i := 35) rfl)) (hw _ (List.mem_of_getElem? (i := 3) rfl)) (by decide) (by decide)) q17a q17c (g := (mkF m 106 #[.val (.int q1), .val (.int q2), .val (.int q3), .val (.int q4), .val (.long aa), .second, .val (.long pp), .second, .val (.long qq), .second, .val (.long sc), .second, .val (.double ds), .second, .val (.ref ob), .val (.long nn), .second, .val (.double u3), .second] [(.ref ob)])) rfl (by rw [hml]; rfl) (Steps.refl _) (argsL := []) (rest := []) (lenOf pd___D rfl) rfl (by show 2 * 0 + _ ≤ _; exact Nat.le_of_eq rfl) (hb hby at_106) (fun _ _ => ⟨rfl, rfl, (by decide : 1 + 0 ≤ _), (by decide : 3 + 0 ≤ _)⟩)
  dsimp only [Pt.U, Pt.locs, Pt.cells, Pt.slots] at X17 l17 y17 z17 st17 hQ17
  subst l17 y17 z17
  obtain ⟨⟨xr, dxr, rfl⟩, N17, e17⟩ := hQ17
  have M17 := Fr.app M12 N17
  rw [var_id] at dxr
  obtain ⟨z1, z2, z3, z4⟩ := both_k Ds (by omega) dxr Dn (by omega) (by omega)
  have c18 : ∀ t, Steps p.tables e below (T17.setTop (mkF m 109 #[.val (.int q1), .val (.int q2), .val (.int q3), .val (.int q4), .val (.long aa), .second, .val (.long pp), .second, .val (.long qq), .second, .val (.long sc), .second, .val (.double ds), .second, .val (.ref ob), .val (.long nn), .second, .val (.double u3), .second] [(.double (FP.ddiv xr (4625759767262920704 : UInt64)))])) t → Steps p.tables e below (s₁.setTop (entryFrame m #[(.int q1), (.int q2), (.int q3), (.int q4)] maxLocals)) t := fun t k => c16 t (st17.trans k)
  obtain ⟨k111, hk111⟩ : ∃ v : Int32, cmpValue (FP.dcmp (FP.ddiv xr (4625759767262920704 : UInt64)) u3) .l = v := ⟨_, rfl⟩
  have e111 : k111 = 0 := by
    rw [← hk111]
    refine cmp_eq (notNan z1) (hu3 ▸ y3') ?_ .l
    rw [← z4, ← hu3, ← hu1, ← hu2]
  have c19 : ∀ t, Steps p.tables e below (T17.setTop (mkF m 120 #[.val (.int q1), .val (.int q2), .val (.int q3), .val (.int q4), .val (.long aa), .second, .val (.long pp), .second, .val (.long qq), .second, .val (.long sc), .second, .val (.double ds), .second, .val (.ref ob), .val (.long nn), .second, .val (.double u3), .second] [(.int (1 : Int32))])) t → Steps p.tables e below (s₁.setTop (entryFrame m #[(.int q1), (.int q2), (.int q3), (.int q4)] maxLocals)) t := fun t k => c18 t (by
    show Steps p.tables e below (T17.setTop (mkF m 109 #[.val (.int q1), .val (.int q2), .val (.int q3), .val (.int q4), .val (.long aa), .second, .val (.long pp), .second, .val (.long qq), .second, .val (.long sc), .second, .val (.double ds), .second, .val (.ref ob), .val (.long nn), .second, .val (.double u3), .second] [(.double (FP.ddiv xr (4625759767262920704 : UInt64)))])) _
    refine XS.dload X17.here hx rfl (hb hby at_109) rfl ?_
    show Steps p.tables e below (T17.setTop (mkF m 111 #[.val (.int q1), .val (.int q2), .val (.int q3), .val (.int q4), .val (.long aa), .second, .val (.long pp), .second, .val (.long qq), .second, .val (.long sc), .second, .val (.double ds), .second, .val (.ref ob), .val (.long nn), .second, .val (.double u3), .second] [(.double u3), (.double (FP.ddiv xr (4625759767262920704 : UInt64)))])) _
    refine XS.dcmpS X17.here hx rfl (hb hby at_111) rfl hk111 ?_
    show Steps p.tables e below (T17.setTop (mkF m 112 #[.val (.int q1), .val (.int q2), .val (.int q3), .val (.int q4), .val (.long aa), .second, .val (.long pp), .second, .val (.long qq), .second, .val (.long sc), .second, .val (.double ds), .second, .val (.ref ob), .val (.long nn), .second, .val (.double u3), .second] [(.int k111)])) _
    refine XS.ifNo X17.here hx rfl (hb hby at_112) rfl (XT.i0_ne_f e111) ?_
    show Steps p.tables e below (T17.setTop (mkF m 115 #[.val (.int q1), .val (.int q2), .val (.int q3), .val (.int q4), .val (.long aa), .second, .val (.long pp), .second, .val (.long qq), .second, .val (.long sc), .second, .val (.double ds), .second, .val (.ref ob), .val (.long nn), .second, .val (.double u3), .second] [])) _
    refine XS.iconst X17.here hx rfl (hb hby at_115) ?_
    show Steps p.tables e below (T17.setTop (mkF m 116 #[.val (.int q1), .val (.int q2), .val (.int q3), .val (.int q4), .val (.long aa), .second, .val (.long pp), .second, .val (.long qq), .second, .val (.long sc), .second, .val (.double ds), .second, .val (.ref ob), .val (.long nn), .second, .val (.double u3), .second] [(.int (1 : Int32))])) _
    refine XS.goto X17.here hx rfl (pc0 := 116) (pc' := 120) rfl (hb hby at_116) (by decide) (by decide) ?_
    show Steps p.tables e below (T17.setTop (mkF m 120 #[.val (.int q1), .val (.int q2), .val (.int q3), .val (.int q4), .val (.long aa), .second, .val (.long pp), .second, .val (.long qq), .second, .val (.long sc), .second, .val (.double ds), .second, .val (.ref ob), .val (.long nn), .second, .val (.double u3), .second] [(.int (1 : Int32))])) _
    exact k)
  obtain ⟨fs, hr, hrun, hended, hW, hsame⟩ := X17.leave (v := (some (.int (1 : Int32)))) (fun h => by rw [Bd.returns] at h; cases h)
  refine ⟨_, _, pre0 _ (c19 _ (retN X17 hx (t := .boolean) Bd.returns (by simp) (hb hby at_120) hr)), hrun, hended, _, _, rfl, ?_, ⟨_, rfl⟩, hW, hsame.mono (by decide) (by decide)⟩
  show Q_0 Z q1 q2 q3 q4 h0 n0 _ T17.heap _
  rw [e17]
  exact ⟨rfl, M17⟩
set_option maxRecDepth 65536 in
set_option maxHeartbeats 40000000 in
theorem comes_1 {Post : Tables → Env → Array Value → State → Outcome → State → Prop} (hpost : ∀ tb e args s v u, (limb_1_1.after args s (.returned v) u = true ∧ limb_1_2.after args s (.returned v) u = true ∧ True) → FrameEnd s (.returned v) u (Jvm.fieldLocs frame_1_writes args s ++ Jvm.arrayLocs frame_1_arrays args s ++ Jvm.staticLocs frame_1_statics s) 16 128 → Post tb e args s (.returned v) u) :
    ArmFor flags0 classFile x code maxLocals ret World_1 tables_1 room_1 Calls_1 rest_1 Pre_1 Post := by
  intro l hfl _ _ p e ha hc hk s m args below hf hA hF happ hP
  obtain ⟨hcalls, hrest, hpre⟩ := hP
  obtain ⟨-, -, -, hnamed, -, -, -, hat⟩ := (Spec.applies_iff hf).mp happ
  obtain ⟨hg, hn⟩ := and_e (Cond.before_iff.mp (show (Jvm.Cond.and given_1 narrow_1).before args s = true from hpre))
  obtain ⟨g0, r0⟩ := and_e hg
  obtain ⟨g1, r1⟩ := and_e r0
  obtain ⟨g2, r2⟩ := and_e r1
  obtain ⟨g3, r3⟩ := and_e r2
  obtain ⟨w0, w1, w2, w3, rfl⟩ : ∃ w0 w1 w2 w3 : Value, args = #[w0, w1, w2, w3] := by
    have hs : args.size = 4 := by simpa [Cond.value, given_1] using g0
    obtain ⟨L⟩ := args
    match L, hs with
    | [w0, w1, w2, w3], _ => exact ⟨w0, w1, w2, w3, rfl⟩
  have hw := fun d (hd : d ∈ tables_1) => atoms_spec (ws := Jvm.Cond.code x code maxLocals ret :: tables_1) hat d (List.mem_cons_of_mem _ hd)
  obtain ⟨i0, e0⟩ := is_v g1
  obtain rfl : w0 = (.int i0) := Option.some.inj e0
  obtain ⟨i1, e1⟩ := is_v g2
  obtain rfl : w1 = (.int i1) := Option.some.inj e1
  obtain ⟨i2, e2⟩ := is_v g3
  obtain rfl : w2 = (.int i2) := Option.some.inj e2
  obtain ⟨i3, e3⟩ := is_v r3
  obtain rfl : w3 = (.int i3) := Option.some.inj e3
  obtain ⟨n, o, h1, h2, h3, _, L, rfl, ⟨rfl, N⟩, hq⟩ := rm_0 l s _ hw tables_1 i0 i1 i2 i3 s.heap s.heap.size (Nat.le_refl _)  p e ha hc hk s m _ below hf ((Spec.applies_iff_loose hf).mp happ).1 ⟨rfl, State.Warmed39.refl s, rfl⟩ trivial
  refine ⟨n, _, h1, h2, h3, hpost _ _ _ _ _ _ ⟨Cond.after_iff.mpr rfl, Cond.after_iff.mpr (eq_i res_at (Term.int_eval (1)) rfl), trivial⟩ ⟨hq.1, hq.2.1, (hq.2.2.sift fun y hy => Or.inr (N y hy)).mono (by decide) (by decide)⟩⟩
theorem main_1_1 : Claimed_1_1 := comes_1 fun _ _ _ _ _ _ h hF => ⟨h.1, hF⟩
theorem main_1_2 : Claimed_1_2 := comes_1 fun _ _ _ _ _ _ h hF => ⟨h.2.1, hF⟩
end Jvm.Pilot.@@N@@
namespace Jvm.Pilot.@@N@@
open Jvm Jvm.ClassFile Sem Op Lib Jvm.Free Jvm.Stand Jvm.Pilot.@@N@@.Jvm.D
/-! MADE BY PROGRAM (witnessworld.py) out of the Statement's table words and the real class files: 17 classes; the members and pool entries that the words name. The judged class is class 1, her method 1. -/
namespace start1
open Jvm.ClassFile
def u (s : String) : CpInfo := .utf8 (stringToUtf16 s)
/-- a pool by its gaps: so many unusable entries, then the entry; so many at the end -/
def gap : Nat → List CpInfo → List CpInfo
  | 0, r => r
  | n + 1, r => .unusable :: gap n r
def poolList (es : List (Nat × CpInfo)) (last : Nat) : List CpInfo := es.foldr (fun e r => gap e.1 (e.2 :: r)) (gap last [])
def pool (es : List (Nat × CpInfo)) (last : Nat) : Array CpInfo := ⟨poolList es last⟩
def fileOf (pool : Array CpInfo) (this : Nat) (attrs : Array Attribute := #[]) (ms : Array MethodInfo := #[]) (fl : Nat := 33) (sup : Nat := 0) (ifs : Array Nat := #[]) (fds : Array FieldInfo := #[]) : ClassFile where
  minorVersion := 0
  majorVersion := 65
  constantPool := pool
  accessFlags := fl
  thisClass := this
  superClass := sup
  interfaces := ifs
  fields := fds
  methods := ms
  attributes := attrs
def plain (name : String) (sup : Option ClassId) : Class where
  name := name
  kind := .ordinary
  loader := none
  accessFlags := 33
  super := sup
  interfaces := #[]
  cf := none
  fields := #[]
  methods := #[]
  instanceTypes := #[]
  staticTypes := #[]
  resolved := #[]
  callSites := []
  init := .initialized
  statics := none
  mirror := none

def pool0 : Array CpInfo := pool [(5, u "<init>"), (0, u "()V"), (1, .class_ 10), (1, u "java/lang/Object")] 113

def k0c0 : Code := { maxStack := 0, maxLocals := 1, code := object_method_1_code, exceptionTable := #[], attributes := #[] }
def k0m0 : Method := { name := "<init>", desc := "()V", sig := { parameters := [], returnType := none }, accessFlags := 1, code := some k0c0 }
/-- java/lang/Object -/
def k0 : Class := { plain "java/lang/Object" none with
  accessFlags := 33
  interfaces := #[]
  cf := some (fileOf pool0 8 #[] #[{ accessFlags := 1, nameIndex := 5, descriptorIndex := 6, attributes := #[] }] 33 0 #[] #[])
  fields := #[]
  methods := #[k0m0]
  instanceTypes := #[]
  staticTypes := #[]
  resolved := Array.replicate 124 none
  statics := none }

def pool1 : Array CpInfo := pool [(2, .class_ 4), (1, u "java/lang/Object"), (0, u "<init>"), (0, u "()V"), (0, .integer 1048575), (0, .class_ 9), (0, u "com/example/foglane/foglane/uncertainty/UncertainQuantity$Triangular"), (0, .methodref 8 11), (0, .nameAndType 5 12), (0, u "(DDD)V"), (0, .double 4625759767262920704), (1, .methodref 8 16), (0, .nameAndType 17 18), (0, u "variance"), (0, u "()D"), (0, .class_ 20), (0, u "com/example/foglane/foglane/uncertainty/TriangularVariancePinLaw"), (2, u "law"), (0, u "(IIII)Z")] 7

def k1m0 : Method := { name := "<init>", desc := "()V", sig := { parameters := [], returnType := none }, accessFlags := 1, code := none }
def k1c1 : Code := { maxStack := 10, maxLocals := 19, code := code, exceptionTable := #[], attributes := #[] }
def k1m1 : Method := { name := "law", desc := "(IIII)Z", sig := { parameters := [.int, .int, .int, .int], returnType := some .boolean }, accessFlags := 9, code := some k1c1 }
/-- com/example/foglane/foglane/uncertainty/TriangularVariancePinLaw -/
def k1 : Class := { plain "com/example/foglane/foglane/uncertainty/TriangularVariancePinLaw" (some 0) with
  accessFlags := 49
  interfaces := #[]
  cf := some (fileOf pool1 19 #[] #[{ accessFlags := 1, nameIndex := 5, descriptorIndex := 6, attributes := #[] }, { accessFlags := 9, nameIndex := 23, descriptorIndex := 24, attributes := #[] }] 49 2 #[] #[])
  fields := #[]
  methods := #[k1m0, k1m1]
  instanceTypes := #[]
  staticTypes := #[]
  resolved := Array.replicate 32 none
  statics := none }

def pool2 : Array CpInfo := pool [(1, .methodref 2 3), (0, .class_ 4), (0, .nameAndType 5 6), (0, u "java/lang/Object"), (0, u "<init>"), (0, u "()V"), (0, .class_ 8), (0, u "java/lang/Record")] 13

def k2c0 : Code := { maxStack := 1, maxLocals := 1, code := jdk_30_method_1_code, exceptionTable := #[], attributes := #[] }
def k2m0 : Method := { name := "<init>", desc := "()V", sig := { parameters := [], returnType := none }, accessFlags := 4, code := some k2c0 }
/-- java/lang/Record -/
def k2 : Class := { plain "java/lang/Record" (some 0) with
  accessFlags := 1057
  interfaces := #[]
  cf := some (fileOf pool2 7 #[] #[{ accessFlags := 4, nameIndex := 5, descriptorIndex := 6, attributes := #[] }] 1057 2 #[] #[])
  fields := #[]
  methods := #[k2m0]
  instanceTypes := #[]
  staticTypes := #[]
  resolved := Array.replicate 22 none
  statics := none }

def pool3 : Array CpInfo := pool [(17, .class_ 18), (0, u "com/example/foglane/foglane/uncertainty/UncertainQuantity$Known"), (9, .class_ 29), (0, u "com/example/foglane/foglane/uncertainty/UncertainQuantity$Lognormal"), (11, .class_ 42), (0, u "com/example/foglane/foglane/uncertainty/UncertainQuantity$Triangular"), (3, .class_ 47), (0, u "com/example/foglane/foglane/uncertainty/UncertainQuantity"), (0, .class_ 49), (0, u "java/lang/Object")] 36

/-- com/example/foglane/foglane/uncertainty/UncertainQuantity -/
def k3 : Class := { plain "com/example/foglane/foglane/uncertainty/UncertainQuantity" (some 0) with
  accessFlags := 1537
  interfaces := #[]
  cf := some (fileOf pool3 46 #[.nestMembers #[41, 28, 17]] #[] 1537 48 #[] #[])
  fields := #[]
  methods := #[]
  instanceTypes := #[]
  staticTypes := #[]
  resolved := Array.replicate 86 none
  statics := none }

def pool4 : Array CpInfo := pool [(1, .methodref 2 3), (0, .class_ 4), (0, .nameAndType 5 6), (0, u "java/lang/Record"), (0, u "<init>"), (0, u "()V"), (0, .methodref 8 9), (0, .class_ 10), (0, .nameAndType 11 12), (0, u "java/lang/Double"), (0, u "isInfinite"), (0, u "(D)Z"), (9, .fieldref 23 24), (0, .class_ 25), (0, .nameAndType 26 27), (0, u "com/example/foglane/foglane/uncertainty/UncertainQuantity$Triangular"), (0, u "smallest"), (0, u "D"), (0, .fieldref 23 29), (0, .nameAndType 30 27), (0, u "mostPlausible"), (0, .fieldref 23 32), (0, .nameAndType 33 27), (0, u "largest"), (5, u "()D"), (17, .double 4625759767262920704), (16, .class_ 75), (0, u "com/example/foglane/foglane/uncertainty/UncertainQuantity"), (0, u "(DDD)V"), (6, u "variance")] 37

def k4c0 : Code := { maxStack := 8, maxLocals := 7, code := prog_102_method_1_code, exceptionTable := #[], attributes := #[] }
def k4m0 : Method := { name := "<init>", desc := "(DDD)V", sig := { parameters := [.double, .double, .double], returnType := none }, accessFlags := 1, code := some k4c0 }
def k4c1 : Code := { maxStack := 6, maxLocals := 7, code := prog_102_method_4_code, exceptionTable := #[], attributes := #[] }
def k4m1 : Method := { name := "variance", desc := "()D", sig := { parameters := [], returnType := some .double }, accessFlags := 1, code := some k4c1 }
/-- com/example/foglane/foglane/uncertainty/UncertainQuantity$Triangular -/
def k4 : Class := { plain "com/example/foglane/foglane/uncertainty/UncertainQuantity$Triangular" (some 2) with
  accessFlags := 49
  interfaces := #[3]
  cf := some (fileOf pool4 23 #[.nestHost 74] #[{ accessFlags := 1, nameIndex := 5, descriptorIndex := 76, attributes := #[] }, { accessFlags := 1, nameIndex := 83, descriptorIndex := 39, attributes := #[] }] 49 2 #[74] #[{ accessFlags := 18, nameIndex := 26, descriptorIndex := 27, attributes := #[] }, { accessFlags := 18, nameIndex := 30, descriptorIndex := 27, attributes := #[] }, { accessFlags := 18, nameIndex := 33, descriptorIndex := 27, attributes := #[] }])
  fields := #[{ name := "smallest", type := .double, accessFlags := 18, slot := 0, constantValue := 0 }, { name := "mostPlausible", type := .double, accessFlags := 18, slot := 1, constantValue := 0 }, { name := "largest", type := .double, accessFlags := 18, slot := 2, constantValue := 0 }]
  methods := #[k4m0, k4m1]
  instanceTypes := #[.double, .double, .double]
  staticTypes := #[]
  resolved := Array.replicate 121 none
  statics := none }

def pool5 : Array CpInfo := pool [(1, .class_ 2), (0, u "java/io/Serializable"), (0, .class_ 4), (0, u "java/lang/Object")] 2

/-- java/io/Serializable -/
def k5 : Class := { plain "java/io/Serializable" (some 0) with
  accessFlags := 1537
  interfaces := #[]
  cf := some (fileOf pool5 1 #[] #[] 1537 3 #[] #[])
  fields := #[]
  methods := #[]
  instanceTypes := #[]
  staticTypes := #[]
  resolved := Array.replicate 7 none
  statics := none }

def pool6 : Array CpInfo := pool [(2, .class_ 4), (1, u "java/lang/Object"), (0, u "<init>"), (0, u "()V"), (1, .class_ 10), (1, u "java/lang/Number"), (2, .class_ 14), (0, u "java/io/Serializable"), (0, u "serialVersionUID"), (0, u "J")] 20

def k6m0 : Method := { name := "<init>", desc := "()V", sig := { parameters := [], returnType := none }, accessFlags := 1, code := none }
/-- java/lang/Number -/
def k6 : Class := { plain "java/lang/Number" (some 0) with
  accessFlags := 1057
  interfaces := #[5]
  cf := some (fileOf pool6 8 #[] #[{ accessFlags := 1, nameIndex := 5, descriptorIndex := 6, attributes := #[] }] 1057 2 #[13] #[{ accessFlags := 26, nameIndex := 15, descriptorIndex := 16, attributes := #[] }])
  fields := #[{ name := "serialVersionUID", type := .long, accessFlags := 26, slot := 0, constantValue := 0 }]
  methods := #[k6m0]
  instanceTypes := #[]
  staticTypes := #[.long]
  resolved := Array.replicate 37 none
  statics := none }

def pool7 : Array CpInfo := pool [(1, .class_ 2), (0, u "java/lang/Comparable"), (0, .class_ 4), (0, u "java/lang/Object")] 7

/-- java/lang/Comparable -/
def k7 : Class := { plain "java/lang/Comparable" (some 0) with
  accessFlags := 1537
  interfaces := #[]
  cf := some (fileOf pool7 1 #[] #[] 1537 3 #[] #[])
  fields := #[]
  methods := #[]
  instanceTypes := #[]
  staticTypes := #[]
  resolved := Array.replicate 12 none
  statics := none }

def pool8 : Array CpInfo := pool [(1, .class_ 2), (0, u "java/lang/constant/Constable"), (0, .class_ 4), (0, u "java/lang/Object")] 6

/-- java/lang/constant/Constable -/
def k8 : Class := { plain "java/lang/constant/Constable" (some 0) with
  accessFlags := 1537
  interfaces := #[]
  cf := some (fileOf pool8 1 #[] #[] 1537 3 #[] #[])
  fields := #[]
  methods := #[]
  instanceTypes := #[]
  staticTypes := #[]
  resolved := Array.replicate 11 none
  statics := none }

def pool9 : Array CpInfo := pool [(1, .class_ 2), (0, u "java/lang/constant/ConstantDesc"), (0, .class_ 4), (0, u "java/lang/Object")] 32

/-- java/lang/constant/ConstantDesc -/
def k9 : Class := { plain "java/lang/constant/ConstantDesc" (some 0) with
  accessFlags := 1537
  interfaces := #[]
  cf := some (fileOf pool9 1 #[] #[] 1537 3 #[] #[])
  fields := #[]
  methods := #[]
  instanceTypes := #[]
  staticTypes := #[]
  resolved := Array.replicate 37 none
  statics := none }

def pool10 : Array CpInfo := pool [(1, .class_ 2), (0, u "java/lang/Double"), (11, u "(D)Z"), (8, .class_ 25), (1, u "java/lang/Math"), (12, .methodref 23 39), (0, .nameAndType 40 41), (0, u "abs"), (0, u "(D)D"), (69, .double 9218868437227405311), (2, .class_ 116), (1, u "java/lang/Number"), (3, u "value"), (0, u "D"), (5, u "isInfinite"), (45, u "TYPE"), (0, u "Ljava/lang/Class;"), (0, .class_ 176), (0, u "java/lang/Comparable"), (0, .class_ 178), (0, u "java/lang/constant/Constable"), (0, .class_ 180), (0, u "java/lang/constant/ConstantDesc"), (0, u "POSITIVE_INFINITY"), (3, u "NEGATIVE_INFINITY"), (2, u "NaN"), (2, u "MAX_VALUE"), (0, u "MIN_NORMAL"), (0, u "MIN_VALUE"), (2, u "SIZE"), (0, u "I"), (1, u "PRECISION"), (1, u "MAX_EXPONENT"), (1, u "MIN_EXPONENT"), (1, u "BYTES"), (3, u "serialVersionUID"), (0, u "J")] 79

def k10c0 : Code := { maxStack := 4, maxLocals := 2, code := jdk_117_method_7_code, exceptionTable := #[], attributes := #[] }
def k10m0 : Method := { name := "isInfinite", desc := "(D)Z", sig := { parameters := [.double], returnType := some .boolean }, accessFlags := 9, code := some k10c0 }
/-- java/lang/Double -/
def k10 : Class := { plain "java/lang/Double" (some 6) with
  accessFlags := 49
  interfaces := #[7, 8, 9]
  cf := some (fileOf pool10 1 #[] #[{ accessFlags := 9, nameIndex := 127, descriptorIndex := 14, attributes := #[] }] 49 114 #[175, 177, 179] #[{ accessFlags := 25, nameIndex := 181, descriptorIndex := 121, attributes := #[] }, { accessFlags := 25, nameIndex := 185, descriptorIndex := 121, attributes := #[] }, { accessFlags := 25, nameIndex := 188, descriptorIndex := 121, attributes := #[] }, { accessFlags := 25, nameIndex := 191, descriptorIndex := 121, attributes := #[] }, { accessFlags := 25, nameIndex := 192, descriptorIndex := 121, attributes := #[] }, { accessFlags := 25, nameIndex := 193, descriptorIndex := 121, attributes := #[] }, { accessFlags := 25, nameIndex := 196, descriptorIndex := 197, attributes := #[] }, { accessFlags := 25, nameIndex := 199, descriptorIndex := 197, attributes := #[] }, { accessFlags := 25, nameIndex := 201, descriptorIndex := 197, attributes := #[] }, { accessFlags := 25, nameIndex := 203, descriptorIndex := 197, attributes := #[] }, { accessFlags := 25, nameIndex := 205, descriptorIndex := 197, attributes := #[] }, { accessFlags := 25, nameIndex := 173, descriptorIndex := 174, attributes := #[] }, { accessFlags := 18, nameIndex := 120, descriptorIndex := 121, attributes := #[] }, { accessFlags := 26, nameIndex := 209, descriptorIndex := 210, attributes := #[] }])
  fields := #[{ name := "POSITIVE_INFINITY", type := .double, accessFlags := 25, slot := 0, constantValue := 0 }, { name := "NEGATIVE_INFINITY", type := .double, accessFlags := 25, slot := 1, constantValue := 0 }, { name := "NaN", type := .double, accessFlags := 25, slot := 2, constantValue := 0 }, { name := "MAX_VALUE", type := .double, accessFlags := 25, slot := 3, constantValue := 0 }, { name := "MIN_NORMAL", type := .double, accessFlags := 25, slot := 4, constantValue := 0 }, { name := "MIN_VALUE", type := .double, accessFlags := 25, slot := 5, constantValue := 0 }, { name := "SIZE", type := .int, accessFlags := 25, slot := 6, constantValue := 0 }, { name := "PRECISION", type := .int, accessFlags := 25, slot := 7, constantValue := 0 }, { name := "MAX_EXPONENT", type := .int, accessFlags := 25, slot := 8, constantValue := 0 }, { name := "MIN_EXPONENT", type := .int, accessFlags := 25, slot := 9, constantValue := 0 }, { name := "BYTES", type := .int, accessFlags := 25, slot := 10, constantValue := 0 }, { name := "TYPE", type := (.object "java/lang/Class"), accessFlags := 25, slot := 11, constantValue := 0 }, { name := "value", type := .double, accessFlags := 18, slot := 0, constantValue := 0 }, { name := "serialVersionUID", type := .long, accessFlags := 26, slot := 12, constantValue := 0 }]
  methods := #[k10m0]
  instanceTypes := #[.double]
  staticTypes := #[.double, .double, .double, .double, .double, .double, .int, .int, .int, .int, .int, (.object "java/lang/Class"), .long]
  resolved := Array.replicate 290 none
  statics := none }

def pool11 : Array CpInfo := pool [(1, .class_ 2), (0, u "java/lang/Math"), (1, .class_ 6), (1, u "java/lang/Object"), (0, u "<init>"), (0, u "()V"), (5, u "(D)D"), (83, .class_ 100), (1, u "java/lang/Math$RandomNumberGeneratorHolder"), (23, u "abs"), (47, u "negativeZeroFloatBits"), (0, u "J"), (2, u "negativeZeroDoubleBits"), (68, u "$assertionsDisabled"), (0, u "Z"), (91, u "twoToTheDoubleScaleDown"), (0, u "D"), (4, u "twoToTheDoubleScaleUp"), (9, u "E"), (3, u "PI"), (2, u "TAU"), (2, u "DEGREES_TO_RADIANS"), (0, u "RADIANS_TO_DEGREES")] 94

def k11m0 : Method := { name := "<init>", desc := "()V", sig := { parameters := [], returnType := none }, accessFlags := 2, code := none }
def k11c1 : Code := { maxStack := 4, maxLocals := 2, code := jdk_29_method_64_code, exceptionTable := #[], attributes := #[] }
def k11m1 : Method := { name := "abs", desc := "(D)D", sig := { parameters := [.double], returnType := some .double }, accessFlags := 9, code := some k11c1 }
/-- java/lang/Math -/
def k11 : Class := { plain "java/lang/Math" (some 0) with
  accessFlags := 49
  interfaces := #[]
  cf := some (fileOf pool11 1 #[.nestMembers #[98]] #[{ accessFlags := 2, nameIndex := 7, descriptorIndex := 8, attributes := #[] }, { accessFlags := 9, nameIndex := 124, descriptorIndex := 14, attributes := #[] }] 49 4 #[] #[{ accessFlags := 25, nameIndex := 354, descriptorIndex := 339, attributes := #[] }, { accessFlags := 25, nameIndex := 358, descriptorIndex := 339, attributes := #[] }, { accessFlags := 25, nameIndex := 361, descriptorIndex := 339, attributes := #[] }, { accessFlags := 26, nameIndex := 364, descriptorIndex := 339, attributes := #[] }, { accessFlags := 26, nameIndex := 365, descriptorIndex := 339, attributes := #[] }, { accessFlags := 26, nameIndex := 172, descriptorIndex := 173, attributes := #[] }, { accessFlags := 26, nameIndex := 176, descriptorIndex := 173, attributes := #[] }, { accessFlags := 8, nameIndex := 344, descriptorIndex := 339, attributes := #[] }, { accessFlags := 8, nameIndex := 338, descriptorIndex := 339, attributes := #[] }, { accessFlags := 4120, nameIndex := 245, descriptorIndex := 246, attributes := #[] }])
  fields := #[{ name := "E", type := .double, accessFlags := 25, slot := 0, constantValue := 0 }, { name := "PI", type := .double, accessFlags := 25, slot := 1, constantValue := 0 }, { name := "TAU", type := .double, accessFlags := 25, slot := 2, constantValue := 0 }, { name := "DEGREES_TO_RADIANS", type := .double, accessFlags := 26, slot := 3, constantValue := 0 }, { name := "RADIANS_TO_DEGREES", type := .double, accessFlags := 26, slot := 4, constantValue := 0 }, { name := "negativeZeroFloatBits", type := .long, accessFlags := 26, slot := 5, constantValue := 0 }, { name := "negativeZeroDoubleBits", type := .long, accessFlags := 26, slot := 6, constantValue := 0 }, { name := "twoToTheDoubleScaleUp", type := .double, accessFlags := 8, slot := 7, constantValue := 0 }, { name := "twoToTheDoubleScaleDown", type := .double, accessFlags := 8, slot := 8, constantValue := 0 }, { name := "$assertionsDisabled", type := .boolean, accessFlags := 4120, slot := 9, constantValue := 0 }]
  methods := #[k11m0, k11m1]
  instanceTypes := #[]
  staticTypes := #[.double, .double, .double, .double, .double, .long, .long, .double, .double, .boolean]
  resolved := Array.replicate 460 none
  statics := none }

def pool12 : Array CpInfo := pool [(1, u "java/lang/Cloneable"), (0, .class_ 1), (0, u "java/lang/Object"), (0, .class_ 3)] 3

/-- java/lang/Cloneable -/
def k12 : Class := { plain "java/lang/Cloneable" (some 0) with
  accessFlags := 1537
  interfaces := #[]
  cf := some (fileOf pool12 2 #[] #[] 1537 4 #[] #[])
  fields := #[]
  methods := #[]
  instanceTypes := #[]
  staticTypes := #[]
  resolved := Array.replicate 8 none
  statics := none }

/-- the primitive byte -/
def k13 : Class := { plain "byte" none with kind := .primitive 'B', accessFlags := 0x411 }
/-- [B -/
def k14 : Class := { plain "[B" (some 0) with kind := .array 13 .byte, interfaces := #[12, 5], accessFlags := 1041 }

/-- the primitive int -/
def k15 : Class := { plain "int" none with kind := .primitive 'I', accessFlags := 0x411 }
/-- [I -/
def k16 : Class := { plain "[I" (some 0) with kind := .array 15 .int, interfaces := #[12, 5], accessFlags := 1041 }

def heap : Heap := #[]
def classes : Array Class := #[k0, k1, k2, k3, k4, k5, k6, k7, k8, k9, k10, k11, k12, k13, k14, k15, k16]
def interned : List (Array UInt16 × Addr) := []
def slotsUsed : Nat := 0
def theMethod : MethodId := ⟨1, 1⟩
def args0 : Array Value := #[.int 3, .int 3, .int 3, .int 3]
def aboutOver (below : List Frame) : State where
  vm := { classes := classes, interned := interned.toArray }
  heap := heap
  slotsUsed := slotsUsed
  threads := #[{ frames := .invoking theMethod args0 :: below }]
def below0 : List Frame := [.native { method := ⟨0, 0⟩, args := #[] }]
def about1 : State := aboutOver below0
def p0 : Program := .bare "" "" ""
def e0 : Env := launch0.env 0 0 0
theorem w_frames : about1.frames = Frame.invoking theMethod args0 :: below0 := rfl
set_option maxRecDepth 65536 in
theorem w_args : argsFit about1.vm theMethod args0 = true := by decide +kernel
set_option maxRecDepth 65536 in
theorem w_heap : heapFits about1 = true := by decide +kernel
set_option maxRecDepth 65536 in
theorem w_runnable : about1.curStatus? = some .runnable := by decide +kernel
set_option maxRecDepth 65536 in
theorem w_alone : about1.alone = true := by decide +kernel
set_option maxRecDepth 65536 in
theorem w_named : about1.methodNamed? x = some theMethod := by decide +kernel
set_option maxRecDepth 65536 in
theorem w_hears : about1.hears theMethod below0 = true := by decide +kernel
set_option maxRecDepth 65536 in
theorem w_ripe : about1.ripe theMethod args0 below0 = true := by decide +kernel
theorem w_running : about1.status = .running := rfl
set_option maxRecDepth 65536 in
theorem w_room : about1.hasRoom e0.platform room_1 = true :=
  launch0.hasRoom_least _ room_1 (by decide +kernel) (by decide +kernel) (by decide +kernel) (by decide +kernel) (by decide +kernel) (by decide +kernel)
theorem allAtoms_all (ts : List Jvm.Cond) (a : Array Jvm.Value) (st : Jvm.State) : (allAtoms ts).before a st = ts.all (fun c => c.before a st) := by
  induction ts with
  | nil => rfl
  | cons c t ih =>
    show (Jvm.Cond.and c (allAtoms t)).before a st = _
    rw [Jvm.Cond.before_and, ih, List.all_cons]
def words1 : List Jvm.Cond := Jvm.Cond.code x code maxLocals ret :: tables_1
/-- a 'code' word, met by the world's own term for the bytes: nothing is compared byte by byte -/
theorem code_word {y : MethodName} {bytes : ByteArray} {mx : Nat} {rt : Option FieldType} {a : Array Value} {s : State} {m : MethodId} {meth : Method} {c : Code} (h1 : s.methodNamed? y = some m) (h2 : s.vm.method? m = some meth) (h3 : meth.code = some c) (h4 : c.code = bytes)
    (h5 : (c.maxLocals == mx && c.exceptionTable.isEmpty && decide (c.maxStack ≤ mostOperands) && decide (meth.sig.returnType = rt) && !meth.locks && decide (parseMethodDescriptor y.desc = some meth.sig)) = true) : (Jvm.Cond.code y bytes mx rt).before a s = true := by
  simp only [Bool.and_eq_true, beq_iff_eq, Bool.not_eq_true', decide_eq_true_eq] at h5
  obtain ⟨⟨⟨⟨⟨g1, g2⟩, g3⟩, g4⟩, g5⟩, g6⟩ := h5
  simp [Cond.before, Cond.holds, Cond.value, h1, h2, h3, h4, g1, g2, g3, g4, g5, g6]
def isCode : Jvm.Cond → Bool
  | .code _ _ _ _ => true
  | _ => false
theorem all_split {L : List Jvm.Cond} {P : Jvm.Cond → Bool} (h1 : L.all (fun c => isCode c || P c) = true) (h2 : ∀ c ∈ L.filter isCode, P c = true) : L.all P = true := by
  refine List.all_eq_true.mpr fun c hc => ?_
  have h := List.all_eq_true.mp h1 c hc
  rcases Bool.eq_false_or_eq_true (isCode c) with hi | hi
  · exact h2 c (List.mem_filter.mpr ⟨hc, hi⟩)
  · simpa [hi] using h
set_option maxRecDepth 65536 in
theorem w_c0 : (Jvm.Cond.code x code maxLocals ret).before args0 about1 = true := code_word (m := ⟨1, 1⟩) (meth := k1m1) (c := k1c1) (by decide +kernel) rfl rfl rfl (by decide +kernel)
set_option maxRecDepth 65536 in
theorem w_c1 : (Jvm.Cond.code ({ cls := "com/example/foglane/foglane/uncertainty/UncertainQuantity$Triangular", name := "<init>", desc := "(DDD)V" } : Jvm.MethodName) prog_102_method_1_code (7 : Nat) (Option.none : Option Jvm.ClassFile.FieldType)).before args0 about1 = true := code_word (m := ⟨4, 0⟩) (meth := k4m0) (c := k4c0) (by decide +kernel) rfl rfl rfl (by decide +kernel)
set_option maxRecDepth 65536 in
theorem w_c2 : (Jvm.Cond.code ({ cls := "java/lang/Record", name := "<init>", desc := "()V" } : Jvm.MethodName) jdk_30_method_1_code (1 : Nat) (Option.none : Option Jvm.ClassFile.FieldType)).before args0 about1 = true := code_word (m := ⟨2, 0⟩) (meth := k2m0) (c := k2c0) (by decide +kernel) rfl rfl rfl (by decide +kernel)
set_option maxRecDepth 65536 in
theorem w_c3 : (Jvm.Cond.code ({ cls := "java/lang/Object", name := "<init>", desc := "()V" } : Jvm.MethodName) object_method_1_code (1 : Nat) (Option.none : Option Jvm.ClassFile.FieldType)).before args0 about1 = true := code_word (m := ⟨0, 0⟩) (meth := k0m0) (c := k0c0) (by decide +kernel) rfl rfl rfl (by decide +kernel)
set_option maxRecDepth 65536 in
theorem w_c4 : (Jvm.Cond.code ({ cls := "java/lang/Double", name := "isInfinite", desc := "(D)Z" } : Jvm.MethodName) jdk_117_method_7_code (2 : Nat) (Option.some Jvm.ClassFile.FieldType.boolean)).before args0 about1 = true := code_word (m := ⟨10, 0⟩) (meth := k10m0) (c := k10c0) (by decide +kernel) rfl rfl rfl (by decide +kernel)
set_option maxRecDepth 65536 in
theorem w_c5 : (Jvm.Cond.code ({ cls := "java/lang/Math", name := "abs", desc := "(D)D" } : Jvm.MethodName) jdk_29_method_64_code (2 : Nat) (Option.some Jvm.ClassFile.FieldType.double)).before args0 about1 = true := code_word (m := ⟨11, 1⟩) (meth := k11m1) (c := k11c1) (by decide +kernel) rfl rfl rfl (by decide +kernel)
set_option maxRecDepth 65536 in
theorem w_c6 : (Jvm.Cond.code ({ cls := "com/example/foglane/foglane/uncertainty/UncertainQuantity$Triangular", name := "variance", desc := "()D" } : Jvm.MethodName) prog_102_method_4_code (7 : Nat) (Option.some Jvm.ClassFile.FieldType.double)).before args0 about1 = true := code_word (m := ⟨4, 1⟩) (meth := k4m1) (c := k4c1) (by decide +kernel) rfl rfl rfl (by decide +kernel)
def codes1 : List Jvm.Cond := [Jvm.Cond.code x code maxLocals ret, Jvm.Cond.code ({ cls := "com/example/foglane/foglane/uncertainty/UncertainQuantity$Triangular", name := "<init>", desc := "(DDD)V" } : Jvm.MethodName) prog_102_method_1_code (7 : Nat) (Option.none : Option Jvm.ClassFile.FieldType), Jvm.Cond.code ({ cls := "java/lang/Record", name := "<init>", desc := "()V" } : Jvm.MethodName) jdk_30_method_1_code (1 : Nat) (Option.none : Option Jvm.ClassFile.FieldType), Jvm.Cond.code ({ cls := "java/lang/Object", name := "<init>", desc := "()V" } : Jvm.MethodName) object_method_1_code (1 : Nat) (Option.none : Option Jvm.ClassFile.FieldType), Jvm.Cond.code ({ cls := "java/lang/Double", name := "isInfinite", desc := "(D)Z" } : Jvm.MethodName) jdk_117_method_7_code (2 : Nat) (Option.some Jvm.ClassFile.FieldType.boolean), Jvm.Cond.code ({ cls := "java/lang/Math", name := "abs", desc := "(D)D" } : Jvm.MethodName) jdk_29_method_64_code (2 : Nat) (Option.some Jvm.ClassFile.FieldType.double), Jvm.Cond.code ({ cls := "com/example/foglane/foglane/uncertainty/UncertainQuantity$Triangular", name := "variance", desc := "()D" } : Jvm.MethodName) prog_102_method_4_code (7 : Nat) (Option.some Jvm.ClassFile.FieldType.double)]
set_option maxRecDepth 65536 in
theorem codes_eq : words1.filter isCode = codes1 := rfl
theorem w_codes : ∀ c ∈ words1.filter isCode, c.before args0 about1 = true := by
  rw [codes_eq]
  intro c hc
  simp only [codes1, List.mem_cons, List.not_mem_nil, or_false] at hc
  rcases hc with rfl | rfl | rfl | rfl | rfl | rfl | rfl
  · exact w_c0
  · exact w_c1
  · exact w_c2
  · exact w_c3
  · exact w_c4
  · exact w_c5
  · exact w_c6
set_option maxRecDepth 65536 in
theorem w_t1 : (words1.take 24).all (fun c => isCode c || c.before args0 about1) = true := by decide +kernel
set_option maxRecDepth 65536 in
theorem w_t2 : (words1.drop 24).all (fun c => isCode c || c.before args0 about1) = true := by decide +kernel
theorem w_tables : (allAtoms (Jvm.Cond.code x code maxLocals ret :: tables_1)).before args0 about1 = true := by
  rw [allAtoms_all]
  show words1.all (fun c => c.before args0 about1) = true
  refine all_split ?_ w_codes
  rw [← List.take_append_drop 24 words1, List.all_append, w_t1, w_t2]
  rfl
set_option maxRecDepth 65536 in
theorem w_case : (Jvm.Cond.and given_1 narrow_1).before args0 about1 = true := by decide +kernel
theorem w_applies : (headSpec (Jvm.Cond.code x code maxLocals ret :: tables_1) room_1).applies x e0.platform about1 = true :=
  (Spec.applies_iff w_frames).mpr ⟨w_running, w_runnable, w_alone, w_named, w_hears, w_ripe, w_room, w_tables⟩
theorem atStart : AtStart classFile x code maxLocals ret World_1 tables_1 room_1 Calls_1 rest_1 Pre_1 launch0 p0 e0 about1 theMethod args0 below0 :=
  ⟨lists_1, trivial, launch0.admits_env _ _ _, launch0.least_env, fairChoices_fair.cas, fairChoices_fair.clock, w_frames, w_args, w_heap, w_applies, trivial, trivial, w_case⟩
end start1
theorem witness_1 : WitnessClaimed_1 := ⟨start1.p0, start1.e0, start1.about1, start1.theMethod, start1.args0, start1.below0, start1.atStart⟩
end Jvm.Pilot.@@N@@
