import JvmDerived
import JvmDerived.Pilot.@@N@@Statement
import JvmDerived.Pilot.@@N@@Code
set_option linter.unusedVariables false
set_option linter.unusedSimpArgs false
@@BLOCK:NumsL.lean.txt@@
namespace Jvm.RoadKit
open Sem ClassFile Op Lib Jvm.Stand Jvm.Free Jvm.LawKit
section New
variable {p : Program} {l : Launch} {e : Env} {R : Room} {s : State} {m : MethodId} {args : Array Value} {below : List Frame} {meth : Method} {c : Code} {T : State} {locs : List Loc} {cells slots : Nat}
theorem retI (X : Stand p l e R s m args below meth c T locs cells slots) (hx : p.tables.exec = Jvm.exec) {pc : Nat} {Ls : Array Slot} {z : Int32} {rest : List Value} (hret : meth.sig.returnType = some .int) (hd : decode c.code pc = .ok (.ireturn, 1)) {fs : List Frame}
    (hl : ∀ (f : JFrame) (acts : List Action), f.method = m → f.locked = none → f.entered = [] → (doReturn e (T.setTop f) acts (some (.int z))).1 = T.setFrames fs) : Steps p.tables e below (T.setTop (mkF m pc Ls (.int z :: rest))) (T.setFrames fs) := by
  have hm' : T.vm.method? m = some meth := X.method'
  have hn : narrow .int (.int z) = .int z := rfl
  show Steps p.tables e below (T.setTop { method := m, pc := pc, locals := Ls, stack := _ :: rest, locked := none }) _
  jvm_step X.here [X.here.top, hx, hd, hm', hret, hn]
  first | (intro acts; rw [hl _ acts rfl rfl rfl]) | rw [hl _ _ rfl rfl rfl]
  exact Steps.refl _
end New
end Jvm.RoadKit
namespace Jvm.OwnFP
open Jvm.FP
/-- a double's value in units of 2^-1074 -/
def zv (a : UInt64) : Int := Core.zval Core.b64 (Core.val64 a)
/-- how many units make one -/
def U : Int := (Core.one64 : Int)
theorem U_pos : 0 < U := by have := Core.one64_pos; unfold U; omega
theorem U_pow (k : Nat) (h : k ≤ 1074) : U = 2 ^ (1074 - k) * 2 ^ k := by
  have e : (2 : Int) ^ (1074 - k) * 2 ^ k = 2 ^ 1074 := by rw [← Int.pow_add]; congr 1; omega
  rw [e]; unfold U Core.one64; rw [Int.natCast_pow]; rfl
theorem pow_pos (k : Nat) : (0 : Int) < 2 ^ k := Int.pow_pos (by decide)
theorem notNan {a : UInt64} (h : Core.DFin a) : Core.val64 a ≠ .nan := by obtain ⟨s, c, q, h⟩ := h; rw [h]; exact Core.Datum.noConfusion
theorem fin_parts {a : UInt64} (h : Core.DFin a) : ∃ (s : Bool) (c i : Nat), Core.val64 a = .fin s c ((i : Int) - 1074) ∧ Core.fits Core.b64 (.fin s c ((i : Int) - 1074)) ∧ zv a = Core.signed s (c * 2 ^ i) := by
  obtain ⟨s, c, q, h⟩ := h
  have hf := Core.val64_fits a
  rw [h] at hf
  have hq : -1074 ≤ q := by have := hf.2.1; rw [Core.qmin_b64] at this; exact this
  obtain ⟨i, hi⟩ : ∃ i : Nat, q = (i : Int) - 1074 := ⟨(q + 1074).toNat, by omega⟩
  subst hi
  refine ⟨s, c, i, h, hf, ?_⟩
  unfold zv Core.zval; rw [h]
  show Core.signed s (c * 2 ^ ((i : Int) - 1074 - Core.b64.qmin).toNat) = _
  rw [Core.qmin_b64, show ((i : Int) - 1074 - -1074).toNat = i by omega]
/-- rounding a quotient is monotone: at most a number of the format -/
theorem ratio_le {s : Bool} {A B : Nat} {e e0 : Int} {V : Core.Datum} (hB : 0 < B) (hV : Core.fits Core.b64 V) (hn : V ≠ .nan) (h0 : e0 ≤ Core.b64.qmin) (h0e : e0 ≤ e)
    (h : Core.signed s (Core.inUnits A e e0) ≤ Core.zval Core.b64 V * ((2 ^ (Core.b64.qmin - e0).toNat * B : Nat) : Int)) :
    Core.zval Core.b64 (Core.roundRatio Core.b64 s A B e) ≤ Core.zval Core.b64 V := by
  have hle := Core.zmag_roundRatio_le Core.good_b64 (s := s) (A := A) hB hV hn h0 h0e
  have hge := Core.zmag_roundRatio_ge Core.good_b64 (s := s) (A := A) hB hV h0 h0e
  have hP : 0 < 2 ^ (Core.b64.qmin - e0).toNat * B := Nat.mul_pos (Nat.two_pow_pos _) hB
  rw [Nat.mul_assoc] at hle hge
  unfold Core.zval at h ⊢
  rw [Core.sgn_roundRatio]
  rw [← Core.signed_mul] at h
  have hz : Core.zmag Core.b64 V * (2 ^ (Core.b64.qmin - e0).toNat * B) = 0 → Core.zmag Core.b64 V = 0 := fun q => by
    rcases Nat.mul_eq_zero.mp q with q | q
    · exact q
    · omega
  generalize Core.zmag Core.b64 V * (2 ^ (Core.b64.qmin - e0).toNat * B) = vP at *
  generalize Core.sgn V = t at *
  generalize Core.zmag Core.b64 V = z at *
  generalize Core.zmag Core.b64 (Core.roundRatio Core.b64 s A B e) = r at *
  generalize Core.inUnits A e e0 = x at *
  cases s <;> cases t <;> simp only [Core.signed, if_true, Bool.false_eq_true, if_false] at h ⊢
  · have := hle (by omega); omega
  · have := hle (by omega); have := hz (by omega); omega
  · omega
  · have := hge (by omega); omega
theorem ratio_ge {s : Bool} {A B : Nat} {e e0 : Int} {V : Core.Datum} (hB : 0 < B) (hV : Core.fits Core.b64 V) (hn : V ≠ .nan) (h0 : e0 ≤ Core.b64.qmin) (h0e : e0 ≤ e)
    (h : Core.zval Core.b64 V * ((2 ^ (Core.b64.qmin - e0).toNat * B : Nat) : Int) ≤ Core.signed s (Core.inUnits A e e0)) :
    Core.zval Core.b64 V ≤ Core.zval Core.b64 (Core.roundRatio Core.b64 s A B e) := by
  have h1 := ratio_le (s := !s) (V := Core.negate V) hB (Core.negate_fits hV) (Core.negate_ne_nan hn) h0 h0e (by
    rw [Core.zval_negate, Int.neg_mul, Core.signed_not]; exact Int.neg_le_neg h)
  rw [Core.zval_negate, ← Core.negate_roundRatio, Core.zval_negate] at h1
  omega
theorem signed_pos_parts {t : Bool} {n : Nat} (h : 0 < Core.signed t n) : t = false ∧ 0 < n := by
  cases t <;> simp [Core.signed] at h ⊢ <;> omega
/-- the quotient as a rounded ratio -/
theorem ddiv_parts {a b : UInt64} (ha : Core.DFin a) (hb : Core.DFin b) (pb : 0 < zv b) :
    ∃ (s : Bool) (c d i j : Nat), zv a = Core.signed s (c * 2 ^ i) ∧ zv b = ((d * 2 ^ j : Nat) : Int) ∧ 0 < d ∧ Core.val64 (FP.ddiv a b) = Core.roundRatio Core.b64 s c d ((i : Int) - (j : Int)) := by
  obtain ⟨s, c, i, h1, f1, z1⟩ := fin_parts ha
  obtain ⟨t, d, j, h2, f2, z2⟩ := fin_parts hb
  rw [z2] at pb
  obtain ⟨rfl, hd⟩ := signed_pos_parts pb
  have hd' : 0 < d := Nat.pos_of_mul_pos_right hd
  refine ⟨s, c, d, i, j, z1, z2, hd', ?_⟩
  show Core.val64 (Core.ddiv a b) = _
  rw [Core.val64_ddiv, h1, h2]
  show (if d = 0 then _ else Core.roundRatio Core.b64 (s != false) c d ((i : Int) - 1074 - ((j : Int) - 1074))) = _
  rw [if_neg (by omega), show ((i : Int) - 1074 - ((j : Int) - 1074)) = (i : Int) - j by omega]
  cases s <;> rfl
theorem div_key {s : Bool} {c d i j : Nat} : Core.signed s (Core.inUnits c ((i : Int) - j) (-1074 - (j : Int))) = Core.signed s (c * 2 ^ i) * U ∧ ((2 ^ (Core.b64.qmin - (-1074 - (j : Int))).toNat * d : Nat) : Int) = ((d * 2 ^ j : Nat) : Int) := by
  constructor
  · unfold Core.inUnits
    rw [show ((i : Int) - j - (-1074 - (j : Int))).toNat = i + 1074 by omega, Nat.pow_add, ← Nat.mul_assoc, Core.signed_mul]
    rfl
  · rw [Core.qmin_b64, show (-1074 - (-1074 - (j : Int))).toNat = j by omega, Nat.mul_comm]
theorem ddiv_le {a b V : UInt64} (ha : Core.DFin a) (hb : Core.DFin b) (pb : 0 < zv b) (hV : Core.val64 V ≠ .nan) (h : zv a * U ≤ zv V * zv b) : zv (FP.ddiv a b) ≤ zv V := by
  obtain ⟨s, c, d, i, j, z1, z2, hd, hr⟩ := ddiv_parts ha hb pb
  have e : zv (FP.ddiv a b) = Core.zval Core.b64 (Core.roundRatio Core.b64 s c d ((i : Int) - (j : Int))) := by unfold zv; rw [hr]
  rw [e]
  refine ratio_le (e0 := -1074 - (j : Int)) hd (Core.val64_fits V) hV (by rw [Core.qmin_b64]; omega) (by omega) ?_
  rw [(div_key (d := d)).1, (div_key (s := s) (c := c) (i := i)).2, ← z1, ← z2]; exact h
theorem ddiv_ge {a b V : UInt64} (ha : Core.DFin a) (hb : Core.DFin b) (pb : 0 < zv b) (hV : Core.val64 V ≠ .nan) (h : zv V * zv b ≤ zv a * U) : zv V ≤ zv (FP.ddiv a b) := by
  obtain ⟨s, c, d, i, j, z1, z2, hd, hr⟩ := ddiv_parts ha hb pb
  have e : zv (FP.ddiv a b) = Core.zval Core.b64 (Core.roundRatio Core.b64 s c d ((i : Int) - (j : Int))) := by unfold zv; rw [hr]
  rw [e]
  refine ratio_ge (e0 := -1074 - (j : Int)) hd (Core.val64_fits V) hV (by rw [Core.qmin_b64]; omega) (by omega) ?_
  rw [(div_key (d := d)).1, (div_key (s := s) (c := c) (i := i)).2, ← z1, ← z2]; exact h
theorem ddiv_nn {a b : UInt64} (ha : Core.DFin a) (hb : Core.DFin b) (pb : 0 < zv b) : Core.val64 (FP.ddiv a b) ≠ .nan := by
  obtain ⟨s, c, d, i, j, z1, z2, hd, hr⟩ := ddiv_parts ha hb pb
  rw [hr]; exact Core.roundRatio_ne_nan _ _ _ _ _
/-- two quotients of one value -/
theorem ddiv_congr {a b a' b' : UInt64} (ha : Core.DFin a) (hb : Core.DFin b) (pb : 0 < zv b) (ha' : Core.DFin a') (hb' : Core.DFin b') (pb' : 0 < zv b') (hs : Core.sgn (Core.val64 a) = Core.sgn (Core.val64 a')) (h : zv a * zv b' = zv a' * zv b) : FP.ddiv a b = FP.ddiv a' b' := by
  obtain ⟨s, c, i, h1, f1, z1⟩ := fin_parts ha
  obtain ⟨s', c', i', h1', f1', z1'⟩ := fin_parts ha'
  obtain ⟨t, d, j, h2, f2, z2⟩ := fin_parts hb
  obtain ⟨t', d', j', h2', f2', z2'⟩ := fin_parts hb'
  rw [z2] at pb; rw [z2'] at pb'
  obtain ⟨rfl, hd⟩ := signed_pos_parts pb
  obtain ⟨rfl, hd'⟩ := signed_pos_parts pb'
  have hd1 : 0 < d := Nat.pos_of_mul_pos_right hd
  have hd1' : 0 < d' := Nat.pos_of_mul_pos_right hd'
  have es : s = s' := by rw [h1, h1'] at hs; exact hs
  subst es
  show Core.of64 (Core.quotient Core.b64 (Core.val64 a) (Core.val64 b)) = Core.of64 (Core.quotient Core.b64 (Core.val64 a') (Core.val64 b'))
  congr 1
  rw [h1, h2, h1', h2']
  show (if d = 0 then _ else Core.roundRatio Core.b64 (s != false) c d ((i : Int) - 1074 - ((j : Int) - 1074))) = (if d' = 0 then _ else Core.roundRatio Core.b64 (s != false) c' d' ((i' : Int) - 1074 - ((j' : Int) - 1074)))
  rw [if_neg (by omega), if_neg (by omega)]
  apply Core.roundRatio_congr hd1 hd1'
  have hn : (c * 2 ^ i) * (d' * 2 ^ j') = (c' * 2 ^ i') * (d * 2 ^ j) := by
    rw [z1, z1', z2, z2'] at h
    have : ∀ n : Nat, Core.signed false n = (n : Int) := fun _ => rfl
    rw [this, this, ← Core.signed_mul, ← Core.signed_mul] at h
    have := congrArg Int.natAbs h
    rwa [Core.natAbs_signed, Core.natAbs_signed] at this
  generalize hE : (i : Int) - 1074 - ((j : Int) - 1074) = E
  generalize hE' : (i' : Int) - 1074 - ((j' : Int) - 1074) = E'
  have k1 : c * d' * 2 ^ (i + j') = c' * d * 2 ^ (i' + j) := by
    rw [Nat.pow_add, Nat.pow_add]
    calc c * d' * (2 ^ i * 2 ^ j') = (c * 2 ^ i) * (d' * 2 ^ j') := by ac_rfl
      _ = (c' * 2 ^ i') * (d * 2 ^ j) := hn
      _ = c' * d * (2 ^ i' * 2 ^ j) := by ac_rfl
  by_cases hle : i' + j ≤ i + j'
  · have e1 : (E - E').toNat = i + j' - (i' + j) := by omega
    have e2 : (E' - E).toNat = 0 := by omega
    rw [e1, e2]
    have : 2 ^ (i + j') = 2 ^ (i + j' - (i' + j)) * 2 ^ (i' + j) := by rw [← Nat.pow_add]; congr 1; omega
    rw [this, ← Nat.mul_assoc] at k1
    simpa using Nat.eq_of_mul_eq_mul_right (Nat.two_pow_pos _) k1
  · have e1 : (E - E').toNat = 0 := by omega
    have e2 : (E' - E).toNat = i' + j - (i + j') := by omega
    rw [e1, e2]
    have : 2 ^ (i' + j) = 2 ^ (i' + j - (i + j')) * 2 ^ (i + j') := by rw [← Nat.pow_add]; congr 1; omega
    rw [this, ← Nat.mul_assoc] at k1
    simpa using Nat.eq_of_mul_eq_mul_right (Nat.two_pow_pos _) k1
theorem dmul_parts {a b : UInt64} (ha : Core.DFin a) (hb : Core.DFin b) :
    ∃ (s : Bool) (n : Nat) (e : Int), Core.val64 (FP.dmul a b) = Core.round Core.b64 (.fin s n e) ∧ -2148 ≤ e ∧ Core.signed s (Core.inUnits n e (-2148)) = zv a * zv b := by
  obtain ⟨s, c, i, h1, f1, z1⟩ := fin_parts ha
  obtain ⟨t, d, j, h2, f2, z2⟩ := fin_parts hb
  obtain ⟨p1, p2, p3⟩ := Core.product_units f1 f2
  refine ⟨s != t, c * d, (i : Int) - 1074 + ((j : Int) - 1074), ?_, by omega, ?_⟩
  · show Core.val64 (Core.dmul a b) = _
    rw [Core.val64_dmul, h1, h2, p1]
  · rw [z1, z2]
    unfold Core.inUnits
    rw [show ((i : Int) - 1074 + ((j : Int) - 1074) - (-2148)).toNat = i + j by omega, Nat.pow_add,
      show c * d * (2 ^ i * 2 ^ j) = (c * 2 ^ i) * (d * 2 ^ j) by ac_rfl, Core.signed_xor]
theorem mul_key : ((2 ^ (Core.b64.qmin - (-2148 : Int)).toNat : Nat) : Int) = U := by
  rw [Core.qmin_b64]; rfl
theorem dmul_le {a b V : UInt64} (ha : Core.DFin a) (hb : Core.DFin b) (hV : Core.val64 V ≠ .nan) (h : zv a * zv b ≤ zv V * U) : zv (FP.dmul a b) ≤ zv V := by
  obtain ⟨s, n, e, h1, h2, h3⟩ := dmul_parts ha hb
  have e1 : zv (FP.dmul a b) = Core.zval Core.b64 (Core.round Core.b64 (.fin s n e)) := by unfold zv; rw [h1]
  rw [e1]
  refine Core.zval_round_le Core.good_b64 (e0 := -2148) (Core.val64_fits V) hV (by rw [Core.qmin_b64]; decide) h2 ?_
  rw [h3, mul_key]; exact h
theorem dmul_ge {a b V : UInt64} (ha : Core.DFin a) (hb : Core.DFin b) (hV : Core.val64 V ≠ .nan) (h : zv V * U ≤ zv a * zv b) : zv V ≤ zv (FP.dmul a b) := by
  obtain ⟨s, n, e, h1, h2, h3⟩ := dmul_parts ha hb
  have e1 : zv (FP.dmul a b) = Core.zval Core.b64 (Core.round Core.b64 (.fin s n e)) := by unfold zv; rw [h1]
  rw [e1]
  refine Core.zval_round_ge Core.good_b64 (e0 := -2148) (Core.val64_fits V) hV (by rw [Core.qmin_b64]; decide) h2 ?_
  rw [h3, mul_key]; exact h
theorem dmul_nn {a b : UInt64} (ha : Core.DFin a) (hb : Core.DFin b) : Core.val64 (FP.dmul a b) ≠ .nan := by
  obtain ⟨s, n, e, h1, h2, h3⟩ := dmul_parts ha hb
  rw [h1]; exact Core.roundRatio_ne_nan _ _ _ _ _
theorem dadd_le {a b V : UInt64} (ha : Core.DFin a) (hb : Core.DFin b) (hV : Core.val64 V ≠ .nan) (h : zv a + zv b ≤ zv V) : zv (FP.dadd a b) ≤ zv V := by
  have := Core.sum_le Core.good_b64 ha hb (Core.val64_fits a) (Core.val64_fits b) (Core.val64_fits V) hV h
  unfold zv; show Core.zval Core.b64 (Core.val64 (Core.dadd a b)) ≤ _
  rw [Core.val64_dadd]; exact this
theorem dadd_ge {a b V : UInt64} (ha : Core.DFin a) (hb : Core.DFin b) (hV : Core.val64 V ≠ .nan) (h : zv V ≤ zv a + zv b) : zv V ≤ zv (FP.dadd a b) := by
  have := Core.sum_ge Core.good_b64 ha hb (Core.val64_fits a) (Core.val64_fits b) (Core.val64_fits V) hV h
  unfold zv; show _ ≤ Core.zval Core.b64 (Core.val64 (Core.dadd a b))
  rw [Core.val64_dadd]; exact this
theorem dadd_nn {a b : UInt64} (ha : Core.DFin a) (hb : Core.DFin b) : Core.val64 (FP.dadd a b) ≠ .nan := by
  have := Core.dadd_out (notNaN_of ha) hb
  exact (Core.notNaN_iff _).mp this
where notNaN_of {a : UInt64} (h : Core.DFin a) : Core.dIsNaN a = false := (Core.notNaN_iff a).mpr (notNan h)
theorem zv_dneg (a : UInt64) : zv (FP.dneg a) = - zv a := by
  unfold zv; rw [FP.val64_dneg, Core.zval_negate]
theorem fin_dneg {a : UInt64} (h : Core.DFin a) : Core.DFin (FP.dneg a) := by
  obtain ⟨s, c, q, h⟩ := h
  refine ⟨!s, c, q, ?_⟩
  rw [FP.val64_dneg, h]; rfl
theorem dsub_dadd {a b : UInt64} (hb : Core.DFin b) : FP.dsub a b = FP.dadd a (FP.dneg b) := by
  have h1 : FP.dneg b = Core.dneg b := FP.dneg_core ((Core.notNaN_iff b).mpr (notNan hb))
  rw [h1]; exact Core.dsub_eq a b
theorem dsub_le {a b V : UInt64} (ha : Core.DFin a) (hb : Core.DFin b) (hV : Core.val64 V ≠ .nan) (h : zv a - zv b ≤ zv V) : zv (FP.dsub a b) ≤ zv V := by
  rw [dsub_dadd hb]; exact dadd_le ha (fin_dneg hb) hV (by rw [zv_dneg]; omega)
theorem dsub_ge {a b V : UInt64} (ha : Core.DFin a) (hb : Core.DFin b) (hV : Core.val64 V ≠ .nan) (h : zv V ≤ zv a - zv b) : zv V ≤ zv (FP.dsub a b) := by
  rw [dsub_dadd hb]; exact dadd_ge ha (fin_dneg hb) hV (by rw [zv_dneg]; omega)
theorem dsub_nn {a b : UInt64} (ha : Core.DFin a) (hb : Core.DFin b) : Core.val64 (FP.dsub a b) ≠ .nan := by
  rw [dsub_dadd hb]; exact dadd_nn ha (fin_dneg hb)
/-- finite, if it lies between two finite ones -/
theorem fin_between {a V W : UInt64} (n : Core.val64 a ≠ .nan) (hV : Core.DFin V) (hW : Core.DFin W) (h1 : zv V ≤ zv a) (h2 : zv a ≤ zv W) : Core.DFin a := by
  have hv := hV.zval_lt; have hw := hW.zval_lt
  unfold zv Core.zval at h1 h2
  cases e : Core.val64 a with
  | nan => exact absurd e n
  | fin s c q => exact ⟨s, c, q, e⟩
  | inf s =>
    exfalso
    rw [e] at h1 h2
    have t : Core.zmag Core.b64 (.inf s) = Core.b64.tails * 2 ^ (Core.b64.exps - 2) := rfl
    rw [t] at h1 h2
    generalize Core.b64.tails * 2 ^ (Core.b64.exps - 2) = top at *
    generalize Core.zmag Core.b64 (Core.val64 V) = v at *
    generalize Core.zmag Core.b64 (Core.val64 W) = w at *
    generalize Core.sgn (Core.val64 V) = sv at *
    generalize Core.sgn (Core.val64 W) = sw at *
    cases s <;> cases sv <;> cases sw <;> simp [Core.signed, Core.sgn] at h1 h2 <;> omega
theorem signed_of (n : Int) : Core.signed (decide (n < 0)) n.natAbs = n := by
  unfold Core.signed
  by_cases q : n < 0
  · simp [q]; omega
  · simp [q]; omega
/-- n * 2^E units are a double -/
theorem repE (n : Int) (E : Nat) (hn : n.natAbs < 2 ^ 53) (hE : E ≤ 2045) : ∃ V, Core.DFin V ∧ zv V = n * 2 ^ E := by
  have hq : Core.b64.qmax = 971 := by decide
  obtain ⟨c', q', h1, h2⟩ := Core.round_exact Core.good_b64 (decide (n < 0)) (c := n.natAbs) (q := (E : Int) - 1074) hn (by rw [Core.qmin_b64]; omega) (by rw [hq]; omega)
  have h3 : Core.val64 (Core.of64 (Core.round Core.b64 (.fin (decide (n < 0)) n.natAbs ((E : Int) - 1074)))) = .fin (decide (n < 0)) c' q' := by
    rw [Core.val64_of64 (Core.round_fits Core.good_b64 _), h1]
  refine ⟨_, ⟨_, _, _, h3⟩, ?_⟩
  unfold zv Core.zval
  rw [h3]
  show Core.signed (decide (n < 0)) (Core.inUnits c' q' Core.b64.qmin) = _
  rw [h2]
  unfold Core.inUnits
  rw [Core.qmin_b64, show ((E : Int) - 1074 - -1074).toNat = E by omega, Core.signed_mul, signed_of, Int.natCast_pow]
  rfl
/-- n / 2^k is a double -/
theorem rep (n : Int) (k : Nat) (hn : n.natAbs ≤ 2 ^ 53) (hk : k ≤ 1000) : ∃ V, Core.DFin V ∧ zv V * 2 ^ k = n * U := by
  by_cases h : n.natAbs < 2 ^ 53
  · obtain ⟨V, fV, zV⟩ := repE n (1074 - k) h (by omega)
    exact ⟨V, fV, by rw [zV, U_pow k (by omega), Int.mul_assoc]⟩
  · by_cases hs : n < 0
    · obtain ⟨V, fV, zV⟩ := repE (-1) (53 + (1074 - k)) (by decide) (by omega)
      exact ⟨V, fV, by rw [zV, U_pow k (by omega), show n = -1 * 2 ^ 53 by omega, Int.pow_add]; ac_rfl⟩
    · obtain ⟨V, fV, zV⟩ := repE 1 (53 + (1074 - k)) (by decide) (by omega)
      exact ⟨V, fV, by rw [zV, U_pow k (by omega), show n = 1 * 2 ^ 53 by omega, Int.pow_add]; ac_rfl⟩
/-- and so are, with the infinities, the numbers up to 2^53 * 2^E -/
theorem repI (n : Int) (E : Nat) (hn : n.natAbs ≤ 2 ^ 53) (hE : E ≤ 2045) : ∃ V, Core.val64 V ≠ .nan ∧ zv V = n * 2 ^ E := by
  by_cases h : n.natAbs < 2 ^ 53
  · obtain ⟨V, fV, zV⟩ := repE n E h hE; exact ⟨V, notNan fV, zV⟩
  · by_cases hE2 : E + 53 ≤ 2045
    · by_cases hs : n < 0
      · obtain ⟨V, fV, zV⟩ := repE (-1) (53 + E) (by decide) (by omega)
        exact ⟨V, notNan fV, by rw [zV, show n = -1 * 2 ^ 53 by omega, Int.pow_add, Int.mul_assoc]⟩
      · obtain ⟨V, fV, zV⟩ := repE 1 (53 + E) (by decide) (by omega)
        exact ⟨V, notNan fV, by rw [zV, show n = 1 * 2 ^ 53 by omega, Int.pow_add, Int.mul_assoc]⟩
    · by_cases hE3 : E = 2045
      · subst hE3
        have v1 : Core.val64 9218868437227405312 = .inf false := by decide +kernel
        have v2 : Core.val64 18442240474082181120 = .inf true := by decide +kernel
        have z1 : Core.zmag Core.b64 (.inf false) = 2 ^ 53 * 2 ^ 2045 := by decide +kernel
        by_cases hs : n < 0
        · refine ⟨18442240474082181120, by rw [v2]; exact Core.Datum.noConfusion, ?_⟩
          unfold zv Core.zval; rw [v2]
          show Core.signed true (Core.zmag Core.b64 (.inf false)) = _
          rw [z1, Core.signed_mul, show n = -2 ^ 53 by omega, Int.natCast_pow]; rfl
        · refine ⟨9218868437227405312, by rw [v1]; exact Core.Datum.noConfusion, ?_⟩
          unfold zv Core.zval; rw [v1]
          show Core.signed false (Core.zmag Core.b64 (.inf false)) = _
          rw [z1, Core.signed_mul, show n = 2 ^ 53 by omega, Int.natCast_pow]; rfl
      · by_cases hs : n < 0
        · obtain ⟨V, fV, zV⟩ := repE (-2 ^ 52) (1 + E) (by decide) (by omega)
          exact ⟨V, notNan fV, by rw [zV, show n = -2 ^ 52 * 2 ^ 1 by omega, Int.pow_add, Int.mul_assoc]⟩
        · obtain ⟨V, fV, zV⟩ := repE (2 ^ 52) (1 + E) (by decide) (by omega)
          exact ⟨V, notNan fV, by rw [zV, show n = 2 ^ 52 * 2 ^ 1 by omega, Int.pow_add, Int.mul_assoc]⟩
theorem dmul_eq {a b V : UInt64} (ha : Core.DFin a) (hb : Core.DFin b) (hV : Core.val64 V ≠ .nan) (h : zv a * zv b = zv V * U) : zv (FP.dmul a b) = zv V := by
  have := dmul_le ha hb hV (Int.le_of_eq h); have := dmul_ge ha hb hV (Int.le_of_eq h.symm); omega
/-! ## values n / 2^k -/
/-- finite, and worth n / 2^k -/
def DS (n : Int) (k : Nat) (a : UInt64) : Prop := Core.DFin a ∧ zv a * 2 ^ k = n * U
def Le (a : UInt64) (n : Int) (k : Nat) : Prop := zv a * 2 ^ k ≤ n * U
def Ge (a : UInt64) (n : Int) (k : Nat) : Prop := n * U ≤ zv a * 2 ^ k
theorem DS.le {n : Int} {k : Nat} {a : UInt64} (h : DS n k a) : Le a n k := Int.le_of_eq h.2
theorem DS.ge {n : Int} {k : Nat} {a : UInt64} (h : DS n k a) : Ge a n k := Int.le_of_eq h.2.symm
theorem DS.int {i : Int} {a : UInt64} (h : Core.DInt i a) : DS i 0 a := by
  refine ⟨?_, ?_⟩
  · unfold Core.DInt at h
    cases e : Core.val64 a with
    | nan => rw [e] at h; exact h.elim
    | inf => rw [e] at h; exact h.elim
    | fin s c q => exact ⟨s, c, q, e⟩
  · show zv a * 2 ^ 0 = i * U
    rw [Int.pow_zero, Int.mul_one]; exact Core.DInt_zval h
theorem DS.i2d (x : Int32) : DS x.toInt 0 (FP.i2d x) := DS.int (Core.i2d_int x)
theorem DS.l2d {x : Int64} (h : x.toInt.natAbs ≤ 2 ^ 53) : DS x.toInt 0 (FP.l2d x) := DS.int (Core.l2d_int h)
theorem mul_cancel {a b c : Int} (hc : 0 < c) (h : a * c = b * c) : a = b := Int.eq_of_mul_eq_mul_right (by omega) h
theorem le_cancel {a b c : Int} (hc : 0 < c) (h : a * c ≤ b * c) : a ≤ b := Int.le_of_mul_le_mul_right h hc
theorem DS.up {n : Int} {k : Nat} {a : UInt64} (h : DS n k a) (j : Nat) : DS (n * 2 ^ j) (k + j) a := ⟨h.1, by
  rw [Int.pow_add, ← Int.mul_assoc, h.2]; grind⟩
theorem Le.up {n : Int} {k : Nat} {a : UInt64} (h : Le a n k) (j : Nat) : Le a (n * 2 ^ j) (k + j) := by
  unfold Le at *
  have := Int.mul_le_mul_of_nonneg_right h (Int.le_of_lt (pow_pos j))
  rw [Int.pow_add]; grind
theorem Ge.up {n : Int} {k : Nat} {a : UInt64} (h : Ge a n k) (j : Nat) : Ge a (n * 2 ^ j) (k + j) := by
  unfold Ge at *
  have := Int.mul_le_mul_of_nonneg_right h (Int.le_of_lt (pow_pos j))
  rw [Int.pow_add]; grind
/-- what lies between two bounds n / 2^k is finite -/
theorem fin_of {a : UInt64} {n m : Int} {k j : Nat} (nn : Core.val64 a ≠ .nan) (h1 : Ge a n k) (h2 : Le a m j) (bn : n.natAbs ≤ 2 ^ 53) (bm : m.natAbs ≤ 2 ^ 53) (hk : k ≤ 1000) (hj : j ≤ 1000) : Core.DFin a := by
  obtain ⟨V, fV, zV⟩ := rep n k bn hk
  obtain ⟨W, fW, zW⟩ := rep m j bm hj
  refine fin_between nn fV fW ?_ ?_
  · exact le_cancel (pow_pos k) (by unfold Ge at h1; omega)
  · exact le_cancel (pow_pos j) (by unfold Le at h2; omega)
theorem DS.of {a : UInt64} {n : Int} {k : Nat} (nn : Core.val64 a ≠ .nan) (h1 : Ge a n k) (h2 : Le a n k) (bn : n.natAbs ≤ 2 ^ 53) (hk : k ≤ 1000) : DS n k a :=
  ⟨fin_of nn h1 h2 bn bn hk hk, by unfold Ge at h1; unfold Le at h2; omega⟩
/-! the operations against bounds -/
theorem add_Le {a b : UInt64} {n m q : Int} {k : Nat} (fa : Core.DFin a) (fb : Core.DFin b) (ha : Le a n k) (hb : Le b m k) (h : n + m ≤ q) (bq : q.natAbs ≤ 2 ^ 53) (hk : k ≤ 1000) : Le (FP.dadd a b) q k := by
  obtain ⟨V, fV, zV⟩ := rep q k bq hk
  have h1 : zv (FP.dadd a b) ≤ zv V := dadd_le fa fb (notNan fV) (le_cancel (pow_pos k) (by
    unfold Le at ha hb
    rw [Int.add_mul, zV]
    have := Int.mul_le_mul_of_nonneg_right h (Int.le_of_lt U_pos)
    rw [Int.add_mul] at this; omega))
  unfold Le; rw [← zV]; exact Int.mul_le_mul_of_nonneg_right h1 (Int.le_of_lt (pow_pos k))
theorem add_Ge {a b : UInt64} {n m q : Int} {k : Nat} (fa : Core.DFin a) (fb : Core.DFin b) (ha : Ge a n k) (hb : Ge b m k) (h : q ≤ n + m) (bq : q.natAbs ≤ 2 ^ 53) (hk : k ≤ 1000) : Ge (FP.dadd a b) q k := by
  obtain ⟨V, fV, zV⟩ := rep q k bq hk
  have h1 : zv V ≤ zv (FP.dadd a b) := dadd_ge fa fb (notNan fV) (le_cancel (pow_pos k) (by
    unfold Ge at ha hb
    rw [Int.add_mul, zV]
    have := Int.mul_le_mul_of_nonneg_right h (Int.le_of_lt U_pos)
    rw [Int.add_mul] at this; omega))
  unfold Ge; rw [← zV]; exact Int.mul_le_mul_of_nonneg_right h1 (Int.le_of_lt (pow_pos k))
theorem DS.add {a b : UInt64} {n m : Int} {k : Nat} (ha : DS n k a) (hb : DS m k b) (bq : (n + m).natAbs ≤ 2 ^ 53) (hk : k ≤ 1000) : DS (n + m) k (FP.dadd a b) :=
  DS.of (dadd_nn ha.1 hb.1) (add_Ge ha.1 hb.1 ha.ge hb.ge (Int.le_refl _) bq hk) (add_Le ha.1 hb.1 ha.le hb.le (Int.le_refl _) bq hk) bq hk
theorem DS.neg {a : UInt64} {n : Int} {k : Nat} (ha : DS n k a) : DS (-n) k (FP.dneg a) := ⟨fin_dneg ha.1, by rw [zv_dneg, Int.neg_mul, ha.2, Int.neg_mul]⟩
theorem DS.sub {a b : UInt64} {n m : Int} {k : Nat} (ha : DS n k a) (hb : DS m k b) (bq : (n - m).natAbs ≤ 2 ^ 53) (hk : k ≤ 1000) : DS (n - m) k (FP.dsub a b) := by
  rw [dsub_dadd hb.1, show n - m = n + -m by omega]; exact ha.add hb.neg (by rw [← Int.sub_eq_add_neg]; exact bq) hk
theorem DS.mul {a b : UInt64} {n m : Int} {k j : Nat} (ha : DS n k a) (hb : DS m j b) (bq : (n * m).natAbs ≤ 2 ^ 53) (hk : k + j ≤ 1000) : DS (n * m) (k + j) (FP.dmul a b) := by
  obtain ⟨V, fV, zV⟩ := rep (n * m) (k + j) bq hk
  have e : zv a * zv b = zv V * U := by
    have h1 := ha.2; have h2 := hb.2
    refine mul_cancel (pow_pos (k + j)) ?_
    calc zv a * zv b * 2 ^ (k + j) = (zv a * 2 ^ k) * (zv b * 2 ^ j) := by rw [Int.pow_add]; grind
      _ = (n * U) * (m * U) := by rw [h1, h2]
      _ = (n * m * U) * U := by grind
      _ = zv V * U * 2 ^ (k + j) := by rw [← zV]; grind
  have g1 := dmul_le ha.1 hb.1 (notNan fV) (Int.le_of_eq e)
  have g2 := dmul_ge ha.1 hb.1 (notNan fV) (Int.le_of_eq e.symm)
  have g : zv (FP.dmul a b) = zv V := by omega
  exact ⟨fin_between (dmul_nn ha.1 hb.1) fV fV (by omega) (by omega), by rw [g, zV]⟩
theorem DS.pos {b : UInt64} {m : Int} {j : Nat} (hb : DS m j b) (hm : 0 < m) : 0 < zv b := by
  have h1 : 0 < zv b * 2 ^ j := by rw [hb.2]; exact Int.mul_pos hm U_pos
  exact Int.pos_of_mul_pos_left h1 (pow_pos j)
/-- a quotient against a bound q / 2^l -/
theorem div_Le {a b : UInt64} {n m q : Int} {k j l : Nat} (ha : DS n k a) (hb : DS m j b) (hm : 0 < m) (h : n * 2 ^ j * 2 ^ l ≤ q * m * 2 ^ k) (bq : q.natAbs ≤ 2 ^ 53) (hl : l ≤ 1000) : Le (FP.ddiv a b) q l := by
  obtain ⟨V, fV, zV⟩ := rep q l bq hl
  have h1 : zv (FP.ddiv a b) ≤ zv V := ddiv_le ha.1 hb.1 (hb.pos hm) (notNan fV) (by
    refine le_cancel (pow_pos (k + j + l)) ?_
    have e1 : zv a * U * 2 ^ (k + j + l) = (n * 2 ^ j * 2 ^ l) * (U * U) := by
      calc zv a * U * 2 ^ (k + j + l) = (zv a * 2 ^ k) * U * 2 ^ j * 2 ^ l := by rw [Int.pow_add, Int.pow_add]; grind
        _ = _ := by rw [ha.2]; grind
    have e2 : zv V * zv b * 2 ^ (k + j + l) = (q * m * 2 ^ k) * (U * U) := by
      calc zv V * zv b * 2 ^ (k + j + l) = (zv V * 2 ^ l) * (zv b * 2 ^ j) * 2 ^ k := by rw [Int.pow_add, Int.pow_add]; grind
        _ = _ := by rw [zV, hb.2]; grind
    rw [e1, e2]
    exact Int.mul_le_mul_of_nonneg_right h (Int.le_of_lt (Int.mul_pos U_pos U_pos)))
  unfold Le; rw [← zV]; exact Int.mul_le_mul_of_nonneg_right h1 (Int.le_of_lt (pow_pos l))
theorem div_Ge {a b : UInt64} {n m q : Int} {k j l : Nat} (ha : DS n k a) (hb : DS m j b) (hm : 0 < m) (h : q * m * 2 ^ k ≤ n * 2 ^ j * 2 ^ l) (bq : q.natAbs ≤ 2 ^ 53) (hl : l ≤ 1000) : Ge (FP.ddiv a b) q l := by
  obtain ⟨V, fV, zV⟩ := rep q l bq hl
  have h1 : zv V ≤ zv (FP.ddiv a b) := ddiv_ge ha.1 hb.1 (hb.pos hm) (notNan fV) (by
    refine le_cancel (pow_pos (k + j + l)) ?_
    have e1 : zv a * U * 2 ^ (k + j + l) = (n * 2 ^ j * 2 ^ l) * (U * U) := by
      calc zv a * U * 2 ^ (k + j + l) = (zv a * 2 ^ k) * U * 2 ^ j * 2 ^ l := by rw [Int.pow_add, Int.pow_add]; grind
        _ = _ := by rw [ha.2]; grind
    have e2 : zv V * zv b * 2 ^ (k + j + l) = (q * m * 2 ^ k) * (U * U) := by
      calc zv V * zv b * 2 ^ (k + j + l) = (zv V * 2 ^ l) * (zv b * 2 ^ j) * 2 ^ k := by rw [Int.pow_add, Int.pow_add]; grind
        _ = _ := by rw [zV, hb.2]; grind
    rw [e1, e2]
    exact Int.mul_le_mul_of_nonneg_right h (Int.le_of_lt (Int.mul_pos U_pos U_pos)))
  unfold Ge; rw [← zV]; exact Int.mul_le_mul_of_nonneg_right h1 (Int.le_of_lt (pow_pos l))
theorem DS.div {a b : UInt64} {n m q : Int} {k j l : Nat} (ha : DS n k a) (hb : DS m j b) (hm : 0 < m) (h : n * 2 ^ j * 2 ^ l = q * m * 2 ^ k) (bq : q.natAbs ≤ 2 ^ 53) (hl : l ≤ 1000) : DS q l (FP.ddiv a b) :=
  DS.of (ddiv_nn ha.1 hb.1 (hb.pos hm)) (div_Ge ha hb hm (Int.le_of_eq h.symm) bq hl) (div_Le ha hb hm (Int.le_of_eq h) bq hl) bq hl
/-! comparisons -/
theorem cmp_zv {a b : UInt64} (ha : Core.val64 a ≠ .nan) (hb : Core.val64 b ≠ .nan) : FP.dcmp a b = some (compare (zv a) (zv b)) := Core.dcmp_zval ha hb
theorem cmpV_of {a b : UInt64} (ha : Core.val64 a ≠ .nan) (hb : Core.val64 b ≠ .nan) (o : ClassFile.CmpOp) : Op.cmpValue (FP.dcmp a b) o = if zv a < zv b then -1 else if zv a = zv b then 0 else 1 := by
  rw [cmp_zv ha hb, Core.compare_ite]
  split
  · rfl
  · split <;> rfl
theorem cmp_gt {a b : UInt64} (ha : Core.val64 a ≠ .nan) (hb : Core.val64 b ≠ .nan) (h : zv b < zv a) (o : ClassFile.CmpOp) : Op.cmpValue (FP.dcmp a b) o = 1 := by
  rw [cmpV_of ha hb, if_neg (by omega), if_neg (by omega)]
theorem cmp_lt {a b : UInt64} (ha : Core.val64 a ≠ .nan) (hb : Core.val64 b ≠ .nan) (h : zv a < zv b) (o : ClassFile.CmpOp) : Op.cmpValue (FP.dcmp a b) o = -1 := by
  rw [cmpV_of ha hb, if_pos h]
theorem cmp_eq {a b : UInt64} (ha : Core.val64 a ≠ .nan) (hb : Core.val64 b ≠ .nan) (h : zv a = zv b) (o : ClassFile.CmpOp) : Op.cmpValue (FP.dcmp a b) o = 0 := by
  rw [cmpV_of ha hb, if_neg (by omega), if_pos h]
theorem zv_zero : zv FP.dconst0 = 0 := Core.zval64_zero
theorem cmp_neg {a b : UInt64} {k : Int32} {o : ClassFile.CmpOp} (h : Op.cmpValue (FP.dcmp a b) o = k) (ha : Core.val64 a ≠ .nan) (hb : Core.val64 b ≠ .nan) : k < 0 ↔ zv a < zv b := by
  rw [← h, cmpV_of ha hb]; split
  · exact ⟨fun _ => by assumption, fun _ => by decide⟩
  · split
    · exact ⟨fun h => absurd h (by decide), fun h => absurd h (by assumption)⟩
    · exact ⟨fun h => absurd h (by decide), fun h => absurd h (by assumption)⟩
theorem cmp_pos {a b : UInt64} {k : Int32} {o : ClassFile.CmpOp} (h : Op.cmpValue (FP.dcmp a b) o = k) (ha : Core.val64 a ≠ .nan) (hb : Core.val64 b ≠ .nan) : 0 < k ↔ zv b < zv a := by
  rw [← h, cmpV_of ha hb]; split
  · exact ⟨fun h => absurd h (by decide), fun h => by omega⟩
  · split
    · exact ⟨fun h => absurd h (by decide), fun h => by omega⟩
    · exact ⟨fun h => by omega, fun _ => by decide⟩
theorem cmp_nul {a b : UInt64} {k : Int32} {o : ClassFile.CmpOp} (h : Op.cmpValue (FP.dcmp a b) o = k) (ha : Core.val64 a ≠ .nan) (hb : Core.val64 b ≠ .nan) : k = 0 ↔ zv a = zv b := by
  rw [← h, cmpV_of ha hb]; split
  · exact ⟨fun h => absurd h (by decide), fun h => by omega⟩
  · split
    · exact ⟨fun _ => by assumption, fun _ => rfl⟩
    · exact ⟨fun h => absurd h (by decide), fun h => by omega⟩
theorem lt_of {a b : UInt64} {n m : Int} {k : Nat} (h1 : Le a n k) (h2 : Ge b m k) (h : n < m) : zv a < zv b := by
  unfold Le at h1; unfold Ge at h2
  have : n * U < m * U := Int.mul_lt_mul_of_pos_right h U_pos
  exact Int.lt_of_mul_lt_mul_right (a := 2 ^ k) (by omega) (Int.le_of_lt (pow_pos k))
theorem le_of {a b : UInt64} {n m : Int} {k : Nat} (h1 : Le a n k) (h2 : Ge b m k) (h : n ≤ m) : zv a ≤ zv b := by
  unfold Le at h1; unfold Ge at h2
  have : n * U ≤ m * U := Int.mul_le_mul_of_nonneg_right h (Int.le_of_lt U_pos)
  exact Int.le_of_mul_le_mul_right (a := 2 ^ k) (by omega) (pow_pos k)
theorem DS.cmp {a b : UInt64} {n m : Int} {k : Nat} (ha : DS n k a) (hb : DS m k b) (o : ClassFile.CmpOp) : Op.cmpValue (FP.dcmp a b) o = if n < m then -1 else if n = m then 0 else 1 := by
  rw [cmpV_of (notNan ha.1) (notNan hb.1)]
  by_cases h1 : n < m
  · rw [if_pos h1, if_pos (lt_of ha.le hb.ge h1)]
  · by_cases h2 : n = m
    · have e : zv a = zv b := by
        subst h2; have := le_of ha.le hb.ge (Int.le_refl _); have := le_of hb.le ha.ge (Int.le_refl _); omega
      rw [if_neg h1, if_pos h2, if_neg (by omega), if_pos e]
    · have := lt_of hb.le ha.ge (show m < n by omega)
      rw [if_neg h1, if_neg h2, if_neg (by omega), if_neg (by omega)]
theorem DS.zero : DS 0 0 FP.dconst0 := ⟨⟨false, 0, _, Core.val64_dconst0⟩, by
  have : zv FP.dconst0 = 0 := Core.zval64_zero
  rw [this]; simp⟩
theorem DS.one : DS 1 0 FP.dconst1 := DS.int Core.dint_one
theorem zv_one : zv FP.dconst1 = U := by have := DS.one.2; rwa [Int.pow_zero, Int.mul_one, Int.one_mul] at this
theorem DS.noNaN {n : Int} {k : Nat} {a : UInt64} (h : DS n k a) : Jvm.Free.Fl.NoNaN64 a := (Jvm.Free.Fl.fin64_core.mpr h.1).noNaN
theorem noNaN_of {a : UInt64} (h : Core.val64 a ≠ .nan) : Jvm.Free.Fl.NoNaN64 a := Jvm.Free.Fl.noNaN64_no.mpr ((Core.notNaN_iff a).mpr h)
end Jvm.OwnFP
namespace Jvm.OwnFP
open Jvm.FP
theorem sgn_pos {a : UInt64} (h : 0 < zv a) : Core.sgn (Core.val64 a) = false := by
  unfold zv Core.zval at h
  cases e : Core.sgn (Core.val64 a) with
  | false => rfl
  | true => rw [e] at h; simp only [Core.signed, if_true] at h; omega
/-- one quotient by two roads -/
theorem DS.div_same {a a' b b' : UInt64} {n d : Int} {k j : Nat} (ha : DS n k a) (ha' : DS n k a') (hb : DS d j b) (hb' : DS d j b') (hn : 0 < n) (hd : 0 < d) : FP.ddiv a b = FP.ddiv a' b' := by
  have e1 : zv a = zv a' := mul_cancel (pow_pos k) (by rw [ha.2, ha'.2])
  have e2 : zv b = zv b' := mul_cancel (pow_pos j) (by rw [hb.2, hb'.2])
  refine ddiv_congr ha.1 hb.1 (hb.pos hd) ha'.1 hb'.1 (hb'.pos hd) ?_ (by rw [e1, e2])
  rw [sgn_pos (ha.pos hn), sgn_pos (ha'.pos hn)]
end Jvm.OwnFP
namespace Jvm.OwnFP
open Jvm.FP
theorem Le.neg {a : UInt64} {n : Int} {k : Nat} (h : Le a n k) : Ge (FP.dneg a) (-n) k := by unfold Le at h; unfold Ge; rw [zv_dneg, Int.neg_mul, Int.neg_mul]; omega
theorem Ge.neg {a : UInt64} {n : Int} {k : Nat} (h : Ge a n k) : Le (FP.dneg a) (-n) k := by unfold Ge at h; unfold Le; rw [zv_dneg, Int.neg_mul, Int.neg_mul]; omega
theorem sub_Le {a b : UInt64} {n m q : Int} {k : Nat} (fa : Core.DFin a) (fb : Core.DFin b) (ha : Le a n k) (hb : Ge b m k) (h : n - m ≤ q) (bq : q.natAbs ≤ 2 ^ 53) (hk : k ≤ 1000) : Le (FP.dsub a b) q k := by
  rw [dsub_dadd fb]; exact add_Le fa (fin_dneg fb) ha hb.neg (by omega) bq hk
theorem sub_Ge {a b : UInt64} {n m q : Int} {k : Nat} (fa : Core.DFin a) (fb : Core.DFin b) (ha : Ge a n k) (hb : Le b m k) (h : q ≤ n - m) (bq : q.natAbs ≤ 2 ^ 53) (hk : k ≤ 1000) : Ge (FP.dsub a b) q k := by
  rw [dsub_dadd fb]; exact add_Ge fa (fin_dneg fb) ha hb.neg (by omega) bq hk
/-- one quotient at two scales -/
theorem DS.div_scale {a a' b b' : UInt64} {n d : Int} {k k' : Nat} (ha : DS n k a) (ha' : DS n k' a') (hb : DS d k b) (hb' : DS d k' b') (hn : 0 < n) (hd : 0 < d) : FP.ddiv a b = FP.ddiv a' b' := by
  refine ddiv_congr ha.1 hb.1 (hb.pos hd) ha'.1 hb'.1 (hb'.pos hd) ?_ ?_
  · rw [sgn_pos (ha.pos hn), sgn_pos (ha'.pos hn)]
  · refine mul_cancel (pow_pos (k + k')) ?_
    calc zv a * zv b' * 2 ^ (k + k') = (zv a * 2 ^ k) * (zv b' * 2 ^ k') := by rw [Int.pow_add]; ac_rfl
      _ = (zv a' * 2 ^ k') * (zv b * 2 ^ k) := by rw [ha.2, hb'.2, ha'.2, hb.2]
      _ = zv a' * zv b * 2 ^ (k + k') := by rw [Int.pow_add]; ac_rfl
end Jvm.OwnFP
namespace Jvm.Pilot.@@N@@
open Jvm Jvm.ClassFile Sem Op Lib Jvm.Free Jvm.Stand Jvm.LawKit Jvm.RoadKit Bundle Jvm.Pilot.@@N@@.Jvm.D
open Jvm.OwnFP Jvm.FP
theorem pn_com_example_detectability_detectability_QuantificationIsTotalPinLaw : plainName "com/example/detectability/detectability/QuantificationIsTotalPinLaw" = true := by first | (simp [plainName, overriddenIn]; done) | decide +kernel
theorem pn_com_example_detectability_detectability_Quantification : plainName "com/example/detectability/detectability/Quantification" = true := by first | (simp [plainName, overriddenIn]; done) | decide +kernel
theorem pd__D_Z : parseMethodDescriptor "(D)Z" = some ⟨[.double], some .boolean⟩ := by decide +kernel
def bigZ : Int := 2 ^ 2045
def topZ : Int := (2 ^ 53 - 1) * 2 ^ 2045
theorem zv_min : zv 4503599627370496 = 2 ^ 52 := by decide +kernel
theorem zv_max : zv 9218868437227405311 = topZ := by decide +kernel
theorem zv_unit : zv 1 = 1 := by decide +kernel
theorem zv_big : zv 8980177656976769024 = bigZ := by decide +kernel
theorem nn_min : Core.val64 4503599627370496 ≠ .nan := by decide +kernel
theorem nn_max : Core.val64 9218868437227405311 ≠ .nan := by decide +kernel
theorem fin_one : Core.DFin 1 := by rw [Core.fin_bits]; decide
theorem fin_big : Core.DFin 8980177656976769024 := by rw [Core.fin_bits]; decide
theorem mm_k {x mm : Int64} (h : mm = x - (x / ((9007199254740992 : Int64) + (1 : Int64))) * ((9007199254740992 : Int64) + (1 : Int64))) : -2 ^ 53 ≤ mm.toInt ∧ mm.toInt ≤ 2 ^ 53 := by
  have e : ((9007199254740992 : Int64) + (1 : Int64)).toInt = 2 ^ 53 + 1 := by decide
  rw [h, Kit.i64_rem, e]
  have h1 := Int.tmod_lt_of_pos x.toInt (b := 2 ^ 53 + 1) (by decide)
  have h2 := Int.lt_tmod_of_pos x.toInt (b := 2 ^ 53 + 1) (by decide)
  omega
theorem dm_k {mm : Int64} (h1 : -2 ^ 53 ≤ mm.toInt) (h2 : mm.toInt ≤ 2 ^ 53) : Core.DFin (FP.l2d mm) ∧ zv (FP.l2d mm) = mm.toInt * U := by
  have := DS.l2d (x := mm) (by omega)
  exact ⟨this.1, by have := this.2; rwa [Int.pow_zero, Int.mul_one] at this⟩
theorem c0_k {mm : Int64} {dm d : UInt64} (h1 : -2 ^ 53 ≤ mm.toInt) (h2 : mm.toInt ≤ 2 ^ 53) (hm : FP.l2d mm = dm) (hd : FP.dmul dm 1 = d) : Core.val64 d ≠ .nan ∧ zv d = mm.toInt := by
  subst hm
  obtain ⟨f, z⟩ := dm_k h1 h2
  obtain ⟨V, nV, zV⟩ := repI mm.toInt 0 (by omega) (by decide)
  rw [← hd]
  refine ⟨dmul_nn f fin_one, ?_⟩
  rw [dmul_eq f fin_one nV (by rw [z, zv_unit, zV]; simp), zV]; simp
theorem mulB {a B : Int} : a * U * B = a * B * U := by rw [Int.mul_assoc, Int.mul_assoc, Int.mul_comm U]
theorem c1_k {mm : Int64} {dm d : UInt64} (h1 : -2 ^ 53 ≤ mm.toInt) (h2 : mm.toInt ≤ 2 ^ 53) (hm : FP.l2d mm = dm) (hd : FP.dmul dm 8980177656976769024 = d) : Core.val64 d ≠ .nan ∧ zv d = mm.toInt * bigZ := by
  subst hm
  obtain ⟨f, z⟩ := dm_k h1 h2
  obtain ⟨V, nV, zV0⟩ := repI mm.toInt 2045 (by omega) (by decide)
  have zV : zv V = mm.toInt * bigZ := zV0
  clear zV0
  rw [← hd]
  refine ⟨dmul_nn f fin_big, ?_⟩
  rw [dmul_eq f fin_big nV (by rw [z, zv_big, zV]; exact mulB), zV]
theorem bigB : (2 : Int) ^ 53 ≤ bigZ ∧ topZ = (2 ^ 53 - 1) * bigZ := by decide +kernel
theorem bigU : (2 : Int) ^ 53 ≤ U ∧ 2 ^ 53 * U ≤ topZ := by decide +kernel
theorem lt64 {a b : Int64} : a < b ↔ a.toInt < b.toInt := Int64.lt_iff_toInt_lt
theorem e0_k {mm : Int64} {d : UInt64} (h1 : -2 ^ 53 ≤ mm.toInt) (h2 : mm.toInt ≤ 2 ^ 53) (zd : zv d = mm.toInt) : (if zv d < 2 ^ 52 ∨ topZ < zv d then (0 : Int32) else 1) = (if mm < (4503599627370496 : Int64) then (0 : Int32) else 1) := by
  have e : (4503599627370496 : Int64).toInt = 2 ^ 52 := by decide
  obtain ⟨hB, hT⟩ := bigB
  rw [zd]
  generalize bigZ = B at *
  by_cases c : mm < (4503599627370496 : Int64)
  · rw [if_pos c, if_pos]; rw [lt64] at c; omega
  · rw [if_neg c, if_neg]; rw [lt64] at c; omega
theorem e1_k {mm : Int64} {d : UInt64} (h1 : -2 ^ 53 ≤ mm.toInt) (h2 : mm.toInt ≤ 2 ^ 53) (zd : zv d = mm.toInt * bigZ) : (if zv d < 2 ^ 52 ∨ topZ < zv d then (0 : Int32) else 1) = (if mm < (1 : Int64) then (0 : Int32) else if mm < (9007199254740992 : Int64) then 1 else 0) := by
  have e : (9007199254740992 : Int64).toInt = 2 ^ 53 := by decide
  have e1 : (1 : Int64).toInt = 1 := by decide
  obtain ⟨hB, hT⟩ := bigB
  rw [zd]
  generalize bigZ = B at *
  by_cases c : mm < (1 : Int64)
  · rw [if_pos c, if_pos]
    rw [lt64] at c
    left
    have : mm.toInt * B ≤ 0 * B := Int.mul_le_mul_of_nonneg_right (by omega) (by omega)
    omega
  · rw [if_neg c]; rw [lt64] at c
    by_cases c2 : mm < (9007199254740992 : Int64)
    · rw [if_pos c2, if_neg]; rw [lt64] at c2
      have p1 : 1 * B ≤ mm.toInt * B := Int.mul_le_mul_of_nonneg_right (by omega) (by omega)
      have p2 : mm.toInt * B ≤ (2 ^ 53 - 1) * B := Int.mul_le_mul_of_nonneg_right (by omega) (by omega)
      omega
    · rw [if_neg c2, if_pos]; rw [lt64] at c2
      have e3 : mm.toInt = 2 ^ 53 := by omega
      rw [e3]; omega
theorem e2_k {mm : Int64} {d : UInt64} (h1 : -2 ^ 53 ≤ mm.toInt) (h2 : mm.toInt ≤ 2 ^ 53) (zd : zv d = mm.toInt * U) : (if zv d < 2 ^ 52 ∨ topZ < zv d then (0 : Int32) else 1) = (if mm < (1 : Int64) then (0 : Int32) else 1) := by
  have e1 : (1 : Int64).toInt = 1 := by decide
  obtain ⟨hB, hC⟩ := bigU
  rw [zd]
  generalize topZ = B at *
  generalize U = u at *
  have p2 : mm.toInt * u ≤ 2 ^ 53 * u := Int.mul_le_mul_of_nonneg_right (by omega) (by omega)
  by_cases c : mm < (1 : Int64)
  · rw [if_pos c, if_pos]
    rw [lt64] at c
    left
    have : mm.toInt * u ≤ 0 * u := Int.mul_le_mul_of_nonneg_right (by omega) (by omega)
    omega
  · rw [if_neg c, if_neg]; rw [lt64] at c
    have p1 : 1 * u ≤ mm.toInt * u := Int.mul_le_mul_of_nonneg_right (by omega) (by omega)
    omega
theorem e3_k {mm : Int64} {d : UInt64} (h1 : -2 ^ 53 ≤ mm.toInt) (h2 : mm.toInt ≤ 2 ^ 53) (zd : zv d = -(mm.toInt * bigZ)) : (if zv d < 2 ^ 52 ∨ topZ < zv d then (0 : Int32) else 1) = (if (-1 : Int64) < mm then (0 : Int32) else if (-(9007199254740992 : Int64)) < mm then 1 else 0) := by
  have e : (-(9007199254740992 : Int64)).toInt = -2 ^ 53 := by decide
  have e1 : (-1 : Int64).toInt = -1 := by decide
  obtain ⟨hB, hT⟩ := bigB
  rw [zd]
  generalize bigZ = B at *
  by_cases c : (-1 : Int64) < mm
  · rw [if_pos c, if_pos]
    rw [lt64] at c
    left
    have : 0 * B ≤ mm.toInt * B := Int.mul_le_mul_of_nonneg_right (by omega) (by omega)
    omega
  · rw [if_neg c]; rw [lt64] at c
    have p1 : mm.toInt * B ≤ -1 * B := Int.mul_le_mul_of_nonneg_right (by omega) (by omega)
    by_cases c2 : (-(9007199254740992 : Int64)) < mm
    · rw [if_pos c2, if_neg]; rw [lt64] at c2
      have p2 : -(2 ^ 53 - 1) * B ≤ mm.toInt * B := Int.mul_le_mul_of_nonneg_right (by omega) (by omega)
      omega
    · rw [if_neg c2, if_pos]; rw [lt64] at c2
      have e3 : mm.toInt = -2 ^ 53 := by omega
      rw [e3]; omega
theorem d1_0 : decode prog_32_method_3_code 0 = .ok (.dload_n 0, 1) := by decide +kernel
theorem d1_1 : decode prog_32_method_3_code 1 = .ok (.ldc2_w 179, 3) := by decide +kernel
theorem d1_4 : decode prog_32_method_3_code 4 = .ok (.dcmp .l, 1) := by decide +kernel
theorem d1_5 : decode prog_32_method_3_code 5 = .ok (.ifCond .lt 15, 3) := by decide +kernel
theorem d1_8 : decode prog_32_method_3_code 8 = .ok (.dload_n 0, 1) := by decide +kernel
theorem d1_9 : decode prog_32_method_3_code 9 = .ok (.ldc2_w 245, 3) := by decide +kernel
theorem d1_12 : decode prog_32_method_3_code 12 = .ok (.dcmp .g, 1) := by decide +kernel
theorem d1_13 : decode prog_32_method_3_code 13 = .ok (.ifCond .gt 7, 3) := by decide +kernel
theorem d1_16 : decode prog_32_method_3_code 16 = .ok (.iconst 1, 1) := by decide +kernel
theorem d1_17 : decode prog_32_method_3_code 17 = .ok (.goto 4, 3) := by decide +kernel
theorem d1_20 : decode prog_32_method_3_code 20 = .ok (.iconst 0, 1) := by decide +kernel
theorem d1_21 : decode prog_32_method_3_code 21 = .ok (.ireturn, 1) := by decide +kernel
theorem ef_1 (m : MethodId) (pd : UInt64) : entryFrame m #[(.double pd)] 2 = (mkF m 0 #[.val (.double pd), .second] []) := by first | (simp [entryFrame, mkF, argsToLocals, Value.category]; done) | rfl
def Q_1 (Z : State) (pd : UInt64) (h0 : Heap) (n0 : Nat) (v : Option Value) (h : Heap) (L : List Loc) : Prop := v = some (.int (if zv pd < 2 ^ 52 ∨ topZ < zv pd then 0 else 1)) ∧ Fr n0 L ∧ h = h0
set_option maxRecDepth 65536 in
set_option maxHeartbeats 2000000 in
theorem rm_1 (l : Launch) (Z : State) (a0 : Array Value) (hw : ∀ d ∈ tables_1, d.before a0 Z = true) (ws : List Jvm.Cond) (pd : UInt64) (h0 : Heap) (n0 : Nat) (Z0 : n0 ≤ h0.size) (fd : Core.val64 pd ≠ .nan) :
    MetFree l (⟨"com/example/detectability/detectability/Quantification", "isTotal", "(D)Z"⟩ : MethodName) (head1 (Jvm.Cond.code (⟨"com/example/detectability/detectability/Quantification", "isTotal", "(D)Z"⟩ : MethodName) prog_32_method_3_code 2 (some .boolean) :: ws) ({ frames := 0, cells := 0, slots := 0, locals := 0 } : Room)) (fun aa UU => aa = #[(.double pd)] ∧ Z.Warmed39 UU.vm ∧ UU.heap = h0) (fun _ _ _ _ _ => True) (fun _ UU oo UU' => ∃ v L, oo = .returned v ∧ Q_1 Z pd h0 n0 v UU'.heap L ∧ FrameEnd UU oo UU' L ({ frames := 0, cells := 0, slots := 0, locals := 0 } : Room).cells ({ frames := 0, cells := 0, slots := 0, locals := 0 } : Room).slots) := by
  refine MetFree.of_bodySF (plainFor_of_name pn_com_example_detectability_detectability_Quantification) hisR ?_
  intro p e s m args below meth c s₁ Bd hml0 hP hK
  obtain ⟨rfl, hZ, hh⟩ := hP
  have hx := Bd.exec
  have hby := Bd.bytes
  have hml : c.maxLocals = 2 := hml0
  have hown : s.vm.findClass "com/example/detectability/detectability/Quantification" = some m.cls := findClass_of_methodNamed Bd.named
  have hnm := (name_of_methodNamed Bd.named Bd.method).1
  have X0 : Stand p l e ({ frames := 0, cells := 0, slots := 0, locals := 0 } : Room) s m #[(.double pd)] below meth c s₁ [] 0 0 := Stand.of_body Bd
  have e0 : s₁.heap = h0 := by rw [← hh, Bd.state]; rfl
  have N0 := Fr.nil n0
  have pre0 : ∀ t, Steps p.tables e below (s₁.setTop (entryFrame m #[(.double pd)] 2)) t → Steps p.tables e below (s₁.setTop (entryFrame m #[(.double pd)] 2)) t := fun t k => k
  have c0 : ∀ t, Steps p.tables e below (s₁.setTop (mkF m 0 #[.val (.double pd), .second] [])) t → Steps p.tables e below (s₁.setTop (entryFrame m #[(.double pd)] 2)) t := fun t k => castTop (ef_1 m pd) k
  obtain ⟨k4, hk4⟩ : ∃ v : Int32, cmpValue (FP.dcmp pd (4503599627370496 : UInt64)) .l = v := ⟨_, rfl⟩
  have u4 := cmp_neg hk4 fd nn_min
  rw [zv_min] at u4
  have c1 : ∀ t, Steps p.tables e below (s₁.setTop (mkF m 5 #[.val (.double pd), .second] [(.int k4)])) t → Steps p.tables e below (s₁.setTop (entryFrame m #[(.double pd)] 2)) t := fun t k => c0 t (by
    show Steps p.tables e below (s₁.setTop (mkF m 0 #[.val (.double pd), .second] [])) _
    refine XS.dloadN X0.here hx rfl (hb hby d1_0) rfl ?_
    show Steps p.tables e below (s₁.setTop (mkF m 1 #[.val (.double pd), .second] [(.double pd)])) _
    refine Jvm.Stand.ldc2DoubleC X0 hx hown (mvT hZ (hw _ (List.mem_of_getElem? (i := 5) rfl))) (g := (mkF m 1 #[.val (.double pd), .second] [(.double pd)])) rfl (hb hby d1_1) _ ?_
    show Steps p.tables e below (s₁.setTop (mkF m 4 #[.val (.double pd), .second] [(.double (4503599627370496 : UInt64)), (.double pd)])) _
    refine XS.dcmpS X0.here hx rfl (hb hby d1_4) rfl hk4 ?_
    show Steps p.tables e below (s₁.setTop (mkF m 5 #[.val (.double pd), .second] [(.int k4)])) _
    exact k)
  by_cases q5 : k4 < 0
  · skip
    have r5 := u4.mp q5
    have c2 : ∀ t, Steps p.tables e below (s₁.setTop (mkF m 21 #[.val (.double pd), .second] [(.int (0 : Int32))])) t → Steps p.tables e below (s₁.setTop (entryFrame m #[(.double pd)] 2)) t := fun t k => c1 t (by
      show Steps p.tables e below (s₁.setTop (mkF m 5 #[.val (.double pd), .second] [(.int k4)])) _
      refine XS.ifYes X0.here hx rfl (pc0 := 5) (pc' := 20) rfl (hb hby d1_5) rfl (XT.i0_lt_t q5) (by decide) (by decide) ?_
      show Steps p.tables e below (s₁.setTop (mkF m 20 #[.val (.double pd), .second] [])) _
      refine XS.iconst X0.here hx rfl (hb hby d1_20) ?_
      show Steps p.tables e below (s₁.setTop (mkF m 21 #[.val (.double pd), .second] [(.int (0 : Int32))])) _
      exact k)
    obtain ⟨fs, hr, hrun, hended, hW, hsame⟩ := X0.leave (v := (some (.int (0 : Int32)))) (fun h => by rw [Bd.returns] at h; cases h)
    refine ⟨_, _, pre0 _ (c2 _ (retN X0 hx (t := .boolean) Bd.returns (by simp) (hb hby d1_21) hr)), hrun, hended, _, _, rfl, ?_, ⟨_, rfl⟩, hW, hsame.mono (by decide) (by decide)⟩
    show Q_1 Z pd h0 n0 _ s₁.heap _
    rw [e0]
    exact ⟨by rw [if_pos (Or.inl r5)], N0, rfl⟩
  · skip
    have r5 : ¬ zv pd < 2 ^ 52 := fun q => q5 (u4.mpr q)
    obtain ⟨k12, hk12⟩ : ∃ v : Int32, cmpValue (FP.dcmp pd (9218868437227405311 : UInt64)) .g = v := ⟨_, rfl⟩
    have u12 := cmp_pos hk12 fd nn_max
    rw [zv_max] at u12
    have c3 : ∀ t, Steps p.tables e below (s₁.setTop (mkF m 13 #[.val (.double pd), .second] [(.int k12)])) t → Steps p.tables e below (s₁.setTop (entryFrame m #[(.double pd)] 2)) t := fun t k => c1 t (by
      show Steps p.tables e below (s₁.setTop (mkF m 5 #[.val (.double pd), .second] [(.int k4)])) _
      refine XS.ifNo X0.here hx rfl (hb hby d1_5) rfl (XT.i0_lt_f q5) ?_
      show Steps p.tables e below (s₁.setTop (mkF m 8 #[.val (.double pd), .second] [])) _
      refine XS.dloadN X0.here hx rfl (hb hby d1_8) rfl ?_
      show Steps p.tables e below (s₁.setTop (mkF m 9 #[.val (.double pd), .second] [(.double pd)])) _
      refine Jvm.Stand.ldc2DoubleC X0 hx hown (mvT hZ (hw _ (List.mem_of_getElem? (i := 6) rfl))) (g := (mkF m 9 #[.val (.double pd), .second] [(.double pd)])) rfl (hb hby d1_9) _ ?_
      show Steps p.tables e below (s₁.setTop (mkF m 12 #[.val (.double pd), .second] [(.double (9218868437227405311 : UInt64)), (.double pd)])) _
      refine XS.dcmpS X0.here hx rfl (hb hby d1_12) rfl hk12 ?_
      show Steps p.tables e below (s₁.setTop (mkF m 13 #[.val (.double pd), .second] [(.int k12)])) _
      exact k)
    by_cases q13 : 0 < k12
    · skip
      have r13 := u12.mp q13
      have c4 : ∀ t, Steps p.tables e below (s₁.setTop (mkF m 21 #[.val (.double pd), .second] [(.int (0 : Int32))])) t → Steps p.tables e below (s₁.setTop (entryFrame m #[(.double pd)] 2)) t := fun t k => c3 t (by
        show Steps p.tables e below (s₁.setTop (mkF m 13 #[.val (.double pd), .second] [(.int k12)])) _
        refine XS.ifYes X0.here hx rfl (pc0 := 13) (pc' := 20) rfl (hb hby d1_13) rfl (XT.i0_gt_t q13) (by decide) (by decide) ?_
        show Steps p.tables e below (s₁.setTop (mkF m 20 #[.val (.double pd), .second] [])) _
        refine XS.iconst X0.here hx rfl (hb hby d1_20) ?_
        show Steps p.tables e below (s₁.setTop (mkF m 21 #[.val (.double pd), .second] [(.int (0 : Int32))])) _
        exact k)
      obtain ⟨fs, hr, hrun, hended, hW, hsame⟩ := X0.leave (v := (some (.int (0 : Int32)))) (fun h => by rw [Bd.returns] at h; cases h)
      refine ⟨_, _, pre0 _ (c4 _ (retN X0 hx (t := .boolean) Bd.returns (by simp) (hb hby d1_21) hr)), hrun, hended, _, _, rfl, ?_, ⟨_, rfl⟩, hW, hsame.mono (by decide) (by decide)⟩
      show Q_1 Z pd h0 n0 _ s₁.heap _
      rw [e0]
      exact ⟨by rw [if_pos (Or.inr r13)], N0, rfl⟩
    · skip
      have r13 : ¬ topZ < zv pd := fun q => q13 (u12.mpr q)
      have c5 : ∀ t, Steps p.tables e below (s₁.setTop (mkF m 21 #[.val (.double pd), .second] [(.int (1 : Int32))])) t → Steps p.tables e below (s₁.setTop (entryFrame m #[(.double pd)] 2)) t := fun t k => c3 t (by
        show Steps p.tables e below (s₁.setTop (mkF m 13 #[.val (.double pd), .second] [(.int k12)])) _
        refine XS.ifNo X0.here hx rfl (hb hby d1_13) rfl (XT.i0_gt_f q13) ?_
        show Steps p.tables e below (s₁.setTop (mkF m 16 #[.val (.double pd), .second] [])) _
        refine XS.iconst X0.here hx rfl (hb hby d1_16) ?_
        show Steps p.tables e below (s₁.setTop (mkF m 17 #[.val (.double pd), .second] [(.int (1 : Int32))])) _
        refine XS.goto X0.here hx rfl (pc0 := 17) (pc' := 21) rfl (hb hby d1_17) (by decide) (by decide) ?_
        show Steps p.tables e below (s₁.setTop (mkF m 21 #[.val (.double pd), .second] [(.int (1 : Int32))])) _
        exact k)
      obtain ⟨fs, hr, hrun, hended, hW, hsame⟩ := X0.leave (v := (some (.int (1 : Int32)))) (fun h => by rw [Bd.returns] at h; cases h)
      refine ⟨_, _, pre0 _ (c5 _ (retN X0 hx (t := .boolean) Bd.returns (by simp) (hb hby d1_21) hr)), hrun, hended, _, _, rfl, ?_, ⟨_, rfl⟩, hW, hsame.mono (by decide) (by decide)⟩
      show Q_1 Z pd h0 n0 _ s₁.heap _
      rw [e0]
      exact ⟨by rw [if_neg (fun q => q.elim r5 r13)], N0, rfl⟩
theorem ef_0 (m : MethodId) (px : Int64) (psel : Int32) : entryFrame m #[(.long px), (.int psel)] maxLocals = (mkF m 0 #[.val (.long px), .second, .val (.int psel), .unset, .unset, .unset, .unset, .unset, .unset, .unset, .unset, .unset, .unset] []) := by first | (simp [entryFrame, mkF, argsToLocals, Value.category, maxLocals]; done) | rfl
def Q_0 (Z : State) (px : Int64) (psel : Int32) (h0 : Heap) (n0 : Nat) (v : Option Value) (h : Heap) (L : List Loc) : Prop := v = some (.int 1) ∧ Fr n0 L
set_option maxRecDepth 65536 in
set_option maxHeartbeats 2000000 in
theorem rm_0 (l : Launch) (Z : State) (a0 : Array Value) (hw : ∀ d ∈ tables_1, d.before a0 Z = true) (ws : List Jvm.Cond) (px : Int64) (psel : Int32) (h0 : Heap) (n0 : Nat) (Z0 : n0 ≤ h0.size)  :
    MetFree l x (head1 (Jvm.Cond.code x code maxLocals ret :: ws) room_1) (fun aa UU => aa = #[(.long px), (.int psel)] ∧ Z.Warmed39 UU.vm ∧ UU.heap = h0) (fun _ _ _ _ _ => True) (fun _ UU oo UU' => ∃ v L, oo = .returned v ∧ Q_0 Z px psel h0 n0 v UU'.heap L ∧ FrameEnd UU oo UU' L 0 0) := by
  refine MetFree.of_bodySF (plainFor_of_name pn_com_example_detectability_detectability_QuantificationIsTotalPinLaw) hisR ?_
  intro p e s m args below meth c s₁ Bd hml0 hP hK
  obtain ⟨rfl, hZ, hh⟩ := hP
  have hx := Bd.exec
  have hby := Bd.bytes
  have hml : c.maxLocals = 13 := hml0
  have hown : s.vm.findClass "com/example/detectability/detectability/QuantificationIsTotalPinLaw" = some m.cls := findClass_of_methodNamed Bd.named
  have hnm := (name_of_methodNamed Bd.named Bd.method).1
  have X0 : Stand p l e room_1 s m #[(.long px), (.int psel)] below meth c s₁ [] 0 0 := Stand.of_body Bd
  have e0 : s₁.heap = h0 := by rw [← hh, Bd.state]; rfl
  have N0 := Fr.nil n0
  have pre0 : ∀ t, Steps p.tables e below (s₁.setTop (entryFrame m #[(.long px), (.int psel)] maxLocals)) t → Steps p.tables e below (s₁.setTop (entryFrame m #[(.long px), (.int psel)] maxLocals)) t := fun t k => k
  have c0 : ∀ t, Steps p.tables e below (s₁.setTop (mkF m 0 #[.val (.long px), .second, .val (.int psel), .unset, .unset, .unset, .unset, .unset, .unset, .unset, .unset, .unset, .unset] [])) t → Steps p.tables e below (s₁.setTop (entryFrame m #[(.long px), (.int psel)] maxLocals)) t := fun t k => castTop (ef_0 m px psel) k
  obtain ⟨mm, hmm⟩ : ∃ v : Int64, v = (px - (px / ((9007199254740992 : Int64) + (1 : Int64))) * ((9007199254740992 : Int64) + (1 : Int64))) := ⟨_, rfl⟩
  have c1 : ∀ t, Steps p.tables e below (s₁.setTop (mkF m 11 #[.val (.long px), .second, .val (.int psel), .val (.long (9007199254740992 : Int64)), .second, .val (.long mm), .second, .unset, .unset, .unset, .unset, .unset, .unset] [])) t → Steps p.tables e below (s₁.setTop (entryFrame m #[(.long px), (.int psel)] maxLocals)) t := fun t k => c0 t (by
    rw [hmm] at k
    show Steps p.tables e below (s₁.setTop (mkF m 0 #[.val (.long px), .second, .val (.int psel), .unset, .unset, .unset, .unset, .unset, .unset, .unset, .unset, .unset, .unset] [])) _
    refine Jvm.Stand.ldc2J X0 hx hown (mvT hZ (hw _ (List.mem_of_getElem? (i := 0) rfl))) rfl (hb hby at_0) ?_
    show Steps p.tables e below (s₁.setTop (mkF m 3 #[.val (.long px), .second, .val (.int psel), .unset, .unset, .unset, .unset, .unset, .unset, .unset, .unset, .unset, .unset] [(.long (9007199254740992 : Int64))])) _
    refine XT.lstoreN X0.here hx rfl (hb hby at_3) rfl (l' := #[.val (.long px), .second, .val (.int psel), .val (.long (9007199254740992 : Int64)), .second, .unset, .unset, .unset, .unset, .unset, .unset, .unset, .unset]) rfl ?_
    show Steps p.tables e below (s₁.setTop (mkF m 4 #[.val (.long px), .second, .val (.int psel), .val (.long (9007199254740992 : Int64)), .second, .unset, .unset, .unset, .unset, .unset, .unset, .unset, .unset] [])) _
    refine XT.lloadN X0.here hx rfl (hb hby at_4) rfl ?_
    show Steps p.tables e below (s₁.setTop (mkF m 5 #[.val (.long px), .second, .val (.int psel), .val (.long (9007199254740992 : Int64)), .second, .unset, .unset, .unset, .unset, .unset, .unset, .unset, .unset] [(.long px)])) _
    refine XT.lloadN X0.here hx rfl (hb hby at_5) rfl ?_
    show Steps p.tables e below (s₁.setTop (mkF m 6 #[.val (.long px), .second, .val (.int psel), .val (.long (9007199254740992 : Int64)), .second, .unset, .unset, .unset, .unset, .unset, .unset, .unset, .unset] [(.long (9007199254740992 : Int64)), (.long px)])) _
    refine XT.lconst X0.here hx rfl (hb hby at_6) ?_
    show Steps p.tables e below (s₁.setTop (mkF m 7 #[.val (.long px), .second, .val (.int psel), .val (.long (9007199254740992 : Int64)), .second, .unset, .unset, .unset, .unset, .unset, .unset, .unset, .unset] [(.long (1 : Int64)), (.long (9007199254740992 : Int64)), (.long px)])) _
    refine XT.ladd X0.here hx rfl (hb hby at_7) rfl ?_
    show Steps p.tables e below (s₁.setTop (mkF m 8 #[.val (.long px), .second, .val (.int psel), .val (.long (9007199254740992 : Int64)), .second, .unset, .unset, .unset, .unset, .unset, .unset, .unset, .unset] [(.long ((9007199254740992 : Int64) + (1 : Int64))), (.long px)])) _
    refine XT.lrem X0.here hx rfl (hb hby at_8) rfl (by decide) ?_
    show Steps p.tables e below (s₁.setTop (mkF m 9 #[.val (.long px), .second, .val (.int psel), .val (.long (9007199254740992 : Int64)), .second, .unset, .unset, .unset, .unset, .unset, .unset, .unset, .unset] [(.long (px - (px / ((9007199254740992 : Int64) + (1 : Int64))) * ((9007199254740992 : Int64) + (1 : Int64))))])) _
    refine XT.lstore X0.here hx rfl (hb hby at_9) rfl (l' := #[.val (.long px), .second, .val (.int psel), .val (.long (9007199254740992 : Int64)), .second, .val (.long (px - (px / ((9007199254740992 : Int64) + (1 : Int64))) * ((9007199254740992 : Int64) + (1 : Int64)))), .second, .unset, .unset, .unset, .unset, .unset, .unset]) rfl ?_
    show Steps p.tables e below (s₁.setTop (mkF m 11 #[.val (.long px), .second, .val (.int psel), .val (.long (9007199254740992 : Int64)), .second, .val (.long (px - (px / ((9007199254740992 : Int64) + (1 : Int64))) * ((9007199254740992 : Int64) + (1 : Int64)))), .second, .unset, .unset, .unset, .unset, .unset, .unset] [])) _
    exact k)
  obtain ⟨m1, m2⟩ := mm_k hmm
  obtain ⟨dm, hdm⟩ : ∃ v : UInt64, FP.l2d mm = v := ⟨_, rfl⟩
  obtain ⟨cc, hcc⟩ : ∃ v : Int32, v = (psel &&& (3 : Int32)) := ⟨_, rfl⟩
  have c2 : ∀ t, Steps p.tables e below (s₁.setTop (mkF m 21 #[.val (.long px), .second, .val (.int psel), .val (.long (9007199254740992 : Int64)), .second, .val (.long mm), .second, .val (.double dm), .second, .val (.int cc), .unset, .unset, .unset] [])) t → Steps p.tables e below (s₁.setTop (entryFrame m #[(.long px), (.int psel)] maxLocals)) t := fun t k => c1 t (by
    rw [hcc] at k
    show Steps p.tables e below (s₁.setTop (mkF m 11 #[.val (.long px), .second, .val (.int psel), .val (.long (9007199254740992 : Int64)), .second, .val (.long mm), .second, .unset, .unset, .unset, .unset, .unset, .unset] [])) _
    refine XT.lload X0.here hx rfl (hb hby at_11) rfl ?_
    show Steps p.tables e below (s₁.setTop (mkF m 13 #[.val (.long px), .second, .val (.int psel), .val (.long (9007199254740992 : Int64)), .second, .val (.long mm), .second, .unset, .unset, .unset, .unset, .unset, .unset] [(.long mm)])) _
    refine XS.l2dS X0.here hx rfl (hb hby at_13) rfl hdm ?_
    show Steps p.tables e below (s₁.setTop (mkF m 14 #[.val (.long px), .second, .val (.int psel), .val (.long (9007199254740992 : Int64)), .second, .val (.long mm), .second, .unset, .unset, .unset, .unset, .unset, .unset] [(.double dm)])) _
    refine XS.dstore X0.here hx rfl (hb hby at_14) rfl (l' := #[.val (.long px), .second, .val (.int psel), .val (.long (9007199254740992 : Int64)), .second, .val (.long mm), .second, .val (.double dm), .second, .unset, .unset, .unset, .unset]) rfl ?_
    show Steps p.tables e below (s₁.setTop (mkF m 16 #[.val (.long px), .second, .val (.int psel), .val (.long (9007199254740992 : Int64)), .second, .val (.long mm), .second, .val (.double dm), .second, .unset, .unset, .unset, .unset] [])) _
    refine XS.iloadN X0.here hx rfl (hb hby at_16) rfl ?_
    show Steps p.tables e below (s₁.setTop (mkF m 17 #[.val (.long px), .second, .val (.int psel), .val (.long (9007199254740992 : Int64)), .second, .val (.long mm), .second, .val (.double dm), .second, .unset, .unset, .unset, .unset] [(.int psel)])) _
    refine XS.iconst X0.here hx rfl (hb hby at_17) ?_
    show Steps p.tables e below (s₁.setTop (mkF m 18 #[.val (.long px), .second, .val (.int psel), .val (.long (9007199254740992 : Int64)), .second, .val (.long mm), .second, .val (.double dm), .second, .unset, .unset, .unset, .unset] [(.int (3 : Int32)), (.int psel)])) _
    refine XS.iand X0.here hx rfl (hb hby at_18) rfl ?_
    show Steps p.tables e below (s₁.setTop (mkF m 19 #[.val (.long px), .second, .val (.int psel), .val (.long (9007199254740992 : Int64)), .second, .val (.long mm), .second, .val (.double dm), .second, .unset, .unset, .unset, .unset] [(.int (psel &&& (3 : Int32)))])) _
    refine XS.istore X0.here hx rfl (hb hby at_19) rfl (l' := #[.val (.long px), .second, .val (.int psel), .val (.long (9007199254740992 : Int64)), .second, .val (.long mm), .second, .val (.double dm), .second, .val (.int (psel &&& (3 : Int32))), .unset, .unset, .unset]) rfl ?_
    show Steps p.tables e below (s₁.setTop (mkF m 21 #[.val (.long px), .second, .val (.int psel), .val (.long (9007199254740992 : Int64)), .second, .val (.long mm), .second, .val (.double dm), .second, .val (.int (psel &&& (3 : Int32))), .unset, .unset, .unset] [])) _
    exact k)
  have c3 : ∀ t, Steps p.tables e below (s₁.setTop (mkF m 23 #[.val (.long px), .second, .val (.int psel), .val (.long (9007199254740992 : Int64)), .second, .val (.long mm), .second, .val (.double dm), .second, .val (.int cc), .unset, .unset, .unset] [(.int cc)])) t → Steps p.tables e below (s₁.setTop (entryFrame m #[(.long px), (.int psel)] maxLocals)) t := fun t k => c2 t (by
    show Steps p.tables e below (s₁.setTop (mkF m 21 #[.val (.long px), .second, .val (.int psel), .val (.long (9007199254740992 : Int64)), .second, .val (.long mm), .second, .val (.double dm), .second, .val (.int cc), .unset, .unset, .unset] [])) _
    refine XS.iload X0.here hx rfl (hb hby at_21) rfl ?_
    show Steps p.tables e below (s₁.setTop (mkF m 23 #[.val (.long px), .second, .val (.int psel), .val (.long (9007199254740992 : Int64)), .second, .val (.long mm), .second, .val (.double dm), .second, .val (.int cc), .unset, .unset, .unset] [(.int cc)])) _
    exact k)
  by_cases q23 : cc = 0
  · skip
    obtain ⟨d31, hd31⟩ : ∃ v : UInt64, FP.dmul dm (1 : UInt64) = v := ⟨_, rfl⟩
    obtain ⟨nd, zd⟩ := c0_k m1 m2 hdm hd31
    have c4 : ∀ t, Steps p.tables e below (s₁.setTop (mkF m 40 #[.val (.long px), .second, .val (.int psel), .val (.long (9007199254740992 : Int64)), .second, .val (.long mm), .second, .val (.double dm), .second, .val (.int cc), .val (.double d31), .second, .unset] [(.int (XT.cmpL mm (4503599627370496 : Int64)))])) t → Steps p.tables e below (s₁.setTop (entryFrame m #[(.long px), (.int psel)] maxLocals)) t := fun t k => c3 t (by
      show Steps p.tables e below (s₁.setTop (mkF m 23 #[.val (.long px), .second, .val (.int psel), .val (.long (9007199254740992 : Int64)), .second, .val (.long mm), .second, .val (.double dm), .second, .val (.int cc), .unset, .unset, .unset] [(.int cc)])) _
      refine XS.ifNo X0.here hx rfl (hb hby at_23) rfl (XT.i0_ne_f q23) ?_
      show Steps p.tables e below (s₁.setTop (mkF m 26 #[.val (.long px), .second, .val (.int psel), .val (.long (9007199254740992 : Int64)), .second, .val (.long mm), .second, .val (.double dm), .second, .val (.int cc), .unset, .unset, .unset] [])) _
      refine XS.dload X0.here hx rfl (hb hby at_26) rfl ?_
      show Steps p.tables e below (s₁.setTop (mkF m 28 #[.val (.long px), .second, .val (.int psel), .val (.long (9007199254740992 : Int64)), .second, .val (.long mm), .second, .val (.double dm), .second, .val (.int cc), .unset, .unset, .unset] [(.double dm)])) _
      refine Jvm.Stand.ldc2DoubleC X0 hx hown (mvT hZ (hw _ (List.mem_of_getElem? (i := 7) rfl))) (g := (mkF m 28 #[.val (.long px), .second, .val (.int psel), .val (.long (9007199254740992 : Int64)), .second, .val (.long mm), .second, .val (.double dm), .second, .val (.int cc), .unset, .unset, .unset] [(.double dm)])) rfl (hb hby at_28) _ ?_
      show Steps p.tables e below (s₁.setTop (mkF m 31 #[.val (.long px), .second, .val (.int psel), .val (.long (9007199254740992 : Int64)), .second, .val (.long mm), .second, .val (.double dm), .second, .val (.int cc), .unset, .unset, .unset] [(.double (1 : UInt64)), (.double dm)])) _
      refine XS.dmulS X0.here hx rfl (hb hby at_31) rfl (hd31 ▸ noNaN_of nd) hd31 ?_
      show Steps p.tables e below (s₁.setTop (mkF m 32 #[.val (.long px), .second, .val (.int psel), .val (.long (9007199254740992 : Int64)), .second, .val (.long mm), .second, .val (.double dm), .second, .val (.int cc), .unset, .unset, .unset] [(.double d31)])) _
      refine XS.dstore X0.here hx rfl (hb hby at_32) rfl (l' := #[.val (.long px), .second, .val (.int psel), .val (.long (9007199254740992 : Int64)), .second, .val (.long mm), .second, .val (.double dm), .second, .val (.int cc), .val (.double d31), .second, .unset]) rfl ?_
      show Steps p.tables e below (s₁.setTop (mkF m 34 #[.val (.long px), .second, .val (.int psel), .val (.long (9007199254740992 : Int64)), .second, .val (.long mm), .second, .val (.double dm), .second, .val (.int cc), .val (.double d31), .second, .unset] [])) _
      refine XT.lload X0.here hx rfl (hb hby at_34) rfl ?_
      show Steps p.tables e below (s₁.setTop (mkF m 36 #[.val (.long px), .second, .val (.int psel), .val (.long (9007199254740992 : Int64)), .second, .val (.long mm), .second, .val (.double dm), .second, .val (.int cc), .val (.double d31), .second, .unset] [(.long mm)])) _
      refine Jvm.Stand.ldc2J X0 hx hown (mvT hZ (hw _ (List.mem_of_getElem? (i := 8) rfl))) rfl (hb hby at_36) ?_
      show Steps p.tables e below (s₁.setTop (mkF m 39 #[.val (.long px), .second, .val (.int psel), .val (.long (9007199254740992 : Int64)), .second, .val (.long mm), .second, .val (.double dm), .second, .val (.int cc), .val (.double d31), .second, .unset] [(.long (4503599627370496 : Int64)), (.long mm)])) _
      refine XT.lcmp X0.here hx rfl (hb hby at_39) rfl ?_
      show Steps p.tables e below (s₁.setTop (mkF m 40 #[.val (.long px), .second, .val (.int psel), .val (.long (9007199254740992 : Int64)), .second, .val (.long mm), .second, .val (.double dm), .second, .val (.int cc), .val (.double d31), .second, .unset] [(.int (XT.cmpL mm (4503599627370496 : Int64)))])) _
      exact k)
    obtain ⟨ex, hex⟩ : ∃ v : Int32, v = (if mm < (4503599627370496 : Int64) then (0 : Int32) else (1 : Int32)) := ⟨_, rfl⟩
    have c5 : ∀ t, Steps p.tables e below (s₁.setTop (mkF m 48 #[.val (.long px), .second, .val (.int psel), .val (.long (9007199254740992 : Int64)), .second, .val (.long mm), .second, .val (.double dm), .second, .val (.int cc), .val (.double d31), .second, .unset] [(.int ex)])) t → Steps p.tables e below (s₁.setTop (entryFrame m #[(.long px), (.int psel)] maxLocals)) t := fun t k => c4 t (by
      rw [hex] at k
      show Steps p.tables e below (s₁.setTop (mkF m 40 #[.val (.long px), .second, .val (.int psel), .val (.long (9007199254740992 : Int64)), .second, .val (.long mm), .second, .val (.double dm), .second, .val (.int cc), .val (.double d31), .second, .unset] [(.int (XT.cmpL mm (4503599627370496 : Int64)))])) _
      by_cases q40_0 : mm < (4503599627370496 : Int64)
      · try simp only [if_pos q40_0] at k
        refine XS.ifYes X0.here hx rfl (pc0 := 40) (pc' := 47) rfl (hb hby at_40) rfl (XT.ll_lt_t q40_0) (by decide) (by decide) ?_
        show Steps p.tables e below (s₁.setTop (mkF m 47 #[.val (.long px), .second, .val (.int psel), .val (.long (9007199254740992 : Int64)), .second, .val (.long mm), .second, .val (.double dm), .second, .val (.int cc), .val (.double d31), .second, .unset] [])) _
        refine XS.iconst X0.here hx rfl (hb hby at_47) ?_
        show Steps p.tables e below (s₁.setTop (mkF m 48 #[.val (.long px), .second, .val (.int psel), .val (.long (9007199254740992 : Int64)), .second, .val (.long mm), .second, .val (.double dm), .second, .val (.int cc), .val (.double d31), .second, .unset] [(.int (0 : Int32))])) _
        exact k
      · try simp only [if_neg q40_0] at k
        refine XS.ifNo X0.here hx rfl (hb hby at_40) rfl (XT.ll_lt_f q40_0) ?_
        show Steps p.tables e below (s₁.setTop (mkF m 43 #[.val (.long px), .second, .val (.int psel), .val (.long (9007199254740992 : Int64)), .second, .val (.long mm), .second, .val (.double dm), .second, .val (.int cc), .val (.double d31), .second, .unset] [])) _
        refine XS.iconst X0.here hx rfl (hb hby at_43) ?_
        show Steps p.tables e below (s₁.setTop (mkF m 44 #[.val (.long px), .second, .val (.int psel), .val (.long (9007199254740992 : Int64)), .second, .val (.long mm), .second, .val (.double dm), .second, .val (.int cc), .val (.double d31), .second, .unset] [(.int (1 : Int32))])) _
        refine XS.goto X0.here hx rfl (pc0 := 44) (pc' := 48) rfl (hb hby at_44) (by decide) (by decide) ?_
        show Steps p.tables e below (s₁.setTop (mkF m 48 #[.val (.long px), .second, .val (.int psel), .val (.long (9007199254740992 : Int64)), .second, .val (.long mm), .second, .val (.double dm), .second, .val (.int cc), .val (.double d31), .second, .unset] [(.int (1 : Int32))])) _
        exact k)
    have kd := e0_k m1 m2 zd
    have c6 : ∀ t, Steps p.tables e below (s₁.setTop (mkF m 153 #[.val (.long px), .second, .val (.int psel), .val (.long (9007199254740992 : Int64)), .second, .val (.long mm), .second, .val (.double dm), .second, .val (.int cc), .val (.double d31), .second, .val (.int ex)] [(.double d31)])) t → Steps p.tables e below (s₁.setTop (entryFrame m #[(.long px), (.int psel)] maxLocals)) t := fun t k => c5 t (by
      show Steps p.tables e below (s₁.setTop (mkF m 48 #[.val (.long px), .second, .val (.int psel), .val (.long (9007199254740992 : Int64)), .second, .val (.long mm), .second, .val (.double dm), .second, .val (.int cc), .val (.double d31), .second, .unset] [(.int ex)])) _
      refine XS.istore X0.here hx rfl (hb hby at_48) rfl (l' := #[.val (.long px), .second, .val (.int psel), .val (.long (9007199254740992 : Int64)), .second, .val (.long mm), .second, .val (.double dm), .second, .val (.int cc), .val (.double d31), .second, .val (.int ex)]) rfl ?_
      show Steps p.tables e below (s₁.setTop (mkF m 50 #[.val (.long px), .second, .val (.int psel), .val (.long (9007199254740992 : Int64)), .second, .val (.long mm), .second, .val (.double dm), .second, .val (.int cc), .val (.double d31), .second, .val (.int ex)] [])) _
      refine XS.goto X0.here hx rfl (pc0 := 50) (pc' := 151) rfl (hb hby at_50) (by decide) (by decide) ?_
      show Steps p.tables e below (s₁.setTop (mkF m 151 #[.val (.long px), .second, .val (.int psel), .val (.long (9007199254740992 : Int64)), .second, .val (.long mm), .second, .val (.double dm), .second, .val (.int cc), .val (.double d31), .second, .val (.int ex)] [])) _
      refine XS.dload X0.here hx rfl (hb hby at_151) rfl ?_
      show Steps p.tables e below (s₁.setTop (mkF m 153 #[.val (.long px), .second, .val (.int psel), .val (.long (9007199254740992 : Int64)), .second, .val (.long mm), .second, .val (.double dm), .second, .val (.int cc), .val (.double d31), .second, .val (.int ex)] [(.double d31)])) _
      exact k)
    obtain ⟨_, _, ⟨T7, L7, k7', n7⟩, -, X7, ⟨Lc7, hQ7, l7, y7, z7⟩, st7⟩ := Jvm.LawKit.callS X0 hx (y := (⟨"com/example/detectability/detectability/Quantification", "isTotal", "(D)Z"⟩ : MethodName)) hown (mvT hZ (hw _ (List.mem_of_getElem? (i := 1) rfl))) (mvT hZ (hw _ (List.mem_of_getElem? (i := 2) rfl))) (mvT hZ (hw _ (List.mem_of_getElem? (i := 3) rfl))) (mvT hZ (hw _ (List.mem_of_getElem? (i := 4) rfl))) (by decide) (backOf (W := 0) (rm_1 l Z a0 hw [] d31 h0 n0 Z0 nd) hZ (hw _ (List.mem_of_getElem? (i := 4) rfl)) (hw _ (List.mem_of_getElem? (i := 3) rfl)) (by decide) (by decide)) (g := (mkF m 153 #[.val (.long px), .second, .val (.int psel), .val (.long (9007199254740992 : Int64)), .second, .val (.long mm), .second, .val (.double dm), .second, .val (.int cc), .val (.double d31), .second, .val (.int ex)] [(.double d31)])) rfl (by rw [hml]; rfl) (argsL := [(.double d31)]) (rest := []) (lenOf pd__D_Z rfl) rfl (by show 2 * 0 + _ ≤ _; exact Nat.le_of_eq rfl) (hb hby at_153) (fun _ _ => ⟨rfl, e0, (by decide : 0 + 0 ≤ _), (by decide : 0 + 0 ≤ _)⟩)
    dsimp only [Pt.U, Pt.locs, Pt.cells, Pt.slots] at X7 l7 y7 z7 st7 hQ7
    subst l7 y7 z7
    obtain ⟨rfl, N7, e7⟩ := hQ7
    have M7 := Fr.app N0 N7
    have c8 : ∀ t, Steps p.tables e below (T7.setTop (mkF m 156 #[.val (.long px), .second, .val (.int psel), .val (.long (9007199254740992 : Int64)), .second, .val (.long mm), .second, .val (.double dm), .second, .val (.int cc), .val (.double d31), .second, .val (.int ex)] [(.int (if zv d31 < 2 ^ 52 ∨ topZ < zv d31 then (0 : Int32) else 1))])) t → Steps p.tables e below (s₁.setTop (entryFrame m #[(.long px), (.int psel)] maxLocals)) t := fun t k => c6 t (st7 _ k)
    have c9 : ∀ t, Steps p.tables e below (T7.setTop (mkF m 166 #[.val (.long px), .second, .val (.int psel), .val (.long (9007199254740992 : Int64)), .second, .val (.long mm), .second, .val (.double dm), .second, .val (.int cc), .val (.double d31), .second, .val (.int ex)] [(.int (1 : Int32))])) t → Steps p.tables e below (s₁.setTop (entryFrame m #[(.long px), (.int psel)] maxLocals)) t := fun t k => c8 t (by
      show Steps p.tables e below (T7.setTop (mkF m 156 #[.val (.long px), .second, .val (.int psel), .val (.long (9007199254740992 : Int64)), .second, .val (.long mm), .second, .val (.double dm), .second, .val (.int cc), .val (.double d31), .second, .val (.int ex)] [(.int (if zv d31 < 2 ^ 52 ∨ topZ < zv d31 then (0 : Int32) else 1))])) _
      refine XS.iload X7.here hx rfl (hb hby at_156) rfl ?_
      show Steps p.tables e below (T7.setTop (mkF m 158 #[.val (.long px), .second, .val (.int psel), .val (.long (9007199254740992 : Int64)), .second, .val (.long mm), .second, .val (.double dm), .second, .val (.int cc), .val (.double d31), .second, .val (.int ex)] [(.int ex), (.int (if zv d31 < 2 ^ 52 ∨ topZ < zv d31 then (0 : Int32) else 1))])) _
      refine XS.icmpNo X7.here hx rfl (hb hby at_158) rfl (XT.ii_ne_f (kd.trans hex.symm)) ?_
      show Steps p.tables e below (T7.setTop (mkF m 161 #[.val (.long px), .second, .val (.int psel), .val (.long (9007199254740992 : Int64)), .second, .val (.long mm), .second, .val (.double dm), .second, .val (.int cc), .val (.double d31), .second, .val (.int ex)] [])) _
      refine XS.iconst X7.here hx rfl (hb hby at_161) ?_
      show Steps p.tables e below (T7.setTop (mkF m 162 #[.val (.long px), .second, .val (.int psel), .val (.long (9007199254740992 : Int64)), .second, .val (.long mm), .second, .val (.double dm), .second, .val (.int cc), .val (.double d31), .second, .val (.int ex)] [(.int (1 : Int32))])) _
      refine XS.goto X7.here hx rfl (pc0 := 162) (pc' := 166) rfl (hb hby at_162) (by decide) (by decide) ?_
      show Steps p.tables e below (T7.setTop (mkF m 166 #[.val (.long px), .second, .val (.int psel), .val (.long (9007199254740992 : Int64)), .second, .val (.long mm), .second, .val (.double dm), .second, .val (.int cc), .val (.double d31), .second, .val (.int ex)] [(.int (1 : Int32))])) _
      exact k)
    obtain ⟨fs, hr, hrun, hended, hW, hsame⟩ := X7.leave (v := (some (.int (1 : Int32)))) (fun h => by rw [Bd.returns] at h; cases h)
    refine ⟨_, _, pre0 _ (c9 _ (retN X7 hx (t := .boolean) Bd.returns (by simp) (hb hby at_166) hr)), hrun, hended, _, _, rfl, ?_, ⟨_, rfl⟩, hW, hsame.mono (by decide) (by decide)⟩
    show Q_0 Z px psel h0 n0 _ T7.heap _
    rw [e7]
    exact ⟨rfl, M7⟩
  · skip
    have c10 : ∀ t, Steps p.tables e below (s₁.setTop (mkF m 56 #[.val (.long px), .second, .val (.int psel), .val (.long (9007199254740992 : Int64)), .second, .val (.long mm), .second, .val (.double dm), .second, .val (.int cc), .unset, .unset, .unset] [(.int (1 : Int32)), (.int cc)])) t → Steps p.tables e below (s₁.setTop (entryFrame m #[(.long px), (.int psel)] maxLocals)) t := fun t k => c3 t (by
      show Steps p.tables e below (s₁.setTop (mkF m 23 #[.val (.long px), .second, .val (.int psel), .val (.long (9007199254740992 : Int64)), .second, .val (.long mm), .second, .val (.double dm), .second, .val (.int cc), .unset, .unset, .unset] [(.int cc)])) _
      refine XS.ifYes X0.here hx rfl (pc0 := 23) (pc' := 53) rfl (hb hby at_23) rfl (XT.i0_ne_t q23) (by decide) (by decide) ?_
      show Steps p.tables e below (s₁.setTop (mkF m 53 #[.val (.long px), .second, .val (.int psel), .val (.long (9007199254740992 : Int64)), .second, .val (.long mm), .second, .val (.double dm), .second, .val (.int cc), .unset, .unset, .unset] [])) _
      refine XS.iload X0.here hx rfl (hb hby at_53) rfl ?_
      show Steps p.tables e below (s₁.setTop (mkF m 55 #[.val (.long px), .second, .val (.int psel), .val (.long (9007199254740992 : Int64)), .second, .val (.long mm), .second, .val (.double dm), .second, .val (.int cc), .unset, .unset, .unset] [(.int cc)])) _
      refine XS.iconst X0.here hx rfl (hb hby at_55) ?_
      show Steps p.tables e below (s₁.setTop (mkF m 56 #[.val (.long px), .second, .val (.int psel), .val (.long (9007199254740992 : Int64)), .second, .val (.long mm), .second, .val (.double dm), .second, .val (.int cc), .unset, .unset, .unset] [(.int (1 : Int32)), (.int cc)])) _
      exact k)
    by_cases q56 : cc = (1 : Int32)
    · skip
      obtain ⟨d64, hd64⟩ : ∃ v : UInt64, FP.dmul dm (8980177656976769024 : UInt64) = v := ⟨_, rfl⟩
      obtain ⟨nd, zd⟩ := c1_k m1 m2 hdm hd64
      have c11 : ∀ t, Steps p.tables e below (s₁.setTop (mkF m 71 #[.val (.long px), .second, .val (.int psel), .val (.long (9007199254740992 : Int64)), .second, .val (.long mm), .second, .val (.double dm), .second, .val (.int cc), .val (.double d64), .second, .unset] [(.int (XT.cmpL mm (1 : Int64)))])) t → Steps p.tables e below (s₁.setTop (entryFrame m #[(.long px), (.int psel)] maxLocals)) t := fun t k => c10 t (by
        show Steps p.tables e below (s₁.setTop (mkF m 56 #[.val (.long px), .second, .val (.int psel), .val (.long (9007199254740992 : Int64)), .second, .val (.long mm), .second, .val (.double dm), .second, .val (.int cc), .unset, .unset, .unset] [(.int (1 : Int32)), (.int cc)])) _
        refine XS.icmpNo X0.here hx rfl (hb hby at_56) rfl (XT.ii_ne_f q56) ?_
        show Steps p.tables e below (s₁.setTop (mkF m 59 #[.val (.long px), .second, .val (.int psel), .val (.long (9007199254740992 : Int64)), .second, .val (.long mm), .second, .val (.double dm), .second, .val (.int cc), .unset, .unset, .unset] [])) _
        refine XS.dload X0.here hx rfl (hb hby at_59) rfl ?_
        show Steps p.tables e below (s₁.setTop (mkF m 61 #[.val (.long px), .second, .val (.int psel), .val (.long (9007199254740992 : Int64)), .second, .val (.long mm), .second, .val (.double dm), .second, .val (.int cc), .unset, .unset, .unset] [(.double dm)])) _
        refine Jvm.Stand.ldc2DoubleC X0 hx hown (mvT hZ (hw _ (List.mem_of_getElem? (i := 9) rfl))) (g := (mkF m 61 #[.val (.long px), .second, .val (.int psel), .val (.long (9007199254740992 : Int64)), .second, .val (.long mm), .second, .val (.double dm), .second, .val (.int cc), .unset, .unset, .unset] [(.double dm)])) rfl (hb hby at_61) _ ?_
        show Steps p.tables e below (s₁.setTop (mkF m 64 #[.val (.long px), .second, .val (.int psel), .val (.long (9007199254740992 : Int64)), .second, .val (.long mm), .second, .val (.double dm), .second, .val (.int cc), .unset, .unset, .unset] [(.double (8980177656976769024 : UInt64)), (.double dm)])) _
        refine XS.dmulS X0.here hx rfl (hb hby at_64) rfl (hd64 ▸ noNaN_of nd) hd64 ?_
        show Steps p.tables e below (s₁.setTop (mkF m 65 #[.val (.long px), .second, .val (.int psel), .val (.long (9007199254740992 : Int64)), .second, .val (.long mm), .second, .val (.double dm), .second, .val (.int cc), .unset, .unset, .unset] [(.double d64)])) _
        refine XS.dstore X0.here hx rfl (hb hby at_65) rfl (l' := #[.val (.long px), .second, .val (.int psel), .val (.long (9007199254740992 : Int64)), .second, .val (.long mm), .second, .val (.double dm), .second, .val (.int cc), .val (.double d64), .second, .unset]) rfl ?_
        show Steps p.tables e below (s₁.setTop (mkF m 67 #[.val (.long px), .second, .val (.int psel), .val (.long (9007199254740992 : Int64)), .second, .val (.long mm), .second, .val (.double dm), .second, .val (.int cc), .val (.double d64), .second, .unset] [])) _
        refine XT.lload X0.here hx rfl (hb hby at_67) rfl ?_
        show Steps p.tables e below (s₁.setTop (mkF m 69 #[.val (.long px), .second, .val (.int psel), .val (.long (9007199254740992 : Int64)), .second, .val (.long mm), .second, .val (.double dm), .second, .val (.int cc), .val (.double d64), .second, .unset] [(.long mm)])) _
        refine XT.lconst X0.here hx rfl (hb hby at_69) ?_
        show Steps p.tables e below (s₁.setTop (mkF m 70 #[.val (.long px), .second, .val (.int psel), .val (.long (9007199254740992 : Int64)), .second, .val (.long mm), .second, .val (.double dm), .second, .val (.int cc), .val (.double d64), .second, .unset] [(.long (1 : Int64)), (.long mm)])) _
        refine XT.lcmp X0.here hx rfl (hb hby at_70) rfl ?_
        show Steps p.tables e below (s₁.setTop (mkF m 71 #[.val (.long px), .second, .val (.int psel), .val (.long (9007199254740992 : Int64)), .second, .val (.long mm), .second, .val (.double dm), .second, .val (.int cc), .val (.double d64), .second, .unset] [(.int (XT.cmpL mm (1 : Int64)))])) _
        exact k)
      obtain ⟨ex, hex⟩ : ∃ v : Int32, v = (if mm < (1 : Int64) then (0 : Int32) else (if mm < (9007199254740992 : Int64) then (1 : Int32) else (0 : Int32))) := ⟨_, rfl⟩
      have c12 : ∀ t, Steps p.tables e below (s₁.setTop (mkF m 86 #[.val (.long px), .second, .val (.int psel), .val (.long (9007199254740992 : Int64)), .second, .val (.long mm), .second, .val (.double dm), .second, .val (.int cc), .val (.double d64), .second, .unset] [(.int ex)])) t → Steps p.tables e below (s₁.setTop (entryFrame m #[(.long px), (.int psel)] maxLocals)) t := fun t k => c11 t (by
        rw [hex] at k
        show Steps p.tables e below (s₁.setTop (mkF m 71 #[.val (.long px), .second, .val (.int psel), .val (.long (9007199254740992 : Int64)), .second, .val (.long mm), .second, .val (.double dm), .second, .val (.int cc), .val (.double d64), .second, .unset] [(.int (XT.cmpL mm (1 : Int64)))])) _
        by_cases q71_0 : mm < (1 : Int64)
        · try simp only [if_pos q71_0] at k
          refine XS.ifYes X0.here hx rfl (pc0 := 71) (pc' := 85) rfl (hb hby at_71) rfl (XT.ll_lt_t q71_0) (by decide) (by decide) ?_
          show Steps p.tables e below (s₁.setTop (mkF m 85 #[.val (.long px), .second, .val (.int psel), .val (.long (9007199254740992 : Int64)), .second, .val (.long mm), .second, .val (.double dm), .second, .val (.int cc), .val (.double d64), .second, .unset] [])) _
          refine XS.iconst X0.here hx rfl (hb hby at_85) ?_
          show Steps p.tables e below (s₁.setTop (mkF m 86 #[.val (.long px), .second, .val (.int psel), .val (.long (9007199254740992 : Int64)), .second, .val (.long mm), .second, .val (.double dm), .second, .val (.int cc), .val (.double d64), .second, .unset] [(.int (0 : Int32))])) _
          exact k
        · try simp only [if_neg q71_0] at k
          refine XS.ifNo X0.here hx rfl (hb hby at_71) rfl (XT.ll_lt_f q71_0) ?_
          show Steps p.tables e below (s₁.setTop (mkF m 74 #[.val (.long px), .second, .val (.int psel), .val (.long (9007199254740992 : Int64)), .second, .val (.long mm), .second, .val (.double dm), .second, .val (.int cc), .val (.double d64), .second, .unset] [])) _
          refine XT.lload X0.here hx rfl (hb hby at_74) rfl ?_
          show Steps p.tables e below (s₁.setTop (mkF m 76 #[.val (.long px), .second, .val (.int psel), .val (.long (9007199254740992 : Int64)), .second, .val (.long mm), .second, .val (.double dm), .second, .val (.int cc), .val (.double d64), .second, .unset] [(.long mm)])) _
          refine XT.lloadN X0.here hx rfl (hb hby at_76) rfl ?_
          show Steps p.tables e below (s₁.setTop (mkF m 77 #[.val (.long px), .second, .val (.int psel), .val (.long (9007199254740992 : Int64)), .second, .val (.long mm), .second, .val (.double dm), .second, .val (.int cc), .val (.double d64), .second, .unset] [(.long (9007199254740992 : Int64)), (.long mm)])) _
          refine XT.lcmp X0.here hx rfl (hb hby at_77) rfl ?_
          show Steps p.tables e below (s₁.setTop (mkF m 78 #[.val (.long px), .second, .val (.int psel), .val (.long (9007199254740992 : Int64)), .second, .val (.long mm), .second, .val (.double dm), .second, .val (.int cc), .val (.double d64), .second, .unset] [(.int (XT.cmpL mm (9007199254740992 : Int64)))])) _
          by_cases q78_1 : mm < (9007199254740992 : Int64)
          · try simp only [if_pos q78_1] at k
            refine XS.ifNo X0.here hx rfl (hb hby at_78) rfl (XT.ll_ge_f q78_1) ?_
            show Steps p.tables e below (s₁.setTop (mkF m 81 #[.val (.long px), .second, .val (.int psel), .val (.long (9007199254740992 : Int64)), .second, .val (.long mm), .second, .val (.double dm), .second, .val (.int cc), .val (.double d64), .second, .unset] [])) _
            refine XS.iconst X0.here hx rfl (hb hby at_81) ?_
            show Steps p.tables e below (s₁.setTop (mkF m 82 #[.val (.long px), .second, .val (.int psel), .val (.long (9007199254740992 : Int64)), .second, .val (.long mm), .second, .val (.double dm), .second, .val (.int cc), .val (.double d64), .second, .unset] [(.int (1 : Int32))])) _
            refine XS.goto X0.here hx rfl (pc0 := 82) (pc' := 86) rfl (hb hby at_82) (by decide) (by decide) ?_
            show Steps p.tables e below (s₁.setTop (mkF m 86 #[.val (.long px), .second, .val (.int psel), .val (.long (9007199254740992 : Int64)), .second, .val (.long mm), .second, .val (.double dm), .second, .val (.int cc), .val (.double d64), .second, .unset] [(.int (1 : Int32))])) _
            exact k
          · try simp only [if_neg q78_1] at k
            refine XS.ifYes X0.here hx rfl (pc0 := 78) (pc' := 85) rfl (hb hby at_78) rfl (XT.ll_ge_t q78_1) (by decide) (by decide) ?_
            show Steps p.tables e below (s₁.setTop (mkF m 85 #[.val (.long px), .second, .val (.int psel), .val (.long (9007199254740992 : Int64)), .second, .val (.long mm), .second, .val (.double dm), .second, .val (.int cc), .val (.double d64), .second, .unset] [])) _
            refine XS.iconst X0.here hx rfl (hb hby at_85) ?_
            show Steps p.tables e below (s₁.setTop (mkF m 86 #[.val (.long px), .second, .val (.int psel), .val (.long (9007199254740992 : Int64)), .second, .val (.long mm), .second, .val (.double dm), .second, .val (.int cc), .val (.double d64), .second, .unset] [(.int (0 : Int32))])) _
            exact k)
      have kd := e1_k m1 m2 zd
      have c13 : ∀ t, Steps p.tables e below (s₁.setTop (mkF m 153 #[.val (.long px), .second, .val (.int psel), .val (.long (9007199254740992 : Int64)), .second, .val (.long mm), .second, .val (.double dm), .second, .val (.int cc), .val (.double d64), .second, .val (.int ex)] [(.double d64)])) t → Steps p.tables e below (s₁.setTop (entryFrame m #[(.long px), (.int psel)] maxLocals)) t := fun t k => c12 t (by
        show Steps p.tables e below (s₁.setTop (mkF m 86 #[.val (.long px), .second, .val (.int psel), .val (.long (9007199254740992 : Int64)), .second, .val (.long mm), .second, .val (.double dm), .second, .val (.int cc), .val (.double d64), .second, .unset] [(.int ex)])) _
        refine XS.istore X0.here hx rfl (hb hby at_86) rfl (l' := #[.val (.long px), .second, .val (.int psel), .val (.long (9007199254740992 : Int64)), .second, .val (.long mm), .second, .val (.double dm), .second, .val (.int cc), .val (.double d64), .second, .val (.int ex)]) rfl ?_
        show Steps p.tables e below (s₁.setTop (mkF m 88 #[.val (.long px), .second, .val (.int psel), .val (.long (9007199254740992 : Int64)), .second, .val (.long mm), .second, .val (.double dm), .second, .val (.int cc), .val (.double d64), .second, .val (.int ex)] [])) _
        refine XS.goto X0.here hx rfl (pc0 := 88) (pc' := 151) rfl (hb hby at_88) (by decide) (by decide) ?_
        show Steps p.tables e below (s₁.setTop (mkF m 151 #[.val (.long px), .second, .val (.int psel), .val (.long (9007199254740992 : Int64)), .second, .val (.long mm), .second, .val (.double dm), .second, .val (.int cc), .val (.double d64), .second, .val (.int ex)] [])) _
        refine XS.dload X0.here hx rfl (hb hby at_151) rfl ?_
        show Steps p.tables e below (s₁.setTop (mkF m 153 #[.val (.long px), .second, .val (.int psel), .val (.long (9007199254740992 : Int64)), .second, .val (.long mm), .second, .val (.double dm), .second, .val (.int cc), .val (.double d64), .second, .val (.int ex)] [(.double d64)])) _
        exact k)
      obtain ⟨_, _, ⟨T14, L14, k14', n14⟩, -, X14, ⟨Lc14, hQ14, l14, y14, z14⟩, st14⟩ := Jvm.LawKit.callS X0 hx (y := (⟨"com/example/detectability/detectability/Quantification", "isTotal", "(D)Z"⟩ : MethodName)) hown (mvT hZ (hw _ (List.mem_of_getElem? (i := 1) rfl))) (mvT hZ (hw _ (List.mem_of_getElem? (i := 2) rfl))) (mvT hZ (hw _ (List.mem_of_getElem? (i := 3) rfl))) (mvT hZ (hw _ (List.mem_of_getElem? (i := 4) rfl))) (by decide) (backOf (W := 0) (rm_1 l Z a0 hw [] d64 h0 n0 Z0 nd) hZ (hw _ (List.mem_of_getElem? (i := 4) rfl)) (hw _ (List.mem_of_getElem? (i := 3) rfl)) (by decide) (by decide)) (g := (mkF m 153 #[.val (.long px), .second, .val (.int psel), .val (.long (9007199254740992 : Int64)), .second, .val (.long mm), .second, .val (.double dm), .second, .val (.int cc), .val (.double d64), .second, .val (.int ex)] [(.double d64)])) rfl (by rw [hml]; rfl) (argsL := [(.double d64)]) (rest := []) (lenOf pd__D_Z rfl) rfl (by show 2 * 0 + _ ≤ _; exact Nat.le_of_eq rfl) (hb hby at_153) (fun _ _ => ⟨rfl, e0, (by decide : 0 + 0 ≤ _), (by decide : 0 + 0 ≤ _)⟩)
      dsimp only [Pt.U, Pt.locs, Pt.cells, Pt.slots] at X14 l14 y14 z14 st14 hQ14
      subst l14 y14 z14
      obtain ⟨rfl, N14, e14⟩ := hQ14
      have M14 := Fr.app N0 N14
      have c15 : ∀ t, Steps p.tables e below (T14.setTop (mkF m 156 #[.val (.long px), .second, .val (.int psel), .val (.long (9007199254740992 : Int64)), .second, .val (.long mm), .second, .val (.double dm), .second, .val (.int cc), .val (.double d64), .second, .val (.int ex)] [(.int (if zv d64 < 2 ^ 52 ∨ topZ < zv d64 then (0 : Int32) else 1))])) t → Steps p.tables e below (s₁.setTop (entryFrame m #[(.long px), (.int psel)] maxLocals)) t := fun t k => c13 t (st14 _ k)
      have c16 : ∀ t, Steps p.tables e below (T14.setTop (mkF m 166 #[.val (.long px), .second, .val (.int psel), .val (.long (9007199254740992 : Int64)), .second, .val (.long mm), .second, .val (.double dm), .second, .val (.int cc), .val (.double d64), .second, .val (.int ex)] [(.int (1 : Int32))])) t → Steps p.tables e below (s₁.setTop (entryFrame m #[(.long px), (.int psel)] maxLocals)) t := fun t k => c15 t (by
        show Steps p.tables e below (T14.setTop (mkF m 156 #[.val (.long px), .second, .val (.int psel), .val (.long (9007199254740992 : Int64)), .second, .val (.long mm), .second, .val (.double dm), .second, .val (.int cc), .val (.double d64), .second, .val (.int ex)] [(.int (if zv d64 < 2 ^ 52 ∨ topZ < zv d64 then (0 : Int32) else 1))])) _
        refine XS.iload X14.here hx rfl (hb hby at_156) rfl ?_
        show Steps p.tables e below (T14.setTop (mkF m 158 #[.val (.long px), .second, .val (.int psel), .val (.long (9007199254740992 : Int64)), .second, .val (.long mm), .second, .val (.double dm), .second, .val (.int cc), .val (.double d64), .second, .val (.int ex)] [(.int ex), (.int (if zv d64 < 2 ^ 52 ∨ topZ < zv d64 then (0 : Int32) else 1))])) _
        refine XS.icmpNo X14.here hx rfl (hb hby at_158) rfl (XT.ii_ne_f (kd.trans hex.symm)) ?_
        show Steps p.tables e below (T14.setTop (mkF m 161 #[.val (.long px), .second, .val (.int psel), .val (.long (9007199254740992 : Int64)), .second, .val (.long mm), .second, .val (.double dm), .second, .val (.int cc), .val (.double d64), .second, .val (.int ex)] [])) _
        refine XS.iconst X14.here hx rfl (hb hby at_161) ?_
        show Steps p.tables e below (T14.setTop (mkF m 162 #[.val (.long px), .second, .val (.int psel), .val (.long (9007199254740992 : Int64)), .second, .val (.long mm), .second, .val (.double dm), .second, .val (.int cc), .val (.double d64), .second, .val (.int ex)] [(.int (1 : Int32))])) _
        refine XS.goto X14.here hx rfl (pc0 := 162) (pc' := 166) rfl (hb hby at_162) (by decide) (by decide) ?_
        show Steps p.tables e below (T14.setTop (mkF m 166 #[.val (.long px), .second, .val (.int psel), .val (.long (9007199254740992 : Int64)), .second, .val (.long mm), .second, .val (.double dm), .second, .val (.int cc), .val (.double d64), .second, .val (.int ex)] [(.int (1 : Int32))])) _
        exact k)
      obtain ⟨fs, hr, hrun, hended, hW, hsame⟩ := X14.leave (v := (some (.int (1 : Int32)))) (fun h => by rw [Bd.returns] at h; cases h)
      refine ⟨_, _, pre0 _ (c16 _ (retN X14 hx (t := .boolean) Bd.returns (by simp) (hb hby at_166) hr)), hrun, hended, _, _, rfl, ?_, ⟨_, rfl⟩, hW, hsame.mono (by decide) (by decide)⟩
      show Q_0 Z px psel h0 n0 _ T14.heap _
      rw [e14]
      exact ⟨rfl, M14⟩
    · skip
      have c17 : ∀ t, Steps p.tables e below (s₁.setTop (mkF m 94 #[.val (.long px), .second, .val (.int psel), .val (.long (9007199254740992 : Int64)), .second, .val (.long mm), .second, .val (.double dm), .second, .val (.int cc), .unset, .unset, .unset] [(.int (2 : Int32)), (.int cc)])) t → Steps p.tables e below (s₁.setTop (entryFrame m #[(.long px), (.int psel)] maxLocals)) t := fun t k => c10 t (by
        show Steps p.tables e below (s₁.setTop (mkF m 56 #[.val (.long px), .second, .val (.int psel), .val (.long (9007199254740992 : Int64)), .second, .val (.long mm), .second, .val (.double dm), .second, .val (.int cc), .unset, .unset, .unset] [(.int (1 : Int32)), (.int cc)])) _
        refine XS.icmpYes X0.here hx rfl (pc0 := 56) (pc' := 91) rfl (hb hby at_56) rfl (XT.ii_ne_t q56) (by decide) (by decide) ?_
        show Steps p.tables e below (s₁.setTop (mkF m 91 #[.val (.long px), .second, .val (.int psel), .val (.long (9007199254740992 : Int64)), .second, .val (.long mm), .second, .val (.double dm), .second, .val (.int cc), .unset, .unset, .unset] [])) _
        refine XS.iload X0.here hx rfl (hb hby at_91) rfl ?_
        show Steps p.tables e below (s₁.setTop (mkF m 93 #[.val (.long px), .second, .val (.int psel), .val (.long (9007199254740992 : Int64)), .second, .val (.long mm), .second, .val (.double dm), .second, .val (.int cc), .unset, .unset, .unset] [(.int cc)])) _
        refine XS.iconst X0.here hx rfl (hb hby at_93) ?_
        show Steps p.tables e below (s₁.setTop (mkF m 94 #[.val (.long px), .second, .val (.int psel), .val (.long (9007199254740992 : Int64)), .second, .val (.long mm), .second, .val (.double dm), .second, .val (.int cc), .unset, .unset, .unset] [(.int (2 : Int32)), (.int cc)])) _
        exact k)
      by_cases q94 : cc = (2 : Int32)
      · skip
        obtain ⟨fdm, zd0⟩ := dm_k m1 m2
        have nd : Core.val64 dm ≠ .nan := by rw [← hdm]; exact notNan fdm
        have zd : zv dm = mm.toInt * U := by rw [← hdm]; exact zd0
        have c18 : ∀ t, Steps p.tables e below (s₁.setTop (mkF m 105 #[.val (.long px), .second, .val (.int psel), .val (.long (9007199254740992 : Int64)), .second, .val (.long mm), .second, .val (.double dm), .second, .val (.int cc), .val (.double dm), .second, .unset] [(.int (XT.cmpL mm (1 : Int64)))])) t → Steps p.tables e below (s₁.setTop (entryFrame m #[(.long px), (.int psel)] maxLocals)) t := fun t k => c17 t (by
          show Steps p.tables e below (s₁.setTop (mkF m 94 #[.val (.long px), .second, .val (.int psel), .val (.long (9007199254740992 : Int64)), .second, .val (.long mm), .second, .val (.double dm), .second, .val (.int cc), .unset, .unset, .unset] [(.int (2 : Int32)), (.int cc)])) _
          refine XS.icmpNo X0.here hx rfl (hb hby at_94) rfl (XT.ii_ne_f q94) ?_
          show Steps p.tables e below (s₁.setTop (mkF m 97 #[.val (.long px), .second, .val (.int psel), .val (.long (9007199254740992 : Int64)), .second, .val (.long mm), .second, .val (.double dm), .second, .val (.int cc), .unset, .unset, .unset] [])) _
          refine XS.dload X0.here hx rfl (hb hby at_97) rfl ?_
          show Steps p.tables e below (s₁.setTop (mkF m 99 #[.val (.long px), .second, .val (.int psel), .val (.long (9007199254740992 : Int64)), .second, .val (.long mm), .second, .val (.double dm), .second, .val (.int cc), .unset, .unset, .unset] [(.double dm)])) _
          refine XS.dstore X0.here hx rfl (hb hby at_99) rfl (l' := #[.val (.long px), .second, .val (.int psel), .val (.long (9007199254740992 : Int64)), .second, .val (.long mm), .second, .val (.double dm), .second, .val (.int cc), .val (.double dm), .second, .unset]) rfl ?_
          show Steps p.tables e below (s₁.setTop (mkF m 101 #[.val (.long px), .second, .val (.int psel), .val (.long (9007199254740992 : Int64)), .second, .val (.long mm), .second, .val (.double dm), .second, .val (.int cc), .val (.double dm), .second, .unset] [])) _
          refine XT.lload X0.here hx rfl (hb hby at_101) rfl ?_
          show Steps p.tables e below (s₁.setTop (mkF m 103 #[.val (.long px), .second, .val (.int psel), .val (.long (9007199254740992 : Int64)), .second, .val (.long mm), .second, .val (.double dm), .second, .val (.int cc), .val (.double dm), .second, .unset] [(.long mm)])) _
          refine XT.lconst X0.here hx rfl (hb hby at_103) ?_
          show Steps p.tables e below (s₁.setTop (mkF m 104 #[.val (.long px), .second, .val (.int psel), .val (.long (9007199254740992 : Int64)), .second, .val (.long mm), .second, .val (.double dm), .second, .val (.int cc), .val (.double dm), .second, .unset] [(.long (1 : Int64)), (.long mm)])) _
          refine XT.lcmp X0.here hx rfl (hb hby at_104) rfl ?_
          show Steps p.tables e below (s₁.setTop (mkF m 105 #[.val (.long px), .second, .val (.int psel), .val (.long (9007199254740992 : Int64)), .second, .val (.long mm), .second, .val (.double dm), .second, .val (.int cc), .val (.double dm), .second, .unset] [(.int (XT.cmpL mm (1 : Int64)))])) _
          exact k)
        obtain ⟨ex, hex⟩ : ∃ v : Int32, v = (if mm < (1 : Int64) then (0 : Int32) else (1 : Int32)) := ⟨_, rfl⟩
        have c19 : ∀ t, Steps p.tables e below (s₁.setTop (mkF m 113 #[.val (.long px), .second, .val (.int psel), .val (.long (9007199254740992 : Int64)), .second, .val (.long mm), .second, .val (.double dm), .second, .val (.int cc), .val (.double dm), .second, .unset] [(.int ex)])) t → Steps p.tables e below (s₁.setTop (entryFrame m #[(.long px), (.int psel)] maxLocals)) t := fun t k => c18 t (by
          rw [hex] at k
          show Steps p.tables e below (s₁.setTop (mkF m 105 #[.val (.long px), .second, .val (.int psel), .val (.long (9007199254740992 : Int64)), .second, .val (.long mm), .second, .val (.double dm), .second, .val (.int cc), .val (.double dm), .second, .unset] [(.int (XT.cmpL mm (1 : Int64)))])) _
          by_cases q105_0 : mm < (1 : Int64)
          · try simp only [if_pos q105_0] at k
            refine XS.ifYes X0.here hx rfl (pc0 := 105) (pc' := 112) rfl (hb hby at_105) rfl (XT.ll_lt_t q105_0) (by decide) (by decide) ?_
            show Steps p.tables e below (s₁.setTop (mkF m 112 #[.val (.long px), .second, .val (.int psel), .val (.long (9007199254740992 : Int64)), .second, .val (.long mm), .second, .val (.double dm), .second, .val (.int cc), .val (.double dm), .second, .unset] [])) _
            refine XS.iconst X0.here hx rfl (hb hby at_112) ?_
            show Steps p.tables e below (s₁.setTop (mkF m 113 #[.val (.long px), .second, .val (.int psel), .val (.long (9007199254740992 : Int64)), .second, .val (.long mm), .second, .val (.double dm), .second, .val (.int cc), .val (.double dm), .second, .unset] [(.int (0 : Int32))])) _
            exact k
          · try simp only [if_neg q105_0] at k
            refine XS.ifNo X0.here hx rfl (hb hby at_105) rfl (XT.ll_lt_f q105_0) ?_
            show Steps p.tables e below (s₁.setTop (mkF m 108 #[.val (.long px), .second, .val (.int psel), .val (.long (9007199254740992 : Int64)), .second, .val (.long mm), .second, .val (.double dm), .second, .val (.int cc), .val (.double dm), .second, .unset] [])) _
            refine XS.iconst X0.here hx rfl (hb hby at_108) ?_
            show Steps p.tables e below (s₁.setTop (mkF m 109 #[.val (.long px), .second, .val (.int psel), .val (.long (9007199254740992 : Int64)), .second, .val (.long mm), .second, .val (.double dm), .second, .val (.int cc), .val (.double dm), .second, .unset] [(.int (1 : Int32))])) _
            refine XS.goto X0.here hx rfl (pc0 := 109) (pc' := 113) rfl (hb hby at_109) (by decide) (by decide) ?_
            show Steps p.tables e below (s₁.setTop (mkF m 113 #[.val (.long px), .second, .val (.int psel), .val (.long (9007199254740992 : Int64)), .second, .val (.long mm), .second, .val (.double dm), .second, .val (.int cc), .val (.double dm), .second, .unset] [(.int (1 : Int32))])) _
            exact k)
        have kd := e2_k m1 m2 zd
        have c20 : ∀ t, Steps p.tables e below (s₁.setTop (mkF m 153 #[.val (.long px), .second, .val (.int psel), .val (.long (9007199254740992 : Int64)), .second, .val (.long mm), .second, .val (.double dm), .second, .val (.int cc), .val (.double dm), .second, .val (.int ex)] [(.double dm)])) t → Steps p.tables e below (s₁.setTop (entryFrame m #[(.long px), (.int psel)] maxLocals)) t := fun t k => c19 t (by
          show Steps p.tables e below (s₁.setTop (mkF m 113 #[.val (.long px), .second, .val (.int psel), .val (.long (9007199254740992 : Int64)), .second, .val (.long mm), .second, .val (.double dm), .second, .val (.int cc), .val (.double dm), .second, .unset] [(.int ex)])) _
          refine XS.istore X0.here hx rfl (hb hby at_113) rfl (l' := #[.val (.long px), .second, .val (.int psel), .val (.long (9007199254740992 : Int64)), .second, .val (.long mm), .second, .val (.double dm), .second, .val (.int cc), .val (.double dm), .second, .val (.int ex)]) rfl ?_
          show Steps p.tables e below (s₁.setTop (mkF m 115 #[.val (.long px), .second, .val (.int psel), .val (.long (9007199254740992 : Int64)), .second, .val (.long mm), .second, .val (.double dm), .second, .val (.int cc), .val (.double dm), .second, .val (.int ex)] [])) _
          refine XS.goto X0.here hx rfl (pc0 := 115) (pc' := 151) rfl (hb hby at_115) (by decide) (by decide) ?_
          show Steps p.tables e below (s₁.setTop (mkF m 151 #[.val (.long px), .second, .val (.int psel), .val (.long (9007199254740992 : Int64)), .second, .val (.long mm), .second, .val (.double dm), .second, .val (.int cc), .val (.double dm), .second, .val (.int ex)] [])) _
          refine XS.dload X0.here hx rfl (hb hby at_151) rfl ?_
          show Steps p.tables e below (s₁.setTop (mkF m 153 #[.val (.long px), .second, .val (.int psel), .val (.long (9007199254740992 : Int64)), .second, .val (.long mm), .second, .val (.double dm), .second, .val (.int cc), .val (.double dm), .second, .val (.int ex)] [(.double dm)])) _
          exact k)
        obtain ⟨_, _, ⟨T21, L21, k21', n21⟩, -, X21, ⟨Lc21, hQ21, l21, y21, z21⟩, st21⟩ := Jvm.LawKit.callS X0 hx (y := (⟨"com/example/detectability/detectability/Quantification", "isTotal", "(D)Z"⟩ : MethodName)) hown (mvT hZ (hw _ (List.mem_of_getElem? (i := 1) rfl))) (mvT hZ (hw _ (List.mem_of_getElem? (i := 2) rfl))) (mvT hZ (hw _ (List.mem_of_getElem? (i := 3) rfl))) (mvT hZ (hw _ (List.mem_of_getElem? (i := 4) rfl))) (by decide) (backOf (W := 0) (rm_1 l Z a0 hw [] dm h0 n0 Z0 nd) hZ (hw _ (List.mem_of_getElem? (i := 4) rfl)) (hw _ (List.mem_of_getElem? (i := 3) rfl)) (by decide) (by decide)) (g := (mkF m 153 #[.val (.long px), .second, .val (.int psel), .val (.long (9007199254740992 : Int64)), .second, .val (.long mm), .second, .val (.double dm), .second, .val (.int cc), .val (.double dm), .second, .val (.int ex)] [(.double dm)])) rfl (by rw [hml]; rfl) (argsL := [(.double dm)]) (rest := []) (lenOf pd__D_Z rfl) rfl (by show 2 * 0 + _ ≤ _; exact Nat.le_of_eq rfl) (hb hby at_153) (fun _ _ => ⟨rfl, e0, (by decide : 0 + 0 ≤ _), (by decide : 0 + 0 ≤ _)⟩)
        dsimp only [Pt.U, Pt.locs, Pt.cells, Pt.slots] at X21 l21 y21 z21 st21 hQ21
        subst l21 y21 z21
        obtain ⟨rfl, N21, e21⟩ := hQ21
        have M21 := Fr.app N0 N21
        have c22 : ∀ t, Steps p.tables e below (T21.setTop (mkF m 156 #[.val (.long px), .second, .val (.int psel), .val (.long (9007199254740992 : Int64)), .second, .val (.long mm), .second, .val (.double dm), .second, .val (.int cc), .val (.double dm), .second, .val (.int ex)] [(.int (if zv dm < 2 ^ 52 ∨ topZ < zv dm then (0 : Int32) else 1))])) t → Steps p.tables e below (s₁.setTop (entryFrame m #[(.long px), (.int psel)] maxLocals)) t := fun t k => c20 t (st21 _ k)
        have c23 : ∀ t, Steps p.tables e below (T21.setTop (mkF m 166 #[.val (.long px), .second, .val (.int psel), .val (.long (9007199254740992 : Int64)), .second, .val (.long mm), .second, .val (.double dm), .second, .val (.int cc), .val (.double dm), .second, .val (.int ex)] [(.int (1 : Int32))])) t → Steps p.tables e below (s₁.setTop (entryFrame m #[(.long px), (.int psel)] maxLocals)) t := fun t k => c22 t (by
          show Steps p.tables e below (T21.setTop (mkF m 156 #[.val (.long px), .second, .val (.int psel), .val (.long (9007199254740992 : Int64)), .second, .val (.long mm), .second, .val (.double dm), .second, .val (.int cc), .val (.double dm), .second, .val (.int ex)] [(.int (if zv dm < 2 ^ 52 ∨ topZ < zv dm then (0 : Int32) else 1))])) _
          refine XS.iload X21.here hx rfl (hb hby at_156) rfl ?_
          show Steps p.tables e below (T21.setTop (mkF m 158 #[.val (.long px), .second, .val (.int psel), .val (.long (9007199254740992 : Int64)), .second, .val (.long mm), .second, .val (.double dm), .second, .val (.int cc), .val (.double dm), .second, .val (.int ex)] [(.int ex), (.int (if zv dm < 2 ^ 52 ∨ topZ < zv dm then (0 : Int32) else 1))])) _
          refine XS.icmpNo X21.here hx rfl (hb hby at_158) rfl (XT.ii_ne_f (kd.trans hex.symm)) ?_
          show Steps p.tables e below (T21.setTop (mkF m 161 #[.val (.long px), .second, .val (.int psel), .val (.long (9007199254740992 : Int64)), .second, .val (.long mm), .second, .val (.double dm), .second, .val (.int cc), .val (.double dm), .second, .val (.int ex)] [])) _
          refine XS.iconst X21.here hx rfl (hb hby at_161) ?_
          show Steps p.tables e below (T21.setTop (mkF m 162 #[.val (.long px), .second, .val (.int psel), .val (.long (9007199254740992 : Int64)), .second, .val (.long mm), .second, .val (.double dm), .second, .val (.int cc), .val (.double dm), .second, .val (.int ex)] [(.int (1 : Int32))])) _
          refine XS.goto X21.here hx rfl (pc0 := 162) (pc' := 166) rfl (hb hby at_162) (by decide) (by decide) ?_
          show Steps p.tables e below (T21.setTop (mkF m 166 #[.val (.long px), .second, .val (.int psel), .val (.long (9007199254740992 : Int64)), .second, .val (.long mm), .second, .val (.double dm), .second, .val (.int cc), .val (.double dm), .second, .val (.int ex)] [(.int (1 : Int32))])) _
          exact k)
        obtain ⟨fs, hr, hrun, hended, hW, hsame⟩ := X21.leave (v := (some (.int (1 : Int32)))) (fun h => by rw [Bd.returns] at h; cases h)
        refine ⟨_, _, pre0 _ (c23 _ (retN X21 hx (t := .boolean) Bd.returns (by simp) (hb hby at_166) hr)), hrun, hended, _, _, rfl, ?_, ⟨_, rfl⟩, hW, hsame.mono (by decide) (by decide)⟩
        show Q_0 Z px psel h0 n0 _ T21.heap _
        rw [e21]
        exact ⟨rfl, M21⟩
      · skip
        obtain ⟨d123, hd123⟩ : ∃ v : UInt64, FP.dmul dm (8980177656976769024 : UInt64) = v := ⟨_, rfl⟩
        obtain ⟨nd0, zd0⟩ := c1_k m1 m2 hdm hd123
        obtain ⟨d124, hd124⟩ : ∃ v : UInt64, FP.dneg d123 = v := ⟨_, rfl⟩
        have nd : Core.val64 d124 ≠ .nan := by rw [← hd124, FP.val64_dneg]; exact Core.negate_ne_nan nd0
        have zd : zv d124 = -(mm.toInt * bigZ) := by rw [← hd124, zv_dneg, zd0]
        have c24 : ∀ t, Steps p.tables e below (s₁.setTop (mkF m 133 #[.val (.long px), .second, .val (.int psel), .val (.long (9007199254740992 : Int64)), .second, .val (.long mm), .second, .val (.double dm), .second, .val (.int cc), .val (.double d124), .second, .unset] [(.int (XT.cmpL mm (-1 : Int64)))])) t → Steps p.tables e below (s₁.setTop (entryFrame m #[(.long px), (.int psel)] maxLocals)) t := fun t k => c17 t (by
          show Steps p.tables e below (s₁.setTop (mkF m 94 #[.val (.long px), .second, .val (.int psel), .val (.long (9007199254740992 : Int64)), .second, .val (.long mm), .second, .val (.double dm), .second, .val (.int cc), .unset, .unset, .unset] [(.int (2 : Int32)), (.int cc)])) _
          refine XS.icmpYes X0.here hx rfl (pc0 := 94) (pc' := 118) rfl (hb hby at_94) rfl (XT.ii_ne_t q94) (by decide) (by decide) ?_
          show Steps p.tables e below (s₁.setTop (mkF m 118 #[.val (.long px), .second, .val (.int psel), .val (.long (9007199254740992 : Int64)), .second, .val (.long mm), .second, .val (.double dm), .second, .val (.int cc), .unset, .unset, .unset] [])) _
          refine XS.dload X0.here hx rfl (hb hby at_118) rfl ?_
          show Steps p.tables e below (s₁.setTop (mkF m 120 #[.val (.long px), .second, .val (.int psel), .val (.long (9007199254740992 : Int64)), .second, .val (.long mm), .second, .val (.double dm), .second, .val (.int cc), .unset, .unset, .unset] [(.double dm)])) _
          refine Jvm.Stand.ldc2DoubleC X0 hx hown (mvT hZ (hw _ (List.mem_of_getElem? (i := 9) rfl))) (g := (mkF m 120 #[.val (.long px), .second, .val (.int psel), .val (.long (9007199254740992 : Int64)), .second, .val (.long mm), .second, .val (.double dm), .second, .val (.int cc), .unset, .unset, .unset] [(.double dm)])) rfl (hb hby at_120) _ ?_
          show Steps p.tables e below (s₁.setTop (mkF m 123 #[.val (.long px), .second, .val (.int psel), .val (.long (9007199254740992 : Int64)), .second, .val (.long mm), .second, .val (.double dm), .second, .val (.int cc), .unset, .unset, .unset] [(.double (8980177656976769024 : UInt64)), (.double dm)])) _
          refine XS.dmulS X0.here hx rfl (hb hby at_123) rfl (hd123 ▸ noNaN_of nd0) hd123 ?_
          show Steps p.tables e below (s₁.setTop (mkF m 124 #[.val (.long px), .second, .val (.int psel), .val (.long (9007199254740992 : Int64)), .second, .val (.long mm), .second, .val (.double dm), .second, .val (.int cc), .unset, .unset, .unset] [(.double d123)])) _
          refine XS.dnegS X0.here hx rfl (hb hby at_124) rfl hd124 ?_
          show Steps p.tables e below (s₁.setTop (mkF m 125 #[.val (.long px), .second, .val (.int psel), .val (.long (9007199254740992 : Int64)), .second, .val (.long mm), .second, .val (.double dm), .second, .val (.int cc), .unset, .unset, .unset] [(.double d124)])) _
          refine XS.dstore X0.here hx rfl (hb hby at_125) rfl (l' := #[.val (.long px), .second, .val (.int psel), .val (.long (9007199254740992 : Int64)), .second, .val (.long mm), .second, .val (.double dm), .second, .val (.int cc), .val (.double d124), .second, .unset]) rfl ?_
          show Steps p.tables e below (s₁.setTop (mkF m 127 #[.val (.long px), .second, .val (.int psel), .val (.long (9007199254740992 : Int64)), .second, .val (.long mm), .second, .val (.double dm), .second, .val (.int cc), .val (.double d124), .second, .unset] [])) _
          refine XT.lload X0.here hx rfl (hb hby at_127) rfl ?_
          show Steps p.tables e below (s₁.setTop (mkF m 129 #[.val (.long px), .second, .val (.int psel), .val (.long (9007199254740992 : Int64)), .second, .val (.long mm), .second, .val (.double dm), .second, .val (.int cc), .val (.double d124), .second, .unset] [(.long mm)])) _
          refine Jvm.Stand.ldc2J X0 hx hown (mvT hZ (hw _ (List.mem_of_getElem? (i := 10) rfl))) rfl (hb hby at_129) ?_
          show Steps p.tables e below (s₁.setTop (mkF m 132 #[.val (.long px), .second, .val (.int psel), .val (.long (9007199254740992 : Int64)), .second, .val (.long mm), .second, .val (.double dm), .second, .val (.int cc), .val (.double d124), .second, .unset] [(.long (-1 : Int64)), (.long mm)])) _
          refine XT.lcmp X0.here hx rfl (hb hby at_132) rfl ?_
          show Steps p.tables e below (s₁.setTop (mkF m 133 #[.val (.long px), .second, .val (.int psel), .val (.long (9007199254740992 : Int64)), .second, .val (.long mm), .second, .val (.double dm), .second, .val (.int cc), .val (.double d124), .second, .unset] [(.int (XT.cmpL mm (-1 : Int64)))])) _
          exact k)
        obtain ⟨ex, hex⟩ : ∃ v : Int32, v = (if (-1 : Int64) < mm then (0 : Int32) else (if (-(9007199254740992 : Int64)) < mm then (1 : Int32) else (0 : Int32))) := ⟨_, rfl⟩
        have c25 : ∀ t, Steps p.tables e below (s₁.setTop (mkF m 149 #[.val (.long px), .second, .val (.int psel), .val (.long (9007199254740992 : Int64)), .second, .val (.long mm), .second, .val (.double dm), .second, .val (.int cc), .val (.double d124), .second, .unset] [(.int ex)])) t → Steps p.tables e below (s₁.setTop (entryFrame m #[(.long px), (.int psel)] maxLocals)) t := fun t k => c24 t (by
          rw [hex] at k
          show Steps p.tables e below (s₁.setTop (mkF m 133 #[.val (.long px), .second, .val (.int psel), .val (.long (9007199254740992 : Int64)), .second, .val (.long mm), .second, .val (.double dm), .second, .val (.int cc), .val (.double d124), .second, .unset] [(.int (XT.cmpL mm (-1 : Int64)))])) _
          by_cases q133_0 : (-1 : Int64) < mm
          · try simp only [if_pos q133_0] at k
            refine XS.ifYes X0.here hx rfl (pc0 := 133) (pc' := 148) rfl (hb hby at_133) rfl (XT.ll_gt_t q133_0) (by decide) (by decide) ?_
            show Steps p.tables e below (s₁.setTop (mkF m 148 #[.val (.long px), .second, .val (.int psel), .val (.long (9007199254740992 : Int64)), .second, .val (.long mm), .second, .val (.double dm), .second, .val (.int cc), .val (.double d124), .second, .unset] [])) _
            refine XS.iconst X0.here hx rfl (hb hby at_148) ?_
            show Steps p.tables e below (s₁.setTop (mkF m 149 #[.val (.long px), .second, .val (.int psel), .val (.long (9007199254740992 : Int64)), .second, .val (.long mm), .second, .val (.double dm), .second, .val (.int cc), .val (.double d124), .second, .unset] [(.int (0 : Int32))])) _
            exact k
          · try simp only [if_neg q133_0] at k
            refine XS.ifNo X0.here hx rfl (hb hby at_133) rfl (XT.ll_gt_f q133_0) ?_
            show Steps p.tables e below (s₁.setTop (mkF m 136 #[.val (.long px), .second, .val (.int psel), .val (.long (9007199254740992 : Int64)), .second, .val (.long mm), .second, .val (.double dm), .second, .val (.int cc), .val (.double d124), .second, .unset] [])) _
            refine XT.lload X0.here hx rfl (hb hby at_136) rfl ?_
            show Steps p.tables e below (s₁.setTop (mkF m 138 #[.val (.long px), .second, .val (.int psel), .val (.long (9007199254740992 : Int64)), .second, .val (.long mm), .second, .val (.double dm), .second, .val (.int cc), .val (.double d124), .second, .unset] [(.long mm)])) _
            refine XT.lloadN X0.here hx rfl (hb hby at_138) rfl ?_
            show Steps p.tables e below (s₁.setTop (mkF m 139 #[.val (.long px), .second, .val (.int psel), .val (.long (9007199254740992 : Int64)), .second, .val (.long mm), .second, .val (.double dm), .second, .val (.int cc), .val (.double d124), .second, .unset] [(.long (9007199254740992 : Int64)), (.long mm)])) _
            refine XT.lneg X0.here hx rfl (hb hby at_139) rfl ?_
            show Steps p.tables e below (s₁.setTop (mkF m 140 #[.val (.long px), .second, .val (.int psel), .val (.long (9007199254740992 : Int64)), .second, .val (.long mm), .second, .val (.double dm), .second, .val (.int cc), .val (.double d124), .second, .unset] [(.long (-(9007199254740992 : Int64))), (.long mm)])) _
            refine XT.lcmp X0.here hx rfl (hb hby at_140) rfl ?_
            show Steps p.tables e below (s₁.setTop (mkF m 141 #[.val (.long px), .second, .val (.int psel), .val (.long (9007199254740992 : Int64)), .second, .val (.long mm), .second, .val (.double dm), .second, .val (.int cc), .val (.double d124), .second, .unset] [(.int (XT.cmpL mm (-(9007199254740992 : Int64))))])) _
            by_cases q141_1 : (-(9007199254740992 : Int64)) < mm
            · try simp only [if_pos q141_1] at k
              refine XS.ifNo X0.here hx rfl (hb hby at_141) rfl (XT.ll_le_f q141_1) ?_
              show Steps p.tables e below (s₁.setTop (mkF m 144 #[.val (.long px), .second, .val (.int psel), .val (.long (9007199254740992 : Int64)), .second, .val (.long mm), .second, .val (.double dm), .second, .val (.int cc), .val (.double d124), .second, .unset] [])) _
              refine XS.iconst X0.here hx rfl (hb hby at_144) ?_
              show Steps p.tables e below (s₁.setTop (mkF m 145 #[.val (.long px), .second, .val (.int psel), .val (.long (9007199254740992 : Int64)), .second, .val (.long mm), .second, .val (.double dm), .second, .val (.int cc), .val (.double d124), .second, .unset] [(.int (1 : Int32))])) _
              refine XS.goto X0.here hx rfl (pc0 := 145) (pc' := 149) rfl (hb hby at_145) (by decide) (by decide) ?_
              show Steps p.tables e below (s₁.setTop (mkF m 149 #[.val (.long px), .second, .val (.int psel), .val (.long (9007199254740992 : Int64)), .second, .val (.long mm), .second, .val (.double dm), .second, .val (.int cc), .val (.double d124), .second, .unset] [(.int (1 : Int32))])) _
              exact k
            · try simp only [if_neg q141_1] at k
              refine XS.ifYes X0.here hx rfl (pc0 := 141) (pc' := 148) rfl (hb hby at_141) rfl (XT.ll_le_t q141_1) (by decide) (by decide) ?_
              show Steps p.tables e below (s₁.setTop (mkF m 148 #[.val (.long px), .second, .val (.int psel), .val (.long (9007199254740992 : Int64)), .second, .val (.long mm), .second, .val (.double dm), .second, .val (.int cc), .val (.double d124), .second, .unset] [])) _
              refine XS.iconst X0.here hx rfl (hb hby at_148) ?_
              show Steps p.tables e below (s₁.setTop (mkF m 149 #[.val (.long px), .second, .val (.int psel), .val (.long (9007199254740992 : Int64)), .second, .val (.long mm), .second, .val (.double dm), .second, .val (.int cc), .val (.double d124), .second, .unset] [(.int (0 : Int32))])) _
              exact k)
        have kd := e3_k m1 m2 zd
        have c26 : ∀ t, Steps p.tables e below (s₁.setTop (mkF m 153 #[.val (.long px), .second, .val (.int psel), .val (.long (9007199254740992 : Int64)), .second, .val (.long mm), .second, .val (.double dm), .second, .val (.int cc), .val (.double d124), .second, .val (.int ex)] [(.double d124)])) t → Steps p.tables e below (s₁.setTop (entryFrame m #[(.long px), (.int psel)] maxLocals)) t := fun t k => c25 t (by
          show Steps p.tables e below (s₁.setTop (mkF m 149 #[.val (.long px), .second, .val (.int psel), .val (.long (9007199254740992 : Int64)), .second, .val (.long mm), .second, .val (.double dm), .second, .val (.int cc), .val (.double d124), .second, .unset] [(.int ex)])) _
          refine XS.istore X0.here hx rfl (hb hby at_149) rfl (l' := #[.val (.long px), .second, .val (.int psel), .val (.long (9007199254740992 : Int64)), .second, .val (.long mm), .second, .val (.double dm), .second, .val (.int cc), .val (.double d124), .second, .val (.int ex)]) rfl ?_
          show Steps p.tables e below (s₁.setTop (mkF m 151 #[.val (.long px), .second, .val (.int psel), .val (.long (9007199254740992 : Int64)), .second, .val (.long mm), .second, .val (.double dm), .second, .val (.int cc), .val (.double d124), .second, .val (.int ex)] [])) _
          refine XS.dload X0.here hx rfl (hb hby at_151) rfl ?_
          show Steps p.tables e below (s₁.setTop (mkF m 153 #[.val (.long px), .second, .val (.int psel), .val (.long (9007199254740992 : Int64)), .second, .val (.long mm), .second, .val (.double dm), .second, .val (.int cc), .val (.double d124), .second, .val (.int ex)] [(.double d124)])) _
          exact k)
        obtain ⟨_, _, ⟨T27, L27, k27', n27⟩, -, X27, ⟨Lc27, hQ27, l27, y27, z27⟩, st27⟩ := Jvm.LawKit.callS X0 hx (y := (⟨"com/example/detectability/detectability/Quantification", "isTotal", "(D)Z"⟩ : MethodName)) hown (mvT hZ (hw _ (List.mem_of_getElem? (i := 1) rfl))) (mvT hZ (hw _ (List.mem_of_getElem? (i := 2) rfl))) (mvT hZ (hw _ (List.mem_of_getElem? (i := 3) rfl))) (mvT hZ (hw _ (List.mem_of_getElem? (i := 4) rfl))) (by decide) (backOf (W := 0) (rm_1 l Z a0 hw [] d124 h0 n0 Z0 nd) hZ (hw _ (List.mem_of_getElem? (i := 4) rfl)) (hw _ (List.mem_of_getElem? (i := 3) rfl)) (by decide) (by decide)) (g := (mkF m 153 #[.val (.long px), .second, .val (.int psel), .val (.long (9007199254740992 : Int64)), .second, .val (.long mm), .second, .val (.double dm), .second, .val (.int cc), .val (.double d124), .second, .val (.int ex)] [(.double d124)])) rfl (by rw [hml]; rfl) (argsL := [(.double d124)]) (rest := []) (lenOf pd__D_Z rfl) rfl (by show 2 * 0 + _ ≤ _; exact Nat.le_of_eq rfl) (hb hby at_153) (fun _ _ => ⟨rfl, e0, (by decide : 0 + 0 ≤ _), (by decide : 0 + 0 ≤ _)⟩)
        dsimp only [Pt.U, Pt.locs, Pt.cells, Pt.slots] at X27 l27 y27 z27 st27 hQ27
        subst l27 y27 z27
        obtain ⟨rfl, N27, e27⟩ := hQ27
        have M27 := Fr.app N0 N27
        have c28 : ∀ t, Steps p.tables e below (T27.setTop (mkF m 156 #[.val (.long px), .second, .val (.int psel), .val (.long (9007199254740992 : Int64)), .second, .val (.long mm), .second, .val (.double dm), .second, .val (.int cc), .val (.double d124), .second, .val (.int ex)] [(.int (if zv d124 < 2 ^ 52 ∨ topZ < zv d124 then (0 : Int32) else 1))])) t → Steps p.tables e below (s₁.setTop (entryFrame m #[(.long px), (.int psel)] maxLocals)) t := fun t k => c26 t (st27 _ k)
        have c29 : ∀ t, Steps p.tables e below (T27.setTop (mkF m 166 #[.val (.long px), .second, .val (.int psel), .val (.long (9007199254740992 : Int64)), .second, .val (.long mm), .second, .val (.double dm), .second, .val (.int cc), .val (.double d124), .second, .val (.int ex)] [(.int (1 : Int32))])) t → Steps p.tables e below (s₁.setTop (entryFrame m #[(.long px), (.int psel)] maxLocals)) t := fun t k => c28 t (by
          show Steps p.tables e below (T27.setTop (mkF m 156 #[.val (.long px), .second, .val (.int psel), .val (.long (9007199254740992 : Int64)), .second, .val (.long mm), .second, .val (.double dm), .second, .val (.int cc), .val (.double d124), .second, .val (.int ex)] [(.int (if zv d124 < 2 ^ 52 ∨ topZ < zv d124 then (0 : Int32) else 1))])) _
          refine XS.iload X27.here hx rfl (hb hby at_156) rfl ?_
          show Steps p.tables e below (T27.setTop (mkF m 158 #[.val (.long px), .second, .val (.int psel), .val (.long (9007199254740992 : Int64)), .second, .val (.long mm), .second, .val (.double dm), .second, .val (.int cc), .val (.double d124), .second, .val (.int ex)] [(.int ex), (.int (if zv d124 < 2 ^ 52 ∨ topZ < zv d124 then (0 : Int32) else 1))])) _
          refine XS.icmpNo X27.here hx rfl (hb hby at_158) rfl (XT.ii_ne_f (kd.trans hex.symm)) ?_
          show Steps p.tables e below (T27.setTop (mkF m 161 #[.val (.long px), .second, .val (.int psel), .val (.long (9007199254740992 : Int64)), .second, .val (.long mm), .second, .val (.double dm), .second, .val (.int cc), .val (.double d124), .second, .val (.int ex)] [])) _
          refine XS.iconst X27.here hx rfl (hb hby at_161) ?_
          show Steps p.tables e below (T27.setTop (mkF m 162 #[.val (.long px), .second, .val (.int psel), .val (.long (9007199254740992 : Int64)), .second, .val (.long mm), .second, .val (.double dm), .second, .val (.int cc), .val (.double d124), .second, .val (.int ex)] [(.int (1 : Int32))])) _
          refine XS.goto X27.here hx rfl (pc0 := 162) (pc' := 166) rfl (hb hby at_162) (by decide) (by decide) ?_
          show Steps p.tables e below (T27.setTop (mkF m 166 #[.val (.long px), .second, .val (.int psel), .val (.long (9007199254740992 : Int64)), .second, .val (.long mm), .second, .val (.double dm), .second, .val (.int cc), .val (.double d124), .second, .val (.int ex)] [(.int (1 : Int32))])) _
          exact k)
        obtain ⟨fs, hr, hrun, hended, hW, hsame⟩ := X27.leave (v := (some (.int (1 : Int32)))) (fun h => by rw [Bd.returns] at h; cases h)
        refine ⟨_, _, pre0 _ (c29 _ (retN X27 hx (t := .boolean) Bd.returns (by simp) (hb hby at_166) hr)), hrun, hended, _, _, rfl, ?_, ⟨_, rfl⟩, hW, hsame.mono (by decide) (by decide)⟩
        show Q_0 Z px psel h0 n0 _ T27.heap _
        rw [e27]
        exact ⟨rfl, M27⟩
set_option maxRecDepth 65536 in
set_option maxHeartbeats 40000000 in
theorem comes_1 {Post : Tables → Env → Array Value → State → Outcome → State → Prop} (hpost : ∀ tb e args s v u, (limb_1_1.after args s (.returned v) u = true ∧ limb_1_2.after args s (.returned v) u = true ∧ True) → FrameEnd s (.returned v) u (Jvm.fieldLocs frame_1_writes args s ++ Jvm.arrayLocs frame_1_arrays args s ++ Jvm.staticLocs frame_1_statics s) 0 0 → Post tb e args s (.returned v) u) :
    ArmFor flags0 classFile x code maxLocals ret World_1 tables_1 room_1 Calls_1 rest_1 Pre_1 Post := by
  intro l hfl _ _ p e ha hc hk s m args below hf hA hF happ hP
  obtain ⟨hcalls, hrest, hpre⟩ := hP
  obtain ⟨-, -, -, hnamed, -, -, -, hat⟩ := (Spec.applies_iff hf).mp happ
  obtain ⟨hg, hn⟩ := and_e (Cond.before_iff.mp (show (Jvm.Cond.and given_1 narrow_1).before args s = true from hpre))
  obtain ⟨g0, r0⟩ := and_e hg
  obtain ⟨g1, r1⟩ := and_e r0
  obtain ⟨w0, w1, rfl⟩ : ∃ w0 w1 : Value, args = #[w0, w1] := by
    have hs : args.size = 2 := by simpa [Cond.value, given_1] using g0
    obtain ⟨L⟩ := args
    match L, hs with
    | [w0, w1], _ => exact ⟨w0, w1, rfl⟩
  have hw := fun d (hd : d ∈ tables_1) => atoms_spec (ws := Jvm.Cond.code x code maxLocals ret :: tables_1) hat d (List.mem_cons_of_mem _ hd)
  obtain ⟨i0, e0⟩ := isL_v g1
  obtain rfl : w0 = (.long i0) := Option.some.inj e0
  obtain ⟨i1, e1⟩ := is_v r1
  obtain rfl : w1 = (.int i1) := Option.some.inj e1
  obtain ⟨n, o, h1, h2, h3, _, L, rfl, ⟨rfl, N⟩, hq⟩ := rm_0 l s _ hw tables_1 i0 i1 s.heap s.heap.size (Nat.le_refl _)  p e ha hc hk s m _ below hf ((Spec.applies_iff_loose hf).mp happ).1 ⟨rfl, State.Warmed39.refl s, rfl⟩ trivial
  refine ⟨n, _, h1, h2, h3, hpost _ _ _ _ _ _ ⟨Cond.after_iff.mpr rfl, Cond.after_iff.mpr (eq_i res_at (Term.int_eval (1)) rfl), trivial⟩ ⟨hq.1, hq.2.1, (hq.2.2.sift fun y hy => Or.inr (N y hy)).mono (by decide) (by decide)⟩⟩
theorem main_1_1 : Claimed_1_1 := comes_1 fun _ _ _ _ _ _ h hF => ⟨h.1, hF⟩
theorem main_1_2 : Claimed_1_2 := comes_1 fun _ _ _ _ _ _ h hF => ⟨h.2.1, hF⟩
end Jvm.Pilot.@@N@@
namespace Jvm.Pilot.@@N@@
open Jvm Jvm.ClassFile Sem Op Lib Jvm.Free Jvm.Stand Jvm.Pilot.@@N@@.Jvm.D
/-! MADE BY PROGRAM (witnessworld.py) out of the Statement's table words and the real class files: 9 classes; the members and pool entries that the words name. The judged class is class 1, her method 1. -/
namespace start1
open Jvm.ClassFile
def u (s : String) : CpInfo := .utf8 (stringToUtf16 s)
/-- a pool by its gaps: so many unusable entries, then the entry; so many at the end -/
def gap : Nat → List CpInfo → List CpInfo
  | 0, r => r
  | n + 1, r => .unusable :: gap n r
def poolList (es : List (Nat × CpInfo)) (last : Nat) : List CpInfo := es.foldr (fun e r => gap e.1 (e.2 :: r)) (gap last [])
def pool (es : List (Nat × CpInfo)) (last : Nat) : Array CpInfo := ⟨poolList es last⟩
def fileOf (pool : Array CpInfo) (this : Nat) (attrs : Array Attribute := #[]) (ms : Array MethodInfo := #[]) (fl : Nat := 33) (sup : Nat := 0) (ifs : Array Nat := #[]) (fds : Array FieldInfo := #[]) : ClassFile where
  minorVersion := 0
  majorVersion := 65
  constantPool := pool
  accessFlags := fl
  thisClass := this
  superClass := sup
  interfaces := ifs
  fields := fds
  methods := ms
  attributes := attrs
def plain (name : String) (sup : Option ClassId) : Class where
  name := name
  kind := .ordinary
  loader := none
  accessFlags := 33
  super := sup
  interfaces := #[]
  cf := none
  fields := #[]
  methods := #[]
  instanceTypes := #[]
  staticTypes := #[]
  resolved := #[]
  callSites := []
  init := .initialized
  statics := none
  mirror := none

def pool0 : Array CpInfo := pool [(5, u "<init>"), (0, u "()V"), (1, .class_ 10), (1, u "java/lang/Object")] 113

def k0m0 : Method := { name := "<init>", desc := "()V", sig := { parameters := [], returnType := none }, accessFlags := 1, code := none }
/-- java/lang/Object -/
def k0 : Class := { plain "java/lang/Object" none with
  accessFlags := 33
  interfaces := #[]
  cf := some (fileOf pool0 8 #[] #[{ accessFlags := 1, nameIndex := 5, descriptorIndex := 6, attributes := #[] }] 33 0 #[] #[])
  fields := #[]
  methods := #[k0m0]
  instanceTypes := #[]
  staticTypes := #[]
  resolved := Array.replicate 124 none
  statics := none }

def pool1 : Array CpInfo := pool [(2, .class_ 4), (1, u "java/lang/Object"), (0, u "<init>"), (0, u "()V"), (0, .long 9007199254740992), (1, .double 1), (1, .long 4503599627370496), (1, .double 8980177656976769024), (1, .long 18446744073709551615), (1, .methodref 18 19), (0, .class_ 20), (0, .nameAndType 21 22), (0, u "com/example/detectability/detectability/Quantification"), (0, u "isTotal"), (0, u "(D)Z"), (0, .class_ 24), (0, u "com/example/detectability/detectability/QuantificationIsTotalPinLaw"), (2, u "law"), (0, u "(JI)Z")] 3

def k1m0 : Method := { name := "<init>", desc := "()V", sig := { parameters := [], returnType := none }, accessFlags := 1, code := none }
def k1c1 : Code := { maxStack := 6, maxLocals := 13, code := code, exceptionTable := #[], attributes := #[] }
def k1m1 : Method := { name := "law", desc := "(JI)Z", sig := { parameters := [.long, .int], returnType := some .boolean }, accessFlags := 9, code := some k1c1 }
/-- com/example/detectability/detectability/QuantificationIsTotalPinLaw -/
def k1 : Class := { plain "com/example/detectability/detectability/QuantificationIsTotalPinLaw" (some 0) with
  accessFlags := 49
  interfaces := #[]
  cf := some (fileOf pool1 23 #[] #[{ accessFlags := 1, nameIndex := 5, descriptorIndex := 6, attributes := #[] }, { accessFlags := 9, nameIndex := 27, descriptorIndex := 28, attributes := #[] }] 49 2 #[] #[])
  fields := #[]
  methods := #[k1m0, k1m1]
  instanceTypes := #[]
  staticTypes := #[]
  resolved := Array.replicate 32 none
  statics := none }

def pool2 : Array CpInfo := pool [(2, .class_ 4), (1, u "java/lang/Object"), (3, .class_ 10), (1, u "com/example/detectability/detectability/Quantification"), (0, u "isTotal"), (0, u "(D)Z"), (166, .double 4503599627370496), (18, u "proteins"), (0, u "Ljava/util/List;"), (2, u "withoutOi"), (0, u "I"), (41, .double 9218868437227405311), (19, u "TOTAL_RANGE"), (0, u "Ljava/lang/String;")] 90

def k2c0 : Code := { maxStack := 4, maxLocals := 2, code := prog_32_method_3_code, exceptionTable := #[], attributes := #[] }
def k2m0 : Method := { name := "isTotal", desc := "(D)Z", sig := { parameters := [.double], returnType := some .boolean }, accessFlags := 9, code := some k2c0 }
/-- com/example/detectability/detectability/Quantification -/
def k2 : Class := { plain "com/example/detectability/detectability/Quantification" (some 0) with
  accessFlags := 33
  interfaces := #[]
  cf := some (fileOf pool2 8 #[] #[{ accessFlags := 9, nameIndex := 11, descriptorIndex := 12, attributes := #[] }] 33 2 #[] #[{ accessFlags := 25, nameIndex := 265, descriptorIndex := 266, attributes := #[] }, { accessFlags := 18, nameIndex := 198, descriptorIndex := 199, attributes := #[] }, { accessFlags := 18, nameIndex := 202, descriptorIndex := 203, attributes := #[] }])
  fields := #[{ name := "TOTAL_RANGE", type := (.object "java/lang/String"), accessFlags := 25, slot := 0, constantValue := 0 }, { name := "proteins", type := (.object "java/util/List"), accessFlags := 18, slot := 0, constantValue := 0 }, { name := "withoutOi", type := .int, accessFlags := 18, slot := 1, constantValue := 0 }]
  methods := #[k2m0]
  instanceTypes := #[(.object "java/util/List"), .int]
  staticTypes := #[(.object "java/lang/String")]
  resolved := Array.replicate 357 none
  statics := none }

def pool3 : Array CpInfo := pool [(1, u "java/lang/Cloneable"), (0, .class_ 1), (0, u "java/lang/Object"), (0, .class_ 3)] 3

/-- java/lang/Cloneable -/
def k3 : Class := { plain "java/lang/Cloneable" (some 0) with
  accessFlags := 1537
  interfaces := #[]
  cf := some (fileOf pool3 2 #[] #[] 1537 4 #[] #[])
  fields := #[]
  methods := #[]
  instanceTypes := #[]
  staticTypes := #[]
  resolved := Array.replicate 8 none
  statics := none }

def pool4 : Array CpInfo := pool [(1, u "java/io/Serializable"), (0, .class_ 1), (0, u "java/lang/Object"), (0, .class_ 3)] 3

/-- java/io/Serializable -/
def k4 : Class := { plain "java/io/Serializable" (some 0) with
  accessFlags := 1537
  interfaces := #[]
  cf := some (fileOf pool4 2 #[] #[] 1537 4 #[] #[])
  fields := #[]
  methods := #[]
  instanceTypes := #[]
  staticTypes := #[]
  resolved := Array.replicate 8 none
  statics := none }

/-- the primitive byte -/
def k5 : Class := { plain "byte" none with kind := .primitive 'B', accessFlags := 0x411 }
/-- [B -/
def k6 : Class := { plain "[B" (some 0) with kind := .array 5 .byte, interfaces := #[3, 4], accessFlags := 1041 }

/-- the primitive int -/
def k7 : Class := { plain "int" none with kind := .primitive 'I', accessFlags := 0x411 }
/-- [I -/
def k8 : Class := { plain "[I" (some 0) with kind := .array 7 .int, interfaces := #[3, 4], accessFlags := 1041 }

def heap : Heap := #[]
def classes : Array Class := #[k0, k1, k2, k3, k4, k5, k6, k7, k8]
def interned : List (Array UInt16 × Addr) := []
def slotsUsed : Nat := 0
def theMethod : MethodId := ⟨1, 1⟩
def args0 : Array Value := #[.long 5, .int 2]
def aboutOver (below : List Frame) : State where
  vm := { classes := classes, interned := interned.toArray }
  heap := heap
  slotsUsed := slotsUsed
  threads := #[{ frames := .invoking theMethod args0 :: below }]
def below0 : List Frame := [.native { method := ⟨0, 0⟩, args := #[] }]
def about1 : State := aboutOver below0
def p0 : Program := .bare "" "" ""
def e0 : Env := launch0.env 0 0 0
theorem w_frames : about1.frames = Frame.invoking theMethod args0 :: below0 := rfl
set_option maxRecDepth 65536 in
theorem w_args : argsFit about1.vm theMethod args0 = true := by decide +kernel
set_option maxRecDepth 65536 in
theorem w_heap : heapFits about1 = true := by decide +kernel
set_option maxRecDepth 65536 in
theorem w_runnable : about1.curStatus? = some .runnable := by decide +kernel
set_option maxRecDepth 65536 in
theorem w_alone : about1.alone = true := by decide +kernel
set_option maxRecDepth 65536 in
theorem w_named : about1.methodNamed? x = some theMethod := by decide +kernel
set_option maxRecDepth 65536 in
theorem w_hears : about1.hears theMethod below0 = true := by decide +kernel
set_option maxRecDepth 65536 in
theorem w_ripe : about1.ripe theMethod args0 below0 = true := by decide +kernel
theorem w_running : about1.status = .running := rfl
set_option maxRecDepth 65536 in
theorem w_room : about1.hasRoom e0.platform room_1 = true :=
  launch0.hasRoom_least _ room_1 (by decide +kernel) (by decide +kernel) (by decide +kernel) (by decide +kernel) (by decide +kernel) (by decide +kernel)
theorem allAtoms_all (ts : List Jvm.Cond) (a : Array Jvm.Value) (st : Jvm.State) : (allAtoms ts).before a st = ts.all (fun c => c.before a st) := by
  induction ts with
  | nil => rfl
  | cons c t ih =>
    show (Jvm.Cond.and c (allAtoms t)).before a st = _
    rw [Jvm.Cond.before_and, ih, List.all_cons]
def words1 : List Jvm.Cond := Jvm.Cond.code x code maxLocals ret :: tables_1
/-- a 'code' word, met by the world's own term for the bytes: nothing is compared byte by byte -/
theorem code_word {y : MethodName} {bytes : ByteArray} {mx : Nat} {rt : Option FieldType} {a : Array Value} {s : State} {m : MethodId} {meth : Method} {c : Code} (h1 : s.methodNamed? y = some m) (h2 : s.vm.method? m = some meth) (h3 : meth.code = some c) (h4 : c.code = bytes)
    (h5 : (c.maxLocals == mx && c.exceptionTable.isEmpty && decide (c.maxStack ≤ mostOperands) && decide (meth.sig.returnType = rt) && !meth.locks && decide (parseMethodDescriptor y.desc = some meth.sig)) = true) : (Jvm.Cond.code y bytes mx rt).before a s = true := by
  simp only [Bool.and_eq_true, beq_iff_eq, Bool.not_eq_true', decide_eq_true_eq] at h5
  obtain ⟨⟨⟨⟨⟨g1, g2⟩, g3⟩, g4⟩, g5⟩, g6⟩ := h5
  simp [Cond.before, Cond.holds, Cond.value, h1, h2, h3, h4, g1, g2, g3, g4, g5, g6]
def isCode : Jvm.Cond → Bool
  | .code _ _ _ _ => true
  | _ => false
theorem all_split {L : List Jvm.Cond} {P : Jvm.Cond → Bool} (h1 : L.all (fun c => isCode c || P c) = true) (h2 : ∀ c ∈ L.filter isCode, P c = true) : L.all P = true := by
  refine List.all_eq_true.mpr fun c hc => ?_
  have h := List.all_eq_true.mp h1 c hc
  rcases Bool.eq_false_or_eq_true (isCode c) with hi | hi
  · exact h2 c (List.mem_filter.mpr ⟨hc, hi⟩)
  · simpa [hi] using h
set_option maxRecDepth 65536 in
theorem w_c0 : (Jvm.Cond.code x code maxLocals ret).before args0 about1 = true := code_word (m := ⟨1, 1⟩) (meth := k1m1) (c := k1c1) (by decide +kernel) rfl rfl rfl (by decide +kernel)
set_option maxRecDepth 65536 in
theorem w_c1 : (Jvm.Cond.code ({ cls := "com/example/detectability/detectability/Quantification", name := "isTotal", desc := "(D)Z" } : Jvm.MethodName) prog_32_method_3_code (2 : Nat) (Option.some Jvm.ClassFile.FieldType.boolean)).before args0 about1 = true := code_word (m := ⟨2, 0⟩) (meth := k2m0) (c := k2c0) (by decide +kernel) rfl rfl rfl (by decide +kernel)
def codes1 : List Jvm.Cond := [Jvm.Cond.code x code maxLocals ret, Jvm.Cond.code ({ cls := "com/example/detectability/detectability/Quantification", name := "isTotal", desc := "(D)Z" } : Jvm.MethodName) prog_32_method_3_code (2 : Nat) (Option.some Jvm.ClassFile.FieldType.boolean)]
set_option maxRecDepth 65536 in
theorem codes_eq : words1.filter isCode = codes1 := rfl
theorem w_codes : ∀ c ∈ words1.filter isCode, c.before args0 about1 = true := by
  rw [codes_eq]
  intro c hc
  simp only [codes1, List.mem_cons, List.not_mem_nil, or_false] at hc
  rcases hc with rfl | rfl
  · exact w_c0
  · exact w_c1
set_option maxRecDepth 65536 in
theorem w_t1 : words1.all (fun c => isCode c || c.before args0 about1) = true := by decide +kernel
theorem w_tables : (allAtoms (Jvm.Cond.code x code maxLocals ret :: tables_1)).before args0 about1 = true := by
  rw [allAtoms_all]
  show words1.all (fun c => c.before args0 about1) = true
  refine all_split ?_ w_codes
  rw [w_t1]
set_option maxRecDepth 65536 in
theorem w_case : (Jvm.Cond.and given_1 narrow_1).before args0 about1 = true := by decide +kernel
theorem w_applies : (headSpec (Jvm.Cond.code x code maxLocals ret :: tables_1) room_1).applies x e0.platform about1 = true :=
  (Spec.applies_iff w_frames).mpr ⟨w_running, w_runnable, w_alone, w_named, w_hears, w_ripe, w_room, w_tables⟩
theorem atStart : AtStart classFile x code maxLocals ret World_1 tables_1 room_1 Calls_1 rest_1 Pre_1 launch0 p0 e0 about1 theMethod args0 below0 :=
  ⟨lists_1, trivial, launch0.admits_env _ _ _, launch0.least_env, fairChoices_fair.cas, fairChoices_fair.clock, w_frames, w_args, w_heap, w_applies, trivial, trivial, w_case⟩
end start1
theorem witness_1 : WitnessClaimed_1 := ⟨start1.p0, start1.e0, start1.about1, start1.theMethod, start1.args0, start1.below0, start1.atStart⟩
end Jvm.Pilot.@@N@@
