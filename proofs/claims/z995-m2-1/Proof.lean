import JvmDerived
import JvmDerived.Pilot.@@N@@Statement
import JvmDerived.Pilot.@@N@@Code
set_option linter.unusedVariables false
set_option linter.unusedSimpArgs false
@@BLOCK:NumsL.lean.txt@@
namespace Jvm.RoadKit
open Sem ClassFile Op Lib Jvm.Stand Jvm.Free Jvm.LawKit
section New
variable {p : Program} {l : Launch} {e : Env} {R : Room} {s : State} {m : MethodId} {args : Array Value} {below : List Frame} {meth : Method} {c : Code} {T : State} {locs : List Loc} {cells slots : Nat}
theorem retI (X : Stand p l e R s m args below meth c T locs cells slots) (hx : p.tables.exec = Jvm.exec) {pc : Nat} {Ls : Array Slot} {z : Int32} {rest : List Value} (hret : meth.sig.returnType = some .int) (hd : decode c.code pc = .ok (.ireturn, 1)) {fs : List Frame}
    (hl : ∀ (f : JFrame) (acts : List Action), f.method = m → f.locked = none → f.entered = [] → (doReturn e (T.setTop f) acts (some (.int z))).1 = T.setFrames fs) : Steps p.tables e below (T.setTop (mkF m pc Ls (.int z :: rest))) (T.setFrames fs) := by
  have hm' : T.vm.method? m = some meth := X.method'
  have hn : narrow .int (.int z) = .int z := rfl
  show Steps p.tables e below (T.setTop { method := m, pc := pc, locals := Ls, stack := _ :: rest, locked := none }) _
  jvm_step X.here [X.here.top, hx, hd, hm', hret, hn]
  first | (intro acts; rw [hl _ acts rfl rfl rfl]) | rw [hl _ _ rfl rfl rfl]
  exact Steps.refl _
end New
end Jvm.RoadKit
namespace Jvm.OwnFP
open Jvm.FP
/-- a double's value in units of 2^-1074 -/
def zv (a : UInt64) : Int := Core.zval Core.b64 (Core.val64 a)
/-- how many units make one -/
def U : Int := (Core.one64 : Int)
theorem U_pos : 0 < U := by have := Core.one64_pos; unfold U; omega
theorem U_pow (k : Nat) (h : k ≤ 1074) : U = 2 ^ (1074 - k) * 2 ^ k := by
  have e : (2 : Int) ^ (1074 - k) * 2 ^ k = 2 ^ 1074 := by rw [← Int.pow_add]; congr 1; omega
  rw [e]; unfold U Core.one64; rw [Int.natCast_pow]; rfl
theorem pow_pos (k : Nat) : (0 : Int) < 2 ^ k := Int.pow_pos (by decide)
theorem notNan {a : UInt64} (h : Core.DFin a) : Core.val64 a ≠ .nan := by obtain ⟨s, c, q, h⟩ := h; rw [h]; exact Core.Datum.noConfusion
theorem fin_parts {a : UInt64} (h : Core.DFin a) : ∃ (s : Bool) (c i : Nat), Core.val64 a = .fin s c ((i : Int) - 1074) ∧ Core.fits Core.b64 (.fin s c ((i : Int) - 1074)) ∧ zv a = Core.signed s (c * 2 ^ i) := by
  obtain ⟨s, c, q, h⟩ := h
  have hf := Core.val64_fits a
  rw [h] at hf
  have hq : -1074 ≤ q := by have := hf.2.1; rw [Core.qmin_b64] at this; exact this
  obtain ⟨i, hi⟩ : ∃ i : Nat, q = (i : Int) - 1074 := ⟨(q + 1074).toNat, by omega⟩
  subst hi
  refine ⟨s, c, i, h, hf, ?_⟩
  unfold zv Core.zval; rw [h]
  show Core.signed s (c * 2 ^ ((i : Int) - 1074 - Core.b64.qmin).toNat) = _
  rw [Core.qmin_b64, show ((i : Int) - 1074 - -1074).toNat = i by omega]
/-- rounding a quotient is monotone: at most a number of the format -/
theorem ratio_le {s : Bool} {A B : Nat} {e e0 : Int} {V : Core.Datum} (hB : 0 < B) (hV : Core.fits Core.b64 V) (hn : V ≠ .nan) (h0 : e0 ≤ Core.b64.qmin) (h0e : e0 ≤ e)
    (h : Core.signed s (Core.inUnits A e e0) ≤ Core.zval Core.b64 V * ((2 ^ (Core.b64.qmin - e0).toNat * B : Nat) : Int)) :
    Core.zval Core.b64 (Core.roundRatio Core.b64 s A B e) ≤ Core.zval Core.b64 V := by
  have hle := Core.zmag_roundRatio_le Core.good_b64 (s := s) (A := A) hB hV hn h0 h0e
  have hge := Core.zmag_roundRatio_ge Core.good_b64 (s := s) (A := A) hB hV h0 h0e
  have hP : 0 < 2 ^ (Core.b64.qmin - e0).toNat * B := Nat.mul_pos (Nat.two_pow_pos _) hB
  rw [Nat.mul_assoc] at hle hge
  unfold Core.zval at h ⊢
  rw [Core.sgn_roundRatio]
  rw [← Core.signed_mul] at h
  have hz : Core.zmag Core.b64 V * (2 ^ (Core.b64.qmin - e0).toNat * B) = 0 → Core.zmag Core.b64 V = 0 := fun q => by
    rcases Nat.mul_eq_zero.mp q with q | q
    · exact q
    · omega
  generalize Core.zmag Core.b64 V * (2 ^ (Core.b64.qmin - e0).toNat * B) = vP at *
  generalize Core.sgn V = t at *
  generalize Core.zmag Core.b64 V = z at *
  generalize Core.zmag Core.b64 (Core.roundRatio Core.b64 s A B e) = r at *
  generalize Core.inUnits A e e0 = x at *
  cases s <;> cases t <;> simp only [Core.signed, if_true, Bool.false_eq_true, if_false] at h ⊢
  · have := hle (by omega); omega
  · have := hle (by omega); have := hz (by omega); omega
  · omega
  · have := hge (by omega); omega
theorem ratio_ge {s : Bool} {A B : Nat} {e e0 : Int} {V : Core.Datum} (hB : 0 < B) (hV : Core.fits Core.b64 V) (hn : V ≠ .nan) (h0 : e0 ≤ Core.b64.qmin) (h0e : e0 ≤ e)
    (h : Core.zval Core.b64 V * ((2 ^ (Core.b64.qmin - e0).toNat * B : Nat) : Int) ≤ Core.signed s (Core.inUnits A e e0)) :
    Core.zval Core.b64 V ≤ Core.zval Core.b64 (Core.roundRatio Core.b64 s A B e) := by
  have h1 := ratio_le (s := !s) (V := Core.negate V) hB (Core.negate_fits hV) (Core.negate_ne_nan hn) h0 h0e (by
    rw [Core.zval_negate, Int.neg_mul, Core.signed_not]; exact Int.neg_le_neg h)
  rw [Core.zval_negate, ← Core.negate_roundRatio, Core.zval_negate] at h1
  omega
theorem signed_pos_parts {t : Bool} {n : Nat} (h : 0 < Core.signed t n) : t = false ∧ 0 < n := by
  cases t <;> simp [Core.signed] at h ⊢ <;> omega
/-- the quotient as a rounded ratio -/
theorem ddiv_parts {a b : UInt64} (ha : Core.DFin a) (hb : Core.DFin b) (pb : 0 < zv b) :
    ∃ (s : Bool) (c d i j : Nat), zv a = Core.signed s (c * 2 ^ i) ∧ zv b = ((d * 2 ^ j : Nat) : Int) ∧ 0 < d ∧ Core.val64 (FP.ddiv a b) = Core.roundRatio Core.b64 s c d ((i : Int) - (j : Int)) := by
  obtain ⟨s, c, i, h1, f1, z1⟩ := fin_parts ha
  obtain ⟨t, d, j, h2, f2, z2⟩ := fin_parts hb
  rw [z2] at pb
  obtain ⟨rfl, hd⟩ := signed_pos_parts pb
  have hd' : 0 < d := Nat.pos_of_mul_pos_right hd
  refine ⟨s, c, d, i, j, z1, z2, hd', ?_⟩
  show Core.val64 (Core.ddiv a b) = _
  rw [Core.val64_ddiv, h1, h2]
  show (if d = 0 then _ else Core.roundRatio Core.b64 (s != false) c d ((i : Int) - 1074 - ((j : Int) - 1074))) = _
  rw [if_neg (by omega), show ((i : Int) - 1074 - ((j : Int) - 1074)) = (i : Int) - j by omega]
  cases s <;> rfl
theorem div_key {s : Bool} {c d i j : Nat} : Core.signed s (Core.inUnits c ((i : Int) - j) (-1074 - (j : Int))) = Core.signed s (c * 2 ^ i) * U ∧ ((2 ^ (Core.b64.qmin - (-1074 - (j : Int))).toNat * d : Nat) : Int) = ((d * 2 ^ j : Nat) : Int) := by
  constructor
  · unfold Core.inUnits
    rw [show ((i : Int) - j - (-1074 - (j : Int))).toNat = i + 1074 by omega, Nat.pow_add, ← Nat.mul_assoc, Core.signed_mul]
    rfl
  · rw [Core.qmin_b64, show (-1074 - (-1074 - (j : Int))).toNat = j by omega, Nat.mul_comm]
theorem ddiv_le {a b V : UInt64} (ha : Core.DFin a) (hb : Core.DFin b) (pb : 0 < zv b) (hV : Core.val64 V ≠ .nan) (h : zv a * U ≤ zv V * zv b) : zv (FP.ddiv a b) ≤ zv V := by
  obtain ⟨s, c, d, i, j, z1, z2, hd, hr⟩ := ddiv_parts ha hb pb
  have e : zv (FP.ddiv a b) = Core.zval Core.b64 (Core.roundRatio Core.b64 s c d ((i : Int) - (j : Int))) := by unfold zv; rw [hr]
  rw [e]
  refine ratio_le (e0 := -1074 - (j : Int)) hd (Core.val64_fits V) hV (by rw [Core.qmin_b64]; omega) (by omega) ?_
  rw [(div_key (d := d)).1, (div_key (s := s) (c := c) (i := i)).2, ← z1, ← z2]; exact h
theorem ddiv_ge {a b V : UInt64} (ha : Core.DFin a) (hb : Core.DFin b) (pb : 0 < zv b) (hV : Core.val64 V ≠ .nan) (h : zv V * zv b ≤ zv a * U) : zv V ≤ zv (FP.ddiv a b) := by
  obtain ⟨s, c, d, i, j, z1, z2, hd, hr⟩ := ddiv_parts ha hb pb
  have e : zv (FP.ddiv a b) = Core.zval Core.b64 (Core.roundRatio Core.b64 s c d ((i : Int) - (j : Int))) := by unfold zv; rw [hr]
  rw [e]
  refine ratio_ge (e0 := -1074 - (j : Int)) hd (Core.val64_fits V) hV (by rw [Core.qmin_b64]; omega) (by omega) ?_
  rw [(div_key (d := d)).1, (div_key (s := s) (c := c) (i := i)).2, ← z1, ← z2]; exact h
theorem ddiv_nn {a b : UInt64} (ha : Core.DFin a) (hb : Core.DFin b) (pb : 0 < zv b) : Core.val64 (FP.ddiv a b) ≠ .nan := by
  obtain ⟨s, c, d, i, j, z1, z2, hd, hr⟩ := ddiv_parts ha hb pb
  rw [hr]; exact Core.roundRatio_ne_nan _ _ _ _ _
/-- two quotients of one value -/
theorem ddiv_congr {a b a' b' : UInt64} (ha : Core.DFin a) (hb : Core.DFin b) (pb : 0 < zv b) (ha' : Core.DFin a') (hb' : Core.DFin b') (pb' : 0 < zv b') (hs : Core.sgn (Core.val64 a) = Core.sgn (Core.val64 a')) (h : zv a * zv b' = zv a' * zv b) : FP.ddiv a b = FP.ddiv a' b' := by
  obtain ⟨s, c, i, h1, f1, z1⟩ := fin_parts ha
  obtain ⟨s', c', i', h1', f1', z1'⟩ := fin_parts ha'
  obtain ⟨t, d, j, h2, f2, z2⟩ := fin_parts hb
  obtain ⟨t', d', j', h2', f2', z2'⟩ := fin_parts hb'
  rw [z2] at pb; rw [z2'] at pb'
  obtain ⟨rfl, hd⟩ := signed_pos_parts pb
  obtain ⟨rfl, hd'⟩ := signed_pos_parts pb'
  have hd1 : 0 < d := Nat.pos_of_mul_pos_right hd
  have hd1' : 0 < d' := Nat.pos_of_mul_pos_right hd'
  have es : s = s' := by rw [h1, h1'] at hs; exact hs
  subst es
  show Core.of64 (Core.quotient Core.b64 (Core.val64 a) (Core.val64 b)) = Core.of64 (Core.quotient Core.b64 (Core.val64 a') (Core.val64 b'))
  congr 1
  rw [h1, h2, h1', h2']
  show (if d = 0 then _ else Core.roundRatio Core.b64 (s != false) c d ((i : Int) - 1074 - ((j : Int) - 1074))) = (if d' = 0 then _ else Core.roundRatio Core.b64 (s != false) c' d' ((i' : Int) - 1074 - ((j' : Int) - 1074)))
  rw [if_neg (by omega), if_neg (by omega)]
  apply Core.roundRatio_congr hd1 hd1'
  have hn : (c * 2 ^ i) * (d' * 2 ^ j') = (c' * 2 ^ i') * (d * 2 ^ j) := by
    rw [z1, z1', z2, z2'] at h
    have : ∀ n : Nat, Core.signed false n = (n : Int) := fun _ => rfl
    rw [this, this, ← Core.signed_mul, ← Core.signed_mul] at h
    have := congrArg Int.natAbs h
    rwa [Core.natAbs_signed, Core.natAbs_signed] at this
  generalize hE : (i : Int) - 1074 - ((j : Int) - 1074) = E
  generalize hE' : (i' : Int) - 1074 - ((j' : Int) - 1074) = E'
  have k1 : c * d' * 2 ^ (i + j') = c' * d * 2 ^ (i' + j) := by
    rw [Nat.pow_add, Nat.pow_add]
    calc c * d' * (2 ^ i * 2 ^ j') = (c * 2 ^ i) * (d' * 2 ^ j') := by ac_rfl
      _ = (c' * 2 ^ i') * (d * 2 ^ j) := hn
      _ = c' * d * (2 ^ i' * 2 ^ j) := by ac_rfl
  by_cases hle : i' + j ≤ i + j'
  · have e1 : (E - E').toNat = i + j' - (i' + j) := by omega
    have e2 : (E' - E).toNat = 0 := by omega
    rw [e1, e2]
    have : 2 ^ (i + j') = 2 ^ (i + j' - (i' + j)) * 2 ^ (i' + j) := by rw [← Nat.pow_add]; congr 1; omega
    rw [this, ← Nat.mul_assoc] at k1
    simpa using Nat.eq_of_mul_eq_mul_right (Nat.two_pow_pos _) k1
  · have e1 : (E - E').toNat = 0 := by omega
    have e2 : (E' - E).toNat = i' + j - (i + j') := by omega
    rw [e1, e2]
    have : 2 ^ (i' + j) = 2 ^ (i' + j - (i + j')) * 2 ^ (i + j') := by rw [← Nat.pow_add]; congr 1; omega
    rw [this, ← Nat.mul_assoc] at k1
    simpa using Nat.eq_of_mul_eq_mul_right (Nat.two_pow_pos _) k1
theorem dmul_parts {a b : UInt64} (ha : Core.DFin a) (hb : Core.DFin b) :
    ∃ (s : Bool) (n : Nat) (e : Int), Core.val64 (FP.dmul a b) = Core.round Core.b64 (.fin s n e) ∧ -2148 ≤ e ∧ Core.signed s (Core.inUnits n e (-2148)) = zv a * zv b := by
  obtain ⟨s, c, i, h1, f1, z1⟩ := fin_parts ha
  obtain ⟨t, d, j, h2, f2, z2⟩ := fin_parts hb
  obtain ⟨p1, p2, p3⟩ := Core.product_units f1 f2
  refine ⟨s != t, c * d, (i : Int) - 1074 + ((j : Int) - 1074), ?_, by omega, ?_⟩
  · show Core.val64 (Core.dmul a b) = _
    rw [Core.val64_dmul, h1, h2, p1]
  · rw [z1, z2]
    unfold Core.inUnits
    rw [show ((i : Int) - 1074 + ((j : Int) - 1074) - (-2148)).toNat = i + j by omega, Nat.pow_add,
      show c * d * (2 ^ i * 2 ^ j) = (c * 2 ^ i) * (d * 2 ^ j) by ac_rfl, Core.signed_xor]
theorem mul_key : ((2 ^ (Core.b64.qmin - (-2148 : Int)).toNat : Nat) : Int) = U := by
  rw [Core.qmin_b64]; rfl
theorem dmul_le {a b V : UInt64} (ha : Core.DFin a) (hb : Core.DFin b) (hV : Core.val64 V ≠ .nan) (h : zv a * zv b ≤ zv V * U) : zv (FP.dmul a b) ≤ zv V := by
  obtain ⟨s, n, e, h1, h2, h3⟩ := dmul_parts ha hb
  have e1 : zv (FP.dmul a b) = Core.zval Core.b64 (Core.round Core.b64 (.fin s n e)) := by unfold zv; rw [h1]
  rw [e1]
  refine Core.zval_round_le Core.good_b64 (e0 := -2148) (Core.val64_fits V) hV (by rw [Core.qmin_b64]; decide) h2 ?_
  rw [h3, mul_key]; exact h
theorem dmul_ge {a b V : UInt64} (ha : Core.DFin a) (hb : Core.DFin b) (hV : Core.val64 V ≠ .nan) (h : zv V * U ≤ zv a * zv b) : zv V ≤ zv (FP.dmul a b) := by
  obtain ⟨s, n, e, h1, h2, h3⟩ := dmul_parts ha hb
  have e1 : zv (FP.dmul a b) = Core.zval Core.b64 (Core.round Core.b64 (.fin s n e)) := by unfold zv; rw [h1]
  rw [e1]
  refine Core.zval_round_ge Core.good_b64 (e0 := -2148) (Core.val64_fits V) hV (by rw [Core.qmin_b64]; decide) h2 ?_
  rw [h3, mul_key]; exact h
theorem dmul_nn {a b : UInt64} (ha : Core.DFin a) (hb : Core.DFin b) : Core.val64 (FP.dmul a b) ≠ .nan := by
  obtain ⟨s, n, e, h1, h2, h3⟩ := dmul_parts ha hb
  rw [h1]; exact Core.roundRatio_ne_nan _ _ _ _ _
theorem dadd_le {a b V : UInt64} (ha : Core.DFin a) (hb : Core.DFin b) (hV : Core.val64 V ≠ .nan) (h : zv a + zv b ≤ zv V) : zv (FP.dadd a b) ≤ zv V := by
  have := Core.sum_le Core.good_b64 ha hb (Core.val64_fits a) (Core.val64_fits b) (Core.val64_fits V) hV h
  unfold zv; show Core.zval Core.b64 (Core.val64 (Core.dadd a b)) ≤ _
  rw [Core.val64_dadd]; exact this
theorem dadd_ge {a b V : UInt64} (ha : Core.DFin a) (hb : Core.DFin b) (hV : Core.val64 V ≠ .nan) (h : zv V ≤ zv a + zv b) : zv V ≤ zv (FP.dadd a b) := by
  have := Core.sum_ge Core.good_b64 ha hb (Core.val64_fits a) (Core.val64_fits b) (Core.val64_fits V) hV h
  unfold zv; show _ ≤ Core.zval Core.b64 (Core.val64 (Core.dadd a b))
  rw [Core.val64_dadd]; exact this
theorem dadd_nn {a b : UInt64} (ha : Core.DFin a) (hb : Core.DFin b) : Core.val64 (FP.dadd a b) ≠ .nan := by
  have := Core.dadd_out (notNaN_of ha) hb
  exact (Core.notNaN_iff _).mp this
where notNaN_of {a : UInt64} (h : Core.DFin a) : Core.dIsNaN a = false := (Core.notNaN_iff a).mpr (notNan h)
theorem zv_dneg (a : UInt64) : zv (FP.dneg a) = - zv a := by
  unfold zv; rw [FP.val64_dneg, Core.zval_negate]
theorem fin_dneg {a : UInt64} (h : Core.DFin a) : Core.DFin (FP.dneg a) := by
  obtain ⟨s, c, q, h⟩ := h
  refine ⟨!s, c, q, ?_⟩
  rw [FP.val64_dneg, h]; rfl
theorem dsub_dadd {a b : UInt64} (hb : Core.DFin b) : FP.dsub a b = FP.dadd a (FP.dneg b) := by
  have h1 : FP.dneg b = Core.dneg b := FP.dneg_core ((Core.notNaN_iff b).mpr (notNan hb))
  rw [h1]; exact Core.dsub_eq a b
theorem dsub_le {a b V : UInt64} (ha : Core.DFin a) (hb : Core.DFin b) (hV : Core.val64 V ≠ .nan) (h : zv a - zv b ≤ zv V) : zv (FP.dsub a b) ≤ zv V := by
  rw [dsub_dadd hb]; exact dadd_le ha (fin_dneg hb) hV (by rw [zv_dneg]; omega)
theorem dsub_ge {a b V : UInt64} (ha : Core.DFin a) (hb : Core.DFin b) (hV : Core.val64 V ≠ .nan) (h : zv V ≤ zv a - zv b) : zv V ≤ zv (FP.dsub a b) := by
  rw [dsub_dadd hb]; exact dadd_ge ha (fin_dneg hb) hV (by rw [zv_dneg]; omega)
theorem dsub_nn {a b : UInt64} (ha : Core.DFin a) (hb : Core.DFin b) : Core.val64 (FP.dsub a b) ≠ .nan := by
  rw [dsub_dadd hb]; exact dadd_nn ha (fin_dneg hb)
/-- finite, if it lies between two finite ones -/
theorem fin_between {a V W : UInt64} (n : Core.val64 a ≠ .nan) (hV : Core.DFin V) (hW : Core.DFin W) (h1 : zv V ≤ zv a) (h2 : zv a ≤ zv W) : Core.DFin a := by
  have hv := hV.zval_lt; have hw := hW.zval_lt
  unfold zv Core.zval at h1 h2
  cases e : Core.val64 a with
  | nan => exact absurd e n
  | fin s c q => exact ⟨s, c, q, e⟩
  | inf s =>
    exfalso
    rw [e] at h1 h2
    have t : Core.zmag Core.b64 (.inf s) = Core.b64.tails * 2 ^ (Core.b64.exps - 2) := rfl
    rw [t] at h1 h2
    generalize Core.b64.tails * 2 ^ (Core.b64.exps - 2) = top at *
    generalize Core.zmag Core.b64 (Core.val64 V) = v at *
    generalize Core.zmag Core.b64 (Core.val64 W) = w at *
    generalize Core.sgn (Core.val64 V) = sv at *
    generalize Core.sgn (Core.val64 W) = sw at *
    cases s <;> cases sv <;> cases sw <;> simp [Core.signed, Core.sgn] at h1 h2 <;> omega
theorem signed_of (n : Int) : Core.signed (decide (n < 0)) n.natAbs = n := by
  unfold Core.signed
  by_cases q : n < 0
  · simp [q]; omega
  · simp [q]; omega
/-- n * 2^E units are a double -/
theorem repE (n : Int) (E : Nat) (hn : n.natAbs < 2 ^ 53) (hE : E ≤ 2045) : ∃ V, Core.DFin V ∧ zv V = n * 2 ^ E := by
  have hq : Core.b64.qmax = 971 := by decide
  obtain ⟨c', q', h1, h2⟩ := Core.round_exact Core.good_b64 (decide (n < 0)) (c := n.natAbs) (q := (E : Int) - 1074) hn (by rw [Core.qmin_b64]; omega) (by rw [hq]; omega)
  have h3 : Core.val64 (Core.of64 (Core.round Core.b64 (.fin (decide (n < 0)) n.natAbs ((E : Int) - 1074)))) = .fin (decide (n < 0)) c' q' := by
    rw [Core.val64_of64 (Core.round_fits Core.good_b64 _), h1]
  refine ⟨_, ⟨_, _, _, h3⟩, ?_⟩
  unfold zv Core.zval
  rw [h3]
  show Core.signed (decide (n < 0)) (Core.inUnits c' q' Core.b64.qmin) = _
  rw [h2]
  unfold Core.inUnits
  rw [Core.qmin_b64, show ((E : Int) - 1074 - -1074).toNat = E by omega, Core.signed_mul, signed_of, Int.natCast_pow]
  rfl
/-- n / 2^k is a double -/
theorem rep (n : Int) (k : Nat) (hn : n.natAbs ≤ 2 ^ 53) (hk : k ≤ 1000) : ∃ V, Core.DFin V ∧ zv V * 2 ^ k = n * U := by
  by_cases h : n.natAbs < 2 ^ 53
  · obtain ⟨V, fV, zV⟩ := repE n (1074 - k) h (by omega)
    exact ⟨V, fV, by rw [zV, U_pow k (by omega), Int.mul_assoc]⟩
  · by_cases hs : n < 0
    · obtain ⟨V, fV, zV⟩ := repE (-1) (53 + (1074 - k)) (by decide) (by omega)
      exact ⟨V, fV, by rw [zV, U_pow k (by omega), show n = -1 * 2 ^ 53 by omega, Int.pow_add]; ac_rfl⟩
    · obtain ⟨V, fV, zV⟩ := repE 1 (53 + (1074 - k)) (by decide) (by omega)
      exact ⟨V, fV, by rw [zV, U_pow k (by omega), show n = 1 * 2 ^ 53 by omega, Int.pow_add]; ac_rfl⟩
/-- and so are, with the infinities, the numbers up to 2^53 * 2^E -/
theorem repI (n : Int) (E : Nat) (hn : n.natAbs ≤ 2 ^ 53) (hE : E ≤ 2045) : ∃ V, Core.val64 V ≠ .nan ∧ zv V = n * 2 ^ E := by
  by_cases h : n.natAbs < 2 ^ 53
  · obtain ⟨V, fV, zV⟩ := repE n E h hE; exact ⟨V, notNan fV, zV⟩
  · by_cases hE2 : E + 53 ≤ 2045
    · by_cases hs : n < 0
      · obtain ⟨V, fV, zV⟩ := repE (-1) (53 + E) (by decide) (by omega)
        exact ⟨V, notNan fV, by rw [zV, show n = -1 * 2 ^ 53 by omega, Int.pow_add, Int.mul_assoc]⟩
      · obtain ⟨V, fV, zV⟩ := repE 1 (53 + E) (by decide) (by omega)
        exact ⟨V, notNan fV, by rw [zV, show n = 1 * 2 ^ 53 by omega, Int.pow_add, Int.mul_assoc]⟩
    · by_cases hE3 : E = 2045
      · subst hE3
        have v1 : Core.val64 9218868437227405312 = .inf false := by decide +kernel
        have v2 : Core.val64 18442240474082181120 = .inf true := by decide +kernel
        have z1 : Core.zmag Core.b64 (.inf false) = 2 ^ 53 * 2 ^ 2045 := by decide +kernel
        by_cases hs : n < 0
        · refine ⟨18442240474082181120, by rw [v2]; exact Core.Datum.noConfusion, ?_⟩
          unfold zv Core.zval; rw [v2]
          show Core.signed true (Core.zmag Core.b64 (.inf false)) = _
          rw [z1, Core.signed_mul, show n = -2 ^ 53 by omega, Int.natCast_pow]; rfl
        · refine ⟨9218868437227405312, by rw [v1]; exact Core.Datum.noConfusion, ?_⟩
          unfold zv Core.zval; rw [v1]
          show Core.signed false (Core.zmag Core.b64 (.inf false)) = _
          rw [z1, Core.signed_mul, show n = 2 ^ 53 by omega, Int.natCast_pow]; rfl
      · by_cases hs : n < 0
        · obtain ⟨V, fV, zV⟩ := repE (-2 ^ 52) (1 + E) (by decide) (by omega)
          exact ⟨V, notNan fV, by rw [zV, show n = -2 ^ 52 * 2 ^ 1 by omega, Int.pow_add, Int.mul_assoc]⟩
        · obtain ⟨V, fV, zV⟩ := repE (2 ^ 52) (1 + E) (by decide) (by omega)
          exact ⟨V, notNan fV, by rw [zV, show n = 2 ^ 52 * 2 ^ 1 by omega, Int.pow_add, Int.mul_assoc]⟩
theorem dmul_eq {a b V : UInt64} (ha : Core.DFin a) (hb : Core.DFin b) (hV : Core.val64 V ≠ .nan) (h : zv a * zv b = zv V * U) : zv (FP.dmul a b) = zv V := by
  have := dmul_le ha hb hV (Int.le_of_eq h); have := dmul_ge ha hb hV (Int.le_of_eq h.symm); omega
/-! ## values n / 2^k -/
/-- finite, and worth n / 2^k -/
def DS (n : Int) (k : Nat) (a : UInt64) : Prop := Core.DFin a ∧ zv a * 2 ^ k = n * U
def Le (a : UInt64) (n : Int) (k : Nat) : Prop := zv a * 2 ^ k ≤ n * U
def Ge (a : UInt64) (n : Int) (k : Nat) : Prop := n * U ≤ zv a * 2 ^ k
theorem DS.le {n : Int} {k : Nat} {a : UInt64} (h : DS n k a) : Le a n k := Int.le_of_eq h.2
theorem DS.ge {n : Int} {k : Nat} {a : UInt64} (h : DS n k a) : Ge a n k := Int.le_of_eq h.2.symm
theorem DS.int {i : Int} {a : UInt64} (h : Core.DInt i a) : DS i 0 a := by
  refine ⟨?_, ?_⟩
  · unfold Core.DInt at h
    cases e : Core.val64 a with
    | nan => rw [e] at h; exact h.elim
    | inf => rw [e] at h; exact h.elim
    | fin s c q => exact ⟨s, c, q, e⟩
  · show zv a * 2 ^ 0 = i * U
    rw [Int.pow_zero, Int.mul_one]; exact Core.DInt_zval h
theorem DS.i2d (x : Int32) : DS x.toInt 0 (FP.i2d x) := DS.int (Core.i2d_int x)
theorem DS.l2d {x : Int64} (h : x.toInt.natAbs ≤ 2 ^ 53) : DS x.toInt 0 (FP.l2d x) := DS.int (Core.l2d_int h)
theorem mul_cancel {a b c : Int} (hc : 0 < c) (h : a * c = b * c) : a = b := Int.eq_of_mul_eq_mul_right (by omega) h
theorem le_cancel {a b c : Int} (hc : 0 < c) (h : a * c ≤ b * c) : a ≤ b := Int.le_of_mul_le_mul_right h hc
theorem DS.up {n : Int} {k : Nat} {a : UInt64} (h : DS n k a) (j : Nat) : DS (n * 2 ^ j) (k + j) a := ⟨h.1, by
  rw [Int.pow_add, ← Int.mul_assoc, h.2]; grind⟩
theorem Le.up {n : Int} {k : Nat} {a : UInt64} (h : Le a n k) (j : Nat) : Le a (n * 2 ^ j) (k + j) := by
  unfold Le at *
  have := Int.mul_le_mul_of_nonneg_right h (Int.le_of_lt (pow_pos j))
  rw [Int.pow_add]; grind
theorem Ge.up {n : Int} {k : Nat} {a : UInt64} (h : Ge a n k) (j : Nat) : Ge a (n * 2 ^ j) (k + j) := by
  unfold Ge at *
  have := Int.mul_le_mul_of_nonneg_right h (Int.le_of_lt (pow_pos j))
  rw [Int.pow_add]; grind
/-- what lies between two bounds n / 2^k is finite -/
theorem fin_of {a : UInt64} {n m : Int} {k j : Nat} (nn : Core.val64 a ≠ .nan) (h1 : Ge a n k) (h2 : Le a m j) (bn : n.natAbs ≤ 2 ^ 53) (bm : m.natAbs ≤ 2 ^ 53) (hk : k ≤ 1000) (hj : j ≤ 1000) : Core.DFin a := by
  obtain ⟨V, fV, zV⟩ := rep n k bn hk
  obtain ⟨W, fW, zW⟩ := rep m j bm hj
  refine fin_between nn fV fW ?_ ?_
  · exact le_cancel (pow_pos k) (by unfold Ge at h1; omega)
  · exact le_cancel (pow_pos j) (by unfold Le at h2; omega)
theorem DS.of {a : UInt64} {n : Int} {k : Nat} (nn : Core.val64 a ≠ .nan) (h1 : Ge a n k) (h2 : Le a n k) (bn : n.natAbs ≤ 2 ^ 53) (hk : k ≤ 1000) : DS n k a :=
  ⟨fin_of nn h1 h2 bn bn hk hk, by unfold Ge at h1; unfold Le at h2; omega⟩
/-! the operations against bounds -/
theorem add_Le {a b : UInt64} {n m q : Int} {k : Nat} (fa : Core.DFin a) (fb : Core.DFin b) (ha : Le a n k) (hb : Le b m k) (h : n + m ≤ q) (bq : q.natAbs ≤ 2 ^ 53) (hk : k ≤ 1000) : Le (FP.dadd a b) q k := by
  obtain ⟨V, fV, zV⟩ := rep q k bq hk
  have h1 : zv (FP.dadd a b) ≤ zv V := dadd_le fa fb (notNan fV) (le_cancel (pow_pos k) (by
    unfold Le at ha hb
    rw [Int.add_mul, zV]
    have := Int.mul_le_mul_of_nonneg_right h (Int.le_of_lt U_pos)
    rw [Int.add_mul] at this; omega))
  unfold Le; rw [← zV]; exact Int.mul_le_mul_of_nonneg_right h1 (Int.le_of_lt (pow_pos k))
theorem add_Ge {a b : UInt64} {n m q : Int} {k : Nat} (fa : Core.DFin a) (fb : Core.DFin b) (ha : Ge a n k) (hb : Ge b m k) (h : q ≤ n + m) (bq : q.natAbs ≤ 2 ^ 53) (hk : k ≤ 1000) : Ge (FP.dadd a b) q k := by
  obtain ⟨V, fV, zV⟩ := rep q k bq hk
  have h1 : zv V ≤ zv (FP.dadd a b) := dadd_ge fa fb (notNan fV) (le_cancel (pow_pos k) (by
    unfold Ge at ha hb
    rw [Int.add_mul, zV]
    have := Int.mul_le_mul_of_nonneg_right h (Int.le_of_lt U_pos)
    rw [Int.add_mul] at this; omega))
  unfold Ge; rw [← zV]; exact Int.mul_le_mul_of_nonneg_right h1 (Int.le_of_lt (pow_pos k))
theorem DS.add {a b : UInt64} {n m : Int} {k : Nat} (ha : DS n k a) (hb : DS m k b) (bq : (n + m).natAbs ≤ 2 ^ 53) (hk : k ≤ 1000) : DS (n + m) k (FP.dadd a b) :=
  DS.of (dadd_nn ha.1 hb.1) (add_Ge ha.1 hb.1 ha.ge hb.ge (Int.le_refl _) bq hk) (add_Le ha.1 hb.1 ha.le hb.le (Int.le_refl _) bq hk) bq hk
theorem DS.neg {a : UInt64} {n : Int} {k : Nat} (ha : DS n k a) : DS (-n) k (FP.dneg a) := ⟨fin_dneg ha.1, by rw [zv_dneg, Int.neg_mul, ha.2, Int.neg_mul]⟩
theorem DS.sub {a b : UInt64} {n m : Int} {k : Nat} (ha : DS n k a) (hb : DS m k b) (bq : (n - m).natAbs ≤ 2 ^ 53) (hk : k ≤ 1000) : DS (n - m) k (FP.dsub a b) := by
  rw [dsub_dadd hb.1, show n - m = n + -m by omega]; exact ha.add hb.neg (by rw [← Int.sub_eq_add_neg]; exact bq) hk
theorem DS.mul {a b : UInt64} {n m : Int} {k j : Nat} (ha : DS n k a) (hb : DS m j b) (bq : (n * m).natAbs ≤ 2 ^ 53) (hk : k + j ≤ 1000) : DS (n * m) (k + j) (FP.dmul a b) := by
  obtain ⟨V, fV, zV⟩ := rep (n * m) (k + j) bq hk
  have e : zv a * zv b = zv V * U := by
    have h1 := ha.2; have h2 := hb.2
    refine mul_cancel (pow_pos (k + j)) ?_
    calc zv a * zv b * 2 ^ (k + j) = (zv a * 2 ^ k) * (zv b * 2 ^ j) := by rw [Int.pow_add]; grind
      _ = (n * U) * (m * U) := by rw [h1, h2]
      _ = (n * m * U) * U := by grind
      _ = zv V * U * 2 ^ (k + j) := by rw [← zV]; grind
  have g1 := dmul_le ha.1 hb.1 (notNan fV) (Int.le_of_eq e)
  have g2 := dmul_ge ha.1 hb.1 (notNan fV) (Int.le_of_eq e.symm)
  have g : zv (FP.dmul a b) = zv V := by omega
  exact ⟨fin_between (dmul_nn ha.1 hb.1) fV fV (by omega) (by omega), by rw [g, zV]⟩
theorem DS.pos {b : UInt64} {m : Int} {j : Nat} (hb : DS m j b) (hm : 0 < m) : 0 < zv b := by
  have h1 : 0 < zv b * 2 ^ j := by rw [hb.2]; exact Int.mul_pos hm U_pos
  exact Int.pos_of_mul_pos_left h1 (pow_pos j)
/-- a quotient against a bound q / 2^l -/
theorem div_Le {a b : UInt64} {n m q : Int} {k j l : Nat} (ha : DS n k a) (hb : DS m j b) (hm : 0 < m) (h : n * 2 ^ j * 2 ^ l ≤ q * m * 2 ^ k) (bq : q.natAbs ≤ 2 ^ 53) (hl : l ≤ 1000) : Le (FP.ddiv a b) q l := by
  obtain ⟨V, fV, zV⟩ := rep q l bq hl
  have h1 : zv (FP.ddiv a b) ≤ zv V := ddiv_le ha.1 hb.1 (hb.pos hm) (notNan fV) (by
    refine le_cancel (pow_pos (k + j + l)) ?_
    have e1 : zv a * U * 2 ^ (k + j + l) = (n * 2 ^ j * 2 ^ l) * (U * U) := by
      calc zv a * U * 2 ^ (k + j + l) = (zv a * 2 ^ k) * U * 2 ^ j * 2 ^ l := by rw [Int.pow_add, Int.pow_add]; grind
        _ = _ := by rw [ha.2]; grind
    have e2 : zv V * zv b * 2 ^ (k + j + l) = (q * m * 2 ^ k) * (U * U) := by
      calc zv V * zv b * 2 ^ (k + j + l) = (zv V * 2 ^ l) * (zv b * 2 ^ j) * 2 ^ k := by rw [Int.pow_add, Int.pow_add]; grind
        _ = _ := by rw [zV, hb.2]; grind
    rw [e1, e2]
    exact Int.mul_le_mul_of_nonneg_right h (Int.le_of_lt (Int.mul_pos U_pos U_pos)))
  unfold Le; rw [← zV]; exact Int.mul_le_mul_of_nonneg_right h1 (Int.le_of_lt (pow_pos l))
theorem div_Ge {a b : UInt64} {n m q : Int} {k j l : Nat} (ha : DS n k a) (hb : DS m j b) (hm : 0 < m) (h : q * m * 2 ^ k ≤ n * 2 ^ j * 2 ^ l) (bq : q.natAbs ≤ 2 ^ 53) (hl : l ≤ 1000) : Ge (FP.ddiv a b) q l := by
  obtain ⟨V, fV, zV⟩ := rep q l bq hl
  have h1 : zv V ≤ zv (FP.ddiv a b) := ddiv_ge ha.1 hb.1 (hb.pos hm) (notNan fV) (by
    refine le_cancel (pow_pos (k + j + l)) ?_
    have e1 : zv a * U * 2 ^ (k + j + l) = (n * 2 ^ j * 2 ^ l) * (U * U) := by
      calc zv a * U * 2 ^ (k + j + l) = (zv a * 2 ^ k) * U * 2 ^ j * 2 ^ l := by rw [Int.pow_add, Int.pow_add]; grind
        _ = _ := by rw [ha.2]; grind
    have e2 : zv V * zv b * 2 ^ (k + j + l) = (q * m * 2 ^ k) * (U * U) := by
      calc zv V * zv b * 2 ^ (k + j + l) = (zv V * 2 ^ l) * (zv b * 2 ^ j) * 2 ^ k := by rw [Int.pow_add, Int.pow_add]; grind
        _ = _ := by rw [zV, hb.2]; grind
    rw [e1, e2]
    exact Int.mul_le_mul_of_nonneg_right h (Int.le_of_lt (Int.mul_pos U_pos U_pos)))
  unfold Ge; rw [← zV]; exact Int.mul_le_mul_of_nonneg_right h1 (Int.le_of_lt (pow_pos l))
theorem DS.div {a b : UInt64} {n m q : Int} {k j l : Nat} (ha : DS n k a) (hb : DS m j b) (hm : 0 < m) (h : n * 2 ^ j * 2 ^ l = q * m * 2 ^ k) (bq : q.natAbs ≤ 2 ^ 53) (hl : l ≤ 1000) : DS q l (FP.ddiv a b) :=
  DS.of (ddiv_nn ha.1 hb.1 (hb.pos hm)) (div_Ge ha hb hm (Int.le_of_eq h.symm) bq hl) (div_Le ha hb hm (Int.le_of_eq h) bq hl) bq hl
/-! comparisons -/
theorem cmp_zv {a b : UInt64} (ha : Core.val64 a ≠ .nan) (hb : Core.val64 b ≠ .nan) : FP.dcmp a b = some (compare (zv a) (zv b)) := Core.dcmp_zval ha hb
theorem cmpV_of {a b : UInt64} (ha : Core.val64 a ≠ .nan) (hb : Core.val64 b ≠ .nan) (o : ClassFile.CmpOp) : Op.cmpValue (FP.dcmp a b) o = if zv a < zv b then -1 else if zv a = zv b then 0 else 1 := by
  rw [cmp_zv ha hb, Core.compare_ite]
  split
  · rfl
  · split <;> rfl
theorem cmp_gt {a b : UInt64} (ha : Core.val64 a ≠ .nan) (hb : Core.val64 b ≠ .nan) (h : zv b < zv a) (o : ClassFile.CmpOp) : Op.cmpValue (FP.dcmp a b) o = 1 := by
  rw [cmpV_of ha hb, if_neg (by omega), if_neg (by omega)]
theorem cmp_lt {a b : UInt64} (ha : Core.val64 a ≠ .nan) (hb : Core.val64 b ≠ .nan) (h : zv a < zv b) (o : ClassFile.CmpOp) : Op.cmpValue (FP.dcmp a b) o = -1 := by
  rw [cmpV_of ha hb, if_pos h]
theorem cmp_eq {a b : UInt64} (ha : Core.val64 a ≠ .nan) (hb : Core.val64 b ≠ .nan) (h : zv a = zv b) (o : ClassFile.CmpOp) : Op.cmpValue (FP.dcmp a b) o = 0 := by
  rw [cmpV_of ha hb, if_neg (by omega), if_pos h]
theorem zv_zero : zv FP.dconst0 = 0 := Core.zval64_zero
theorem cmp_neg {a b : UInt64} {k : Int32} {o : ClassFile.CmpOp} (h : Op.cmpValue (FP.dcmp a b) o = k) (ha : Core.val64 a ≠ .nan) (hb : Core.val64 b ≠ .nan) : k < 0 ↔ zv a < zv b := by
  rw [← h, cmpV_of ha hb]; split
  · exact ⟨fun _ => by assumption, fun _ => by decide⟩
  · split
    · exact ⟨fun h => absurd h (by decide), fun h => absurd h (by assumption)⟩
    · exact ⟨fun h => absurd h (by decide), fun h => absurd h (by assumption)⟩
theorem cmp_pos {a b : UInt64} {k : Int32} {o : ClassFile.CmpOp} (h : Op.cmpValue (FP.dcmp a b) o = k) (ha : Core.val64 a ≠ .nan) (hb : Core.val64 b ≠ .nan) : 0 < k ↔ zv b < zv a := by
  rw [← h, cmpV_of ha hb]; split
  · exact ⟨fun h => absurd h (by decide), fun h => by omega⟩
  · split
    · exact ⟨fun h => absurd h (by decide), fun h => by omega⟩
    · exact ⟨fun h => by omega, fun _ => by decide⟩
theorem cmp_nul {a b : UInt64} {k : Int32} {o : ClassFile.CmpOp} (h : Op.cmpValue (FP.dcmp a b) o = k) (ha : Core.val64 a ≠ .nan) (hb : Core.val64 b ≠ .nan) : k = 0 ↔ zv a = zv b := by
  rw [← h, cmpV_of ha hb]; split
  · exact ⟨fun h => absurd h (by decide), fun h => by omega⟩
  · split
    · exact ⟨fun _ => by assumption, fun _ => rfl⟩
    · exact ⟨fun h => absurd h (by decide), fun h => by omega⟩
theorem lt_of {a b : UInt64} {n m : Int} {k : Nat} (h1 : Le a n k) (h2 : Ge b m k) (h : n < m) : zv a < zv b := by
  unfold Le at h1; unfold Ge at h2
  have : n * U < m * U := Int.mul_lt_mul_of_pos_right h U_pos
  exact Int.lt_of_mul_lt_mul_right (a := 2 ^ k) (by omega) (Int.le_of_lt (pow_pos k))
theorem le_of {a b : UInt64} {n m : Int} {k : Nat} (h1 : Le a n k) (h2 : Ge b m k) (h : n ≤ m) : zv a ≤ zv b := by
  unfold Le at h1; unfold Ge at h2
  have : n * U ≤ m * U := Int.mul_le_mul_of_nonneg_right h (Int.le_of_lt U_pos)
  exact Int.le_of_mul_le_mul_right (a := 2 ^ k) (by omega) (pow_pos k)
theorem DS.cmp {a b : UInt64} {n m : Int} {k : Nat} (ha : DS n k a) (hb : DS m k b) (o : ClassFile.CmpOp) : Op.cmpValue (FP.dcmp a b) o = if n < m then -1 else if n = m then 0 else 1 := by
  rw [cmpV_of (notNan ha.1) (notNan hb.1)]
  by_cases h1 : n < m
  · rw [if_pos h1, if_pos (lt_of ha.le hb.ge h1)]
  · by_cases h2 : n = m
    · have e : zv a = zv b := by
        subst h2; have := le_of ha.le hb.ge (Int.le_refl _); have := le_of hb.le ha.ge (Int.le_refl _); omega
      rw [if_neg h1, if_pos h2, if_neg (by omega), if_pos e]
    · have := lt_of hb.le ha.ge (show m < n by omega)
      rw [if_neg h1, if_neg h2, if_neg (by omega), if_neg (by omega)]
theorem DS.zero : DS 0 0 FP.dconst0 := ⟨⟨false, 0, _, Core.val64_dconst0⟩, by
  have : zv FP.dconst0 = 0 := Core.zval64_zero
  rw [this]; simp⟩
theorem DS.one : DS 1 0 FP.dconst1 := DS.int Core.dint_one
theorem zv_one : zv FP.dconst1 = U := by have := DS.one.2; rwa [Int.pow_zero, Int.mul_one, Int.one_mul] at this
theorem DS.noNaN {n : Int} {k : Nat} {a : UInt64} (h : DS n k a) : Jvm.Free.Fl.NoNaN64 a := (Jvm.Free.Fl.fin64_core.mpr h.1).noNaN
theorem noNaN_of {a : UInt64} (h : Core.val64 a ≠ .nan) : Jvm.Free.Fl.NoNaN64 a := Jvm.Free.Fl.noNaN64_no.mpr ((Core.notNaN_iff a).mpr h)
end Jvm.OwnFP
namespace Jvm.OwnFP
open Jvm.FP
theorem sgn_pos {a : UInt64} (h : 0 < zv a) : Core.sgn (Core.val64 a) = false := by
  unfold zv Core.zval at h
  cases e : Core.sgn (Core.val64 a) with
  | false => rfl
  | true => rw [e] at h; simp only [Core.signed, if_true] at h; omega
/-- one quotient by two roads -/
theorem DS.div_same {a a' b b' : UInt64} {n d : Int} {k j : Nat} (ha : DS n k a) (ha' : DS n k a') (hb : DS d j b) (hb' : DS d j b') (hn : 0 < n) (hd : 0 < d) : FP.ddiv a b = FP.ddiv a' b' := by
  have e1 : zv a = zv a' := mul_cancel (pow_pos k) (by rw [ha.2, ha'.2])
  have e2 : zv b = zv b' := mul_cancel (pow_pos j) (by rw [hb.2, hb'.2])
  refine ddiv_congr ha.1 hb.1 (hb.pos hd) ha'.1 hb'.1 (hb'.pos hd) ?_ (by rw [e1, e2])
  rw [sgn_pos (ha.pos hn), sgn_pos (ha'.pos hn)]
end Jvm.OwnFP
namespace Jvm.OwnFP
open Jvm.FP
theorem Le.neg {a : UInt64} {n : Int} {k : Nat} (h : Le a n k) : Ge (FP.dneg a) (-n) k := by unfold Le at h; unfold Ge; rw [zv_dneg, Int.neg_mul, Int.neg_mul]; omega
theorem Ge.neg {a : UInt64} {n : Int} {k : Nat} (h : Ge a n k) : Le (FP.dneg a) (-n) k := by unfold Ge at h; unfold Le; rw [zv_dneg, Int.neg_mul, Int.neg_mul]; omega
theorem sub_Le {a b : UInt64} {n m q : Int} {k : Nat} (fa : Core.DFin a) (fb : Core.DFin b) (ha : Le a n k) (hb : Ge b m k) (h : n - m ≤ q) (bq : q.natAbs ≤ 2 ^ 53) (hk : k ≤ 1000) : Le (FP.dsub a b) q k := by
  rw [dsub_dadd fb]; exact add_Le fa (fin_dneg fb) ha hb.neg (by omega) bq hk
theorem sub_Ge {a b : UInt64} {n m q : Int} {k : Nat} (fa : Core.DFin a) (fb : Core.DFin b) (ha : Ge a n k) (hb : Le b m k) (h : q ≤ n - m) (bq : q.natAbs ≤ 2 ^ 53) (hk : k ≤ 1000) : Ge (FP.dsub a b) q k := by
  rw [dsub_dadd fb]; exact add_Ge fa (fin_dneg fb) ha hb.neg (by omega) bq hk
/-- one quotient at two scales -/
theorem DS.div_scale {a a' b b' : UInt64} {n d : Int} {k k' : Nat} (ha : DS n k a) (ha' : DS n k' a') (hb : DS d k b) (hb' : DS d k' b') (hn : 0 < n) (hd : 0 < d) : FP.ddiv a b = FP.ddiv a' b' := by
  refine ddiv_congr ha.1 hb.1 (hb.pos hd) ha'.1 hb'.1 (hb'.pos hd) ?_ ?_
  · rw [sgn_pos (ha.pos hn), sgn_pos (ha'.pos hn)]
  · refine mul_cancel (pow_pos (k + k')) ?_
    calc zv a * zv b' * 2 ^ (k + k') = (zv a * 2 ^ k) * (zv b' * 2 ^ k') := by rw [Int.pow_add]; ac_rfl
      _ = (zv a' * 2 ^ k') * (zv b * 2 ^ k) := by rw [ha.2, hb'.2, ha'.2, hb.2]
      _ = zv a' * zv b * 2 ^ (k + k') := by rw [Int.pow_add]; ac_rfl
end Jvm.OwnFP
namespace Jvm.Pilot.@@N@@
open Jvm Jvm.ClassFile Sem Op Lib Jvm.Free Jvm.Stand Jvm.LawKit Jvm.RoadKit Bundle Jvm.Pilot.@@N@@.Jvm.D
open Jvm.OwnFP Jvm.FP
theorem pn_com_example_detectability_detectability_ComparedProteinGetSpectraAPinLaw : plainName "com/example/detectability/detectability/ComparedProteinGetSpectraAPinLaw" = true := by first | (simp [plainName, overriddenIn]; done) | decide +kernel
theorem pn_com_example_detectability_detectability_ComparedProtein : plainName "com/example/detectability/detectability/ComparedProtein" = true := by first | (simp [plainName, overriddenIn]; done) | decide +kernel
theorem pn_com_example_detectability_detectability_ProteinAbundance : plainName "com/example/detectability/detectability/ProteinAbundance" = true := by first | (simp [plainName, overriddenIn]; done) | decide +kernel
theorem pd___V : parseMethodDescriptor "()V" = some ⟨[], none⟩ := by decide +kernel
theorem pd__Ljava_lang_String_Lcom_example_detectability_detectability_ProteinAbundance_Lcom_example_detectability_detectability_ProteinAbundance_DD_V : parseMethodDescriptor "(Ljava/lang/String;Lcom/example/detectability/detectability/ProteinAbundance;Lcom/example/detectability/detectability/ProteinAbundance;DD)V" = some ⟨[(.object "java/lang/String"), (.object "com/example/detectability/detectability/ProteinAbundance"), (.object "com/example/detectability/detectability/ProteinAbundance"), .double, .double], none⟩ := by decide +kernel
theorem pd__Ljava_lang_String_JD_V : parseMethodDescriptor "(Ljava/lang/String;JD)V" = some ⟨[(.object "java/lang/String"), .long, .double], none⟩ := by decide +kernel
theorem pd___J : parseMethodDescriptor "()J" = some ⟨[], some .long⟩ := by decide +kernel
theorem strW : ∀ d ∈ Bundle.stringAtoms, d ∈ tables_1 := by
  intro d hd
  simp only [Bundle.stringAtoms, List.mem_cons, List.not_mem_nil, or_false] at hd
  rcases hd with rfl | rfl | rfl | rfl | rfl | rfl | rfl
  · exact List.mem_of_getElem? (i := 4) rfl
  · exact List.mem_of_getElem? (i := 5) rfl
  · exact List.mem_of_getElem? (i := 6) rfl
  · exact List.mem_of_getElem? (i := 7) rfl
  · exact List.mem_of_getElem? (i := 8) rfl
  · exact List.mem_of_getElem? (i := 9) rfl
  · exact List.mem_of_getElem? (i := 10) rfl
theorem d1_0 : decode prog_30_method_1_code 0 = .ok (.aload_n 0, 1) := by decide +kernel
theorem d1_1 : decode prog_30_method_1_code 1 = .ok (.invokespecial 1, 3) := by decide +kernel
theorem d1_4 : decode prog_30_method_1_code 4 = .ok (.aload_n 0, 1) := by decide +kernel
theorem d1_5 : decode prog_30_method_1_code 5 = .ok (.aload_n 1, 1) := by decide +kernel
theorem d1_6 : decode prog_30_method_1_code 6 = .ok (.putfield 7, 3) := by decide +kernel
theorem d1_9 : decode prog_30_method_1_code 9 = .ok (.aload_n 0, 1) := by decide +kernel
theorem d1_10 : decode prog_30_method_1_code 10 = .ok (.lload_n 2, 1) := by decide +kernel
theorem d1_11 : decode prog_30_method_1_code 11 = .ok (.putfield 13, 3) := by decide +kernel
theorem d1_14 : decode prog_30_method_1_code 14 = .ok (.aload_n 0, 1) := by decide +kernel
theorem d1_15 : decode prog_30_method_1_code 15 = .ok (.dload 4, 2) := by decide +kernel
theorem d1_17 : decode prog_30_method_1_code 17 = .ok (.putfield 17, 3) := by decide +kernel
theorem d1_20 : decode prog_30_method_1_code 20 = .ok (.return_, 1) := by decide +kernel
theorem ef_pi (m : MethodId) (a1 : Addr) (ps : Addr) (pj : Int64) (pd : UInt64) : entryFrame m #[(.ref a1), (.ref ps), (.long pj), (.double pd)] 6 = (mkF m 0 #[.val (.ref a1), .val (.ref ps), .val (.long pj), .second, .val (.double pd), .second] []) := by first | (simp [entryFrame, mkF, argsToLocals, Value.category]; done) | rfl
def Q_pi (Z : State) (a1 : Addr) (ps : Addr) (pj : Int64) (pd : UInt64) (h0 : Heap) (n0 : Nat) (v : Option Value) (h : Heap) (L : List Loc) : Prop := v = none ∧ Fr n0 L ∧ Keep h0 h [a1] ∧ Exa Z h a1 "com/example/detectability/detectability/ProteinAbundance" ∧ Fld Z h a1 "com/example/detectability/detectability/ProteinAbundance" "name" "Ljava/lang/String;" (.ref ps) ∧ Fld Z h a1 "com/example/detectability/detectability/ProteinAbundance" "spectra" "J" (.long pj) ∧ Fld Z h a1 "com/example/detectability/detectability/ProteinAbundance" "abundance" "D" (.double pd)
set_option maxRecDepth 65536 in
set_option maxHeartbeats 2000000 in
theorem rm_pi (l : Launch) (Z : State) (a0 : Array Value) (hw : ∀ d ∈ tables_1, d.before a0 Z = true) (ws : List Jvm.Cond) (a1 : Addr) (ps : Addr) (pj : Int64) (pd : UInt64) (h0 : Heap) (n0 : Nat) (Z0 : n0 ≤ h0.size) (E_a1 : Exa Z h0 a1 "com/example/detectability/detectability/ProteinAbundance") (F_0 : Fld Z h0 a1 "com/example/detectability/detectability/ProteinAbundance" "name" "Ljava/lang/String;" .null) (F_1 : Fld Z h0 a1 "com/example/detectability/detectability/ProteinAbundance" "spectra" "J" (.long (0 : Int64))) (F_2 : Fld Z h0 a1 "com/example/detectability/detectability/ProteinAbundance" "abundance" "D" (.double (0 : UInt64))) (g_a1 : n0 ≤ a1) :
    MetFree l (⟨"com/example/detectability/detectability/ProteinAbundance", "<init>", "(Ljava/lang/String;JD)V"⟩ : MethodName) (head1 (Jvm.Cond.code (⟨"com/example/detectability/detectability/ProteinAbundance", "<init>", "(Ljava/lang/String;JD)V"⟩ : MethodName) prog_30_method_1_code 6 none :: ws) ({ frames := 1, cells := 0, slots := 0, locals := 12 } : Room)) (fun aa UU => aa = #[(.ref a1), (.ref ps), (.long pj), (.double pd)] ∧ Z.Warmed39 UU.vm ∧ UU.heap = h0) (fun _ _ _ _ _ => True) (fun _ UU oo UU' => ∃ v L, oo = .returned v ∧ Q_pi Z a1 ps pj pd h0 n0 v UU'.heap L ∧ FrameEnd UU oo UU' L ({ frames := 1, cells := 0, slots := 0, locals := 12 } : Room).cells ({ frames := 1, cells := 0, slots := 0, locals := 12 } : Room).slots) := by
  refine MetFree.of_bodySF (plainFor_of_name pn_com_example_detectability_detectability_ProteinAbundance) hisR ?_
  intro p e s m args below meth c s₁ Bd hml0 hP hK
  obtain ⟨rfl, hZ, hh⟩ := hP
  have hx := Bd.exec
  have hby := Bd.bytes
  have hml : c.maxLocals = 6 := hml0
  have hown : s.vm.findClass "com/example/detectability/detectability/ProteinAbundance" = some m.cls := findClass_of_methodNamed Bd.named
  have hnaM := (name_of_methodNamed Bd.named Bd.method).1
  have X0 : Stand p l e ({ frames := 1, cells := 0, slots := 0, locals := 12 } : Room) s m #[(.ref a1), (.ref ps), (.long pj), (.double pd)] below meth c s₁ [] 0 0 := Stand.of_body Bd
  have e0 : s₁.heap = h0 := by rw [← hh, Bd.state]; rfl
  have N0 := Fr.nil n0
  have pre0 : ∀ t, Steps p.tables e below (s₁.setTop (entryFrame m #[(.ref a1), (.ref ps), (.long pj), (.double pd)] 6)) t → Steps p.tables e below (s₁.setTop (entryFrame m #[(.ref a1), (.ref ps), (.long pj), (.double pd)] 6)) t := fun t k => k
  have c0 : ∀ t, Steps p.tables e below (s₁.setTop (mkF m 0 #[.val (.ref a1), .val (.ref ps), .val (.long pj), .second, .val (.double pd), .second] [])) t → Steps p.tables e below (s₁.setTop (entryFrame m #[(.ref a1), (.ref ps), (.long pj), (.double pd)] 6)) t := fun t k => castTop (ef_pi m a1 ps pj pd) k
  have K0 := Keep.refl h0 [a1]
  have c1 : ∀ t, Steps p.tables e below (s₁.setTop (mkF m 1 #[.val (.ref a1), .val (.ref ps), .val (.long pj), .second, .val (.double pd), .second] [(.ref a1)])) t → Steps p.tables e below (s₁.setTop (entryFrame m #[(.ref a1), (.ref ps), (.long pj), (.double pd)] 6)) t := fun t k => c0 t (by
    show Steps p.tables e below (s₁.setTop (mkF m 0 #[.val (.ref a1), .val (.ref ps), .val (.long pj), .second, .val (.double pd), .second] [])) _
    refine XS.aloadN X0.here hx rfl (hb hby d1_0) rfl rfl ?_
    show Steps p.tables e below (s₁.setTop (mkF m 1 #[.val (.ref a1), .val (.ref ps), .val (.long pj), .second, .val (.double pd), .second] [(.ref a1)])) _
    exact k)
  obtain ⟨T2, X2, e2, st2⟩ := initO X0 hx hZ hown (hw _ (List.mem_of_getElem? (i := 14) rfl)) (hw _ (List.mem_of_getElem? (i := 15) rfl)) (hw _ (List.mem_of_getElem? (i := 16) rfl)) e0 (g := (mkF m 1 #[.val (.ref a1), .val (.ref ps), .val (.long pj), .second, .val (.double pd), .second] [(.ref a1)])) rfl (by rw [hml]; rfl) rfl (hb hby d1_1) (by decide) (W := 0) (by show 2 * 0 + _ ≤ _; exact Nat.le_of_eq rfl) (by decide)
  have c3 : ∀ t, Steps p.tables e below (T2.setTop (mkF m 4 #[.val (.ref a1), .val (.ref ps), .val (.long pj), .second, .val (.double pd), .second] [])) t → Steps p.tables e below (s₁.setTop (entryFrame m #[(.ref a1), (.ref ps), (.long pj), (.double pd)] 6)) t := fun t k => c1 t (st2 _ k)
  have c4 : ∀ t, Steps p.tables e below (T2.setTop (mkF m 6 #[.val (.ref a1), .val (.ref ps), .val (.long pj), .second, .val (.double pd), .second] [(.ref ps), (.ref a1)])) t → Steps p.tables e below (s₁.setTop (entryFrame m #[(.ref a1), (.ref ps), (.long pj), (.double pd)] 6)) t := fun t k => c3 t (by
    show Steps p.tables e below (T2.setTop (mkF m 4 #[.val (.ref a1), .val (.ref ps), .val (.long pj), .second, .val (.double pd), .second] [])) _
    refine XS.aloadN X2.here hx rfl (hb hby d1_4) rfl rfl ?_
    show Steps p.tables e below (T2.setTop (mkF m 5 #[.val (.ref a1), .val (.ref ps), .val (.long pj), .second, .val (.double pd), .second] [(.ref a1)])) _
    refine XS.aloadN X2.here hx rfl (hb hby d1_5) rfl rfl ?_
    show Steps p.tables e below (T2.setTop (mkF m 6 #[.val (.ref a1), .val (.ref ps), .val (.long pj), .second, .val (.double pd), .second] [(.ref ps), (.ref a1)])) _
    exact k)
  obtain ⟨T5, h5, X5, e5, W5, st5⟩ := putF X2 hx hZ hown (host := "") (Or.inl (hw _ (List.mem_of_getElem? (i := 17) rfl))) Via.refl e2 F_0 E_a1 (Or.inr ⟨(hw _ (List.mem_of_getElem? (i := 18) rfl)), rfl, hnaM⟩) (hw _ (List.mem_of_getElem? (i := 1) rfl)) (ty := (.object "java/lang/String")) (by decide) rfl rfl (g := (mkF m 6 #[.val (.ref a1), .val (.ref ps), .val (.long pj), .second, .val (.double pd), .second] [(.ref ps), (.ref a1)])) rfl rfl (hb hby d1_6)
  have F6 : Fld Z h5 a1 "com/example/detectability/detectability/ProteinAbundance" "name" "Ljava/lang/String;" (.ref ps) := F_0.same W5
  have F7 : Exa Z h5 a1 "com/example/detectability/detectability/ProteinAbundance" := (E_a1.wr W5)
  have F8 : Fld Z h5 a1 "com/example/detectability/detectability/ProteinAbundance" "spectra" "J" (.long (0 : Int64)) := (F_1.other W5 (Or.inr (slot_ne (Or.inr (hw _ (List.mem_of_getElem? (i := 20) rfl))) (Or.inr (hw _ (List.mem_of_getElem? (i := 18) rfl))) (by decide) (t := .long) (t' := (.object "java/lang/String")) (by decide) (by decide))))
  have F9 : Fld Z h5 a1 "com/example/detectability/detectability/ProteinAbundance" "abundance" "D" (.double (0 : UInt64)) := (F_2.other W5 (Or.inr (slot_ne (Or.inr (hw _ (List.mem_of_getElem? (i := 22) rfl))) (Or.inr (hw _ (List.mem_of_getElem? (i := 18) rfl))) (by decide) (t := .double) (t' := (.object "java/lang/String")) (by decide) (by decide))))
  have N5 := Fr.snoc X5 N0 g_a1
  have K10 : Keep h0 h5 [a1] := K0.wr W5 (Or.inl (List.mem_of_getElem? (i := 0) rfl))
  have c11 : ∀ t, Steps p.tables e below (T5.setTop (mkF m 9 #[.val (.ref a1), .val (.ref ps), .val (.long pj), .second, .val (.double pd), .second] [])) t → Steps p.tables e below (s₁.setTop (entryFrame m #[(.ref a1), (.ref ps), (.long pj), (.double pd)] 6)) t := fun t k => c4 t (st5 _ k)
  have c12 : ∀ t, Steps p.tables e below (T5.setTop (mkF m 11 #[.val (.ref a1), .val (.ref ps), .val (.long pj), .second, .val (.double pd), .second] [(.long pj), (.ref a1)])) t → Steps p.tables e below (s₁.setTop (entryFrame m #[(.ref a1), (.ref ps), (.long pj), (.double pd)] 6)) t := fun t k => c11 t (by
    show Steps p.tables e below (T5.setTop (mkF m 9 #[.val (.ref a1), .val (.ref ps), .val (.long pj), .second, .val (.double pd), .second] [])) _
    refine XS.aloadN X5.here hx rfl (hb hby d1_9) rfl rfl ?_
    show Steps p.tables e below (T5.setTop (mkF m 10 #[.val (.ref a1), .val (.ref ps), .val (.long pj), .second, .val (.double pd), .second] [(.ref a1)])) _
    refine XT.lloadN X5.here hx rfl (hb hby d1_10) rfl ?_
    show Steps p.tables e below (T5.setTop (mkF m 11 #[.val (.ref a1), .val (.ref ps), .val (.long pj), .second, .val (.double pd), .second] [(.long pj), (.ref a1)])) _
    exact k)
  obtain ⟨T13, h13, X13, e13, W13, st13⟩ := putF X5 hx hZ hown (host := "") (Or.inl (hw _ (List.mem_of_getElem? (i := 19) rfl))) Via.refl e5 F8 F7 (Or.inr ⟨(hw _ (List.mem_of_getElem? (i := 20) rfl)), rfl, hnaM⟩) (hw _ (List.mem_of_getElem? (i := 1) rfl)) (ty := .long) (by decide) rfl rfl (g := (mkF m 11 #[.val (.ref a1), .val (.ref ps), .val (.long pj), .second, .val (.double pd), .second] [(.long pj), (.ref a1)])) rfl rfl (hb hby d1_11)
  have F14 : Fld Z h13 a1 "com/example/detectability/detectability/ProteinAbundance" "spectra" "J" (.long pj) := F8.same W13
  have F15 : Exa Z h13 a1 "com/example/detectability/detectability/ProteinAbundance" := (F7.wr W13)
  have F16 : Fld Z h13 a1 "com/example/detectability/detectability/ProteinAbundance" "name" "Ljava/lang/String;" (.ref ps) := (F6.other W13 (Or.inr (slot_ne (Or.inr (hw _ (List.mem_of_getElem? (i := 18) rfl))) (Or.inr (hw _ (List.mem_of_getElem? (i := 20) rfl))) (by decide) (t := (.object "java/lang/String")) (t' := .long) (by decide) (by decide))))
  have F17 : Fld Z h13 a1 "com/example/detectability/detectability/ProteinAbundance" "abundance" "D" (.double (0 : UInt64)) := (F9.other W13 (Or.inr (slot_ne (Or.inr (hw _ (List.mem_of_getElem? (i := 22) rfl))) (Or.inr (hw _ (List.mem_of_getElem? (i := 20) rfl))) (by decide) (t := .double) (t' := .long) (by decide) (by decide))))
  have N13 := Fr.snoc X13 N5 g_a1
  have K18 : Keep h0 h13 [a1] := K10.wr W13 (Or.inl (List.mem_of_getElem? (i := 0) rfl))
  have c19 : ∀ t, Steps p.tables e below (T13.setTop (mkF m 14 #[.val (.ref a1), .val (.ref ps), .val (.long pj), .second, .val (.double pd), .second] [])) t → Steps p.tables e below (s₁.setTop (entryFrame m #[(.ref a1), (.ref ps), (.long pj), (.double pd)] 6)) t := fun t k => c12 t (st13 _ k)
  have c20 : ∀ t, Steps p.tables e below (T13.setTop (mkF m 17 #[.val (.ref a1), .val (.ref ps), .val (.long pj), .second, .val (.double pd), .second] [(.double pd), (.ref a1)])) t → Steps p.tables e below (s₁.setTop (entryFrame m #[(.ref a1), (.ref ps), (.long pj), (.double pd)] 6)) t := fun t k => c19 t (by
    show Steps p.tables e below (T13.setTop (mkF m 14 #[.val (.ref a1), .val (.ref ps), .val (.long pj), .second, .val (.double pd), .second] [])) _
    refine XS.aloadN X13.here hx rfl (hb hby d1_14) rfl rfl ?_
    show Steps p.tables e below (T13.setTop (mkF m 15 #[.val (.ref a1), .val (.ref ps), .val (.long pj), .second, .val (.double pd), .second] [(.ref a1)])) _
    refine XS.dload X13.here hx rfl (hb hby d1_15) rfl ?_
    show Steps p.tables e below (T13.setTop (mkF m 17 #[.val (.ref a1), .val (.ref ps), .val (.long pj), .second, .val (.double pd), .second] [(.double pd), (.ref a1)])) _
    exact k)
  obtain ⟨T21, h21, X21, e21, W21, st21⟩ := putF X13 hx hZ hown (host := "") (Or.inl (hw _ (List.mem_of_getElem? (i := 21) rfl))) Via.refl e13 F17 F15 (Or.inr ⟨(hw _ (List.mem_of_getElem? (i := 22) rfl)), rfl, hnaM⟩) (hw _ (List.mem_of_getElem? (i := 1) rfl)) (ty := .double) (by decide) rfl rfl (g := (mkF m 17 #[.val (.ref a1), .val (.ref ps), .val (.long pj), .second, .val (.double pd), .second] [(.double pd), (.ref a1)])) rfl rfl (hb hby d1_17)
  have F22 : Fld Z h21 a1 "com/example/detectability/detectability/ProteinAbundance" "abundance" "D" (.double pd) := F17.same W21
  have F23 : Exa Z h21 a1 "com/example/detectability/detectability/ProteinAbundance" := (F15.wr W21)
  have F24 : Fld Z h21 a1 "com/example/detectability/detectability/ProteinAbundance" "name" "Ljava/lang/String;" (.ref ps) := (F16.other W21 (Or.inr (slot_ne (Or.inr (hw _ (List.mem_of_getElem? (i := 18) rfl))) (Or.inr (hw _ (List.mem_of_getElem? (i := 22) rfl))) (by decide) (t := (.object "java/lang/String")) (t' := .double) (by decide) (by decide))))
  have F25 : Fld Z h21 a1 "com/example/detectability/detectability/ProteinAbundance" "spectra" "J" (.long pj) := (F14.other W21 (Or.inr (slot_ne (Or.inr (hw _ (List.mem_of_getElem? (i := 20) rfl))) (Or.inr (hw _ (List.mem_of_getElem? (i := 22) rfl))) (by decide) (t := .long) (t' := .double) (by decide) (by decide))))
  have N21 := Fr.snoc X21 N13 g_a1
  have K26 : Keep h0 h21 [a1] := K18.wr W21 (Or.inl (List.mem_of_getElem? (i := 0) rfl))
  have c27 : ∀ t, Steps p.tables e below (T21.setTop (mkF m 20 #[.val (.ref a1), .val (.ref ps), .val (.long pj), .second, .val (.double pd), .second] [])) t → Steps p.tables e below (s₁.setTop (entryFrame m #[(.ref a1), (.ref ps), (.long pj), (.double pd)] 6)) t := fun t k => c20 t (st21 _ k)
  obtain ⟨fs, hr, hrun, hended, hW, hsame⟩ := X21.leave (v := none) (fun _ => rfl)
  refine ⟨_, _, pre0 _ (c27 _ (X21.returnOut hx Bd.returns (hb hby d1_20) hr)), hrun, hended, _, _, rfl, ?_, ⟨_, rfl⟩, hW, hsame.mono (by decide) (by decide)⟩
  show Q_pi Z a1 ps pj pd h0 n0 _ T21.heap _
  rw [e21]
  exact ⟨rfl, N21, K26, F23, F24, F25, F22⟩
theorem d5_0 : decode prog_30_method_3_code 0 = .ok (.aload_n 0, 1) := by decide +kernel
theorem d5_1 : decode prog_30_method_3_code 1 = .ok (.getfield 13, 3) := by decide +kernel
theorem d5_4 : decode prog_30_method_3_code 4 = .ok (.lreturn, 1) := by decide +kernel
theorem ef_pg (m : MethodId) (a1 : Addr) (pj : Int64) : entryFrame m #[(.ref a1)] 1 = (mkF m 0 #[.val (.ref a1)] []) := by first | (simp [entryFrame, mkF, argsToLocals, Value.category]; done) | rfl
def Q_pg (Z : State) (a1 : Addr) (pj : Int64) (h0 : Heap) (n0 : Nat) (v : Option Value) (h : Heap) (L : List Loc) : Prop := v = some (.long pj) ∧ Fr n0 L ∧ h = h0
set_option maxRecDepth 65536 in
set_option maxHeartbeats 2000000 in
theorem rm_pg (l : Launch) (Z : State) (a0 : Array Value) (hw : ∀ d ∈ tables_1, d.before a0 Z = true) (ws : List Jvm.Cond) (a1 : Addr) (pj : Int64) (h0 : Heap) (n0 : Nat) (Z0 : n0 ≤ h0.size) (G_0 : Fld Z h0 a1 "com/example/detectability/detectability/ProteinAbundance" "spectra" "J" (.long pj)) :
    MetFree l (⟨"com/example/detectability/detectability/ProteinAbundance", "getSpectra", "()J"⟩ : MethodName) (head1 (Jvm.Cond.code (⟨"com/example/detectability/detectability/ProteinAbundance", "getSpectra", "()J"⟩ : MethodName) prog_30_method_3_code 1 (some .long) :: ws) ({ frames := 0, cells := 0, slots := 0, locals := 0 } : Room)) (fun aa UU => aa = #[(.ref a1)] ∧ Z.Warmed39 UU.vm ∧ UU.heap = h0) (fun _ _ _ _ _ => True) (fun _ UU oo UU' => ∃ v L, oo = .returned v ∧ Q_pg Z a1 pj h0 n0 v UU'.heap L ∧ FrameEnd UU oo UU' L ({ frames := 0, cells := 0, slots := 0, locals := 0 } : Room).cells ({ frames := 0, cells := 0, slots := 0, locals := 0 } : Room).slots) := by
  refine MetFree.of_bodySF (plainFor_of_name pn_com_example_detectability_detectability_ProteinAbundance) hisR ?_
  intro p e s m args below meth c s₁ Bd hml0 hP hK
  obtain ⟨rfl, hZ, hh⟩ := hP
  have hx := Bd.exec
  have hby := Bd.bytes
  have hml : c.maxLocals = 1 := hml0
  have hown : s.vm.findClass "com/example/detectability/detectability/ProteinAbundance" = some m.cls := findClass_of_methodNamed Bd.named
  have hnaM := (name_of_methodNamed Bd.named Bd.method).1
  have X0 : Stand p l e ({ frames := 0, cells := 0, slots := 0, locals := 0 } : Room) s m #[(.ref a1)] below meth c s₁ [] 0 0 := Stand.of_body Bd
  have e0 : s₁.heap = h0 := by rw [← hh, Bd.state]; rfl
  have N0 := Fr.nil n0
  have pre0 : ∀ t, Steps p.tables e below (s₁.setTop (entryFrame m #[(.ref a1)] 1)) t → Steps p.tables e below (s₁.setTop (entryFrame m #[(.ref a1)] 1)) t := fun t k => k
  have c0 : ∀ t, Steps p.tables e below (s₁.setTop (mkF m 0 #[.val (.ref a1)] [])) t → Steps p.tables e below (s₁.setTop (entryFrame m #[(.ref a1)] 1)) t := fun t k => castTop (ef_pg m a1 pj) k
  have c1 : ∀ t, Steps p.tables e below (s₁.setTop (mkF m 1 #[.val (.ref a1)] [(.ref a1)])) t → Steps p.tables e below (s₁.setTop (entryFrame m #[(.ref a1)] 1)) t := fun t k => c0 t (by
    show Steps p.tables e below (s₁.setTop (mkF m 0 #[.val (.ref a1)] [])) _
    refine XS.aloadN X0.here hx rfl (hb hby d5_0) rfl rfl ?_
    show Steps p.tables e below (s₁.setTop (mkF m 1 #[.val (.ref a1)] [(.ref a1)])) _
    exact k)
  obtain ⟨T2, X2, e2, st2⟩ := getF X0 hx hZ hown (host := "") (Or.inl (hw _ (List.mem_of_getElem? (i := 19) rfl))) Via.refl e0 G_0 (g := (mkF m 1 #[.val (.ref a1)] [(.ref a1)])) rfl rfl (hb hby d5_1)
  have c3 : ∀ t, Steps p.tables e below (T2.setTop (mkF m 4 #[.val (.ref a1)] [(.long pj)])) t → Steps p.tables e below (s₁.setTop (entryFrame m #[(.ref a1)] 1)) t := fun t k => c1 t (st2 _ k)
  obtain ⟨fs, hr, hrun, hended, hW, hsame⟩ := X2.leave (v := (some (.long pj))) (fun h => by rw [Bd.returns] at h; cases h)
  refine ⟨_, _, pre0 _ (c3 _ (retOut X2 hx (t := .long) (i := .lreturn) Bd.returns rfl (Or.inr (Or.inl ⟨rfl, rfl, _, rfl⟩)) (hb hby d5_4) hr)), hrun, hended, _, _, rfl, ?_, ⟨_, rfl⟩, hW, hsame.mono (by decide) (by decide)⟩
  show Q_pg Z a1 pj h0 n0 _ T2.heap _
  rw [e2]
  exact ⟨rfl, N0, rfl⟩
theorem d3_0 : decode prog_4_method_1_code 0 = .ok (.aload_n 0, 1) := by decide +kernel
theorem d3_1 : decode prog_4_method_1_code 1 = .ok (.invokespecial 1, 3) := by decide +kernel
theorem d3_4 : decode prog_4_method_1_code 4 = .ok (.aload_n 0, 1) := by decide +kernel
theorem d3_5 : decode prog_4_method_1_code 5 = .ok (.aload_n 1, 1) := by decide +kernel
theorem d3_6 : decode prog_4_method_1_code 6 = .ok (.putfield 7, 3) := by decide +kernel
theorem d3_9 : decode prog_4_method_1_code 9 = .ok (.aload_n 0, 1) := by decide +kernel
theorem d3_10 : decode prog_4_method_1_code 10 = .ok (.aload_n 2, 1) := by decide +kernel
theorem d3_11 : decode prog_4_method_1_code 11 = .ok (.putfield 13, 3) := by decide +kernel
theorem d3_14 : decode prog_4_method_1_code 14 = .ok (.aload_n 0, 1) := by decide +kernel
theorem d3_15 : decode prog_4_method_1_code 15 = .ok (.aload_n 3, 1) := by decide +kernel
theorem d3_16 : decode prog_4_method_1_code 16 = .ok (.putfield 17, 3) := by decide +kernel
theorem d3_19 : decode prog_4_method_1_code 19 = .ok (.aload_n 0, 1) := by decide +kernel
theorem d3_20 : decode prog_4_method_1_code 20 = .ok (.dload 4, 2) := by decide +kernel
theorem d3_22 : decode prog_4_method_1_code 22 = .ok (.putfield 20, 3) := by decide +kernel
theorem d3_25 : decode prog_4_method_1_code 25 = .ok (.aload_n 0, 1) := by decide +kernel
theorem d3_26 : decode prog_4_method_1_code 26 = .ok (.dload 6, 2) := by decide +kernel
theorem d3_28 : decode prog_4_method_1_code 28 = .ok (.putfield 24, 3) := by decide +kernel
theorem d3_31 : decode prog_4_method_1_code 31 = .ok (.return_, 1) := by decide +kernel
theorem ef_ci00 (m : MethodId) (a1 : Addr) (ps : Addr) (pz : UInt64) (pp : UInt64) : entryFrame m #[(.ref a1), (.ref ps), .null, .null, (.double pz), (.double pp)] 8 = (mkF m 0 #[.val (.ref a1), .val (.ref ps), .val .null, .val .null, .val (.double pz), .second, .val (.double pp), .second] []) := by first | (simp [entryFrame, mkF, argsToLocals, Value.category]; done) | rfl
def Q_ci00 (Z : State) (a1 : Addr) (ps : Addr) (pz : UInt64) (pp : UInt64) (h0 : Heap) (n0 : Nat) (v : Option Value) (h : Heap) (L : List Loc) : Prop := v = none ∧ Fr n0 L ∧ Keep h0 h [a1] ∧ Exa Z h a1 "com/example/detectability/detectability/ComparedProtein" ∧ Fld Z h a1 "com/example/detectability/detectability/ComparedProtein" "name" "Ljava/lang/String;" (.ref ps) ∧ Fld Z h a1 "com/example/detectability/detectability/ComparedProtein" "inA" "Lcom/example/detectability/detectability/ProteinAbundance;" .null ∧ Fld Z h a1 "com/example/detectability/detectability/ComparedProtein" "inB" "Lcom/example/detectability/detectability/ProteinAbundance;" .null ∧ Fld Z h a1 "com/example/detectability/detectability/ComparedProtein" "z" "D" (.double pz) ∧ Fld Z h a1 "com/example/detectability/detectability/ComparedProtein" "p" "D" (.double pp)
set_option maxRecDepth 65536 in
set_option maxHeartbeats 2000000 in
theorem rm_ci00 (l : Launch) (Z : State) (a0 : Array Value) (hw : ∀ d ∈ tables_1, d.before a0 Z = true) (ws : List Jvm.Cond) (a1 : Addr) (ps : Addr) (pz : UInt64) (pp : UInt64) (h0 : Heap) (n0 : Nat) (Z0 : n0 ≤ h0.size) (E_a1 : Exa Z h0 a1 "com/example/detectability/detectability/ComparedProtein") (F_0 : Fld Z h0 a1 "com/example/detectability/detectability/ComparedProtein" "name" "Ljava/lang/String;" .null) (F_1 : Fld Z h0 a1 "com/example/detectability/detectability/ComparedProtein" "inA" "Lcom/example/detectability/detectability/ProteinAbundance;" .null) (F_2 : Fld Z h0 a1 "com/example/detectability/detectability/ComparedProtein" "inB" "Lcom/example/detectability/detectability/ProteinAbundance;" .null) (F_3 : Fld Z h0 a1 "com/example/detectability/detectability/ComparedProtein" "z" "D" (.double (0 : UInt64))) (F_4 : Fld Z h0 a1 "com/example/detectability/detectability/ComparedProtein" "p" "D" (.double (0 : UInt64))) (g_a1 : n0 ≤ a1) :
    MetFree l (⟨"com/example/detectability/detectability/ComparedProtein", "<init>", "(Ljava/lang/String;Lcom/example/detectability/detectability/ProteinAbundance;Lcom/example/detectability/detectability/ProteinAbundance;DD)V"⟩ : MethodName) (head1 (Jvm.Cond.code (⟨"com/example/detectability/detectability/ComparedProtein", "<init>", "(Ljava/lang/String;Lcom/example/detectability/detectability/ProteinAbundance;Lcom/example/detectability/detectability/ProteinAbundance;DD)V"⟩ : MethodName) prog_4_method_1_code 8 none :: ws) ({ frames := 1, cells := 0, slots := 0, locals := 12 } : Room)) (fun aa UU => aa = #[(.ref a1), (.ref ps), .null, .null, (.double pz), (.double pp)] ∧ Z.Warmed39 UU.vm ∧ UU.heap = h0) (fun _ _ _ _ _ => True) (fun _ UU oo UU' => ∃ v L, oo = .returned v ∧ Q_ci00 Z a1 ps pz pp h0 n0 v UU'.heap L ∧ FrameEnd UU oo UU' L ({ frames := 1, cells := 0, slots := 0, locals := 12 } : Room).cells ({ frames := 1, cells := 0, slots := 0, locals := 12 } : Room).slots) := by
  refine MetFree.of_bodySF (plainFor_of_name pn_com_example_detectability_detectability_ComparedProtein) hisR ?_
  intro p e s m args below meth c s₁ Bd hml0 hP hK
  obtain ⟨rfl, hZ, hh⟩ := hP
  have hx := Bd.exec
  have hby := Bd.bytes
  have hml : c.maxLocals = 8 := hml0
  have hown : s.vm.findClass "com/example/detectability/detectability/ComparedProtein" = some m.cls := findClass_of_methodNamed Bd.named
  have hnaM := (name_of_methodNamed Bd.named Bd.method).1
  have X0 : Stand p l e ({ frames := 1, cells := 0, slots := 0, locals := 12 } : Room) s m #[(.ref a1), (.ref ps), .null, .null, (.double pz), (.double pp)] below meth c s₁ [] 0 0 := Stand.of_body Bd
  have e0 : s₁.heap = h0 := by rw [← hh, Bd.state]; rfl
  have N0 := Fr.nil n0
  have pre0 : ∀ t, Steps p.tables e below (s₁.setTop (entryFrame m #[(.ref a1), (.ref ps), .null, .null, (.double pz), (.double pp)] 8)) t → Steps p.tables e below (s₁.setTop (entryFrame m #[(.ref a1), (.ref ps), .null, .null, (.double pz), (.double pp)] 8)) t := fun t k => k
  have c0 : ∀ t, Steps p.tables e below (s₁.setTop (mkF m 0 #[.val (.ref a1), .val (.ref ps), .val .null, .val .null, .val (.double pz), .second, .val (.double pp), .second] [])) t → Steps p.tables e below (s₁.setTop (entryFrame m #[(.ref a1), (.ref ps), .null, .null, (.double pz), (.double pp)] 8)) t := fun t k => castTop (ef_ci00 m a1 ps pz pp) k
  have K0 := Keep.refl h0 [a1]
  have c1 : ∀ t, Steps p.tables e below (s₁.setTop (mkF m 1 #[.val (.ref a1), .val (.ref ps), .val .null, .val .null, .val (.double pz), .second, .val (.double pp), .second] [(.ref a1)])) t → Steps p.tables e below (s₁.setTop (entryFrame m #[(.ref a1), (.ref ps), .null, .null, (.double pz), (.double pp)] 8)) t := fun t k => c0 t (by
    show Steps p.tables e below (s₁.setTop (mkF m 0 #[.val (.ref a1), .val (.ref ps), .val .null, .val .null, .val (.double pz), .second, .val (.double pp), .second] [])) _
    refine XS.aloadN X0.here hx rfl (hb hby d3_0) rfl rfl ?_
    show Steps p.tables e below (s₁.setTop (mkF m 1 #[.val (.ref a1), .val (.ref ps), .val .null, .val .null, .val (.double pz), .second, .val (.double pp), .second] [(.ref a1)])) _
    exact k)
  obtain ⟨T2, X2, e2, st2⟩ := initO X0 hx hZ hown (hw _ (List.mem_of_getElem? (i := 31) rfl)) (hw _ (List.mem_of_getElem? (i := 15) rfl)) (hw _ (List.mem_of_getElem? (i := 16) rfl)) e0 (g := (mkF m 1 #[.val (.ref a1), .val (.ref ps), .val .null, .val .null, .val (.double pz), .second, .val (.double pp), .second] [(.ref a1)])) rfl (by rw [hml]; rfl) rfl (hb hby d3_1) (by decide) (W := 0) (by show 2 * 0 + _ ≤ _; exact Nat.le_of_eq rfl) (by decide)
  have c3 : ∀ t, Steps p.tables e below (T2.setTop (mkF m 4 #[.val (.ref a1), .val (.ref ps), .val .null, .val .null, .val (.double pz), .second, .val (.double pp), .second] [])) t → Steps p.tables e below (s₁.setTop (entryFrame m #[(.ref a1), (.ref ps), .null, .null, (.double pz), (.double pp)] 8)) t := fun t k => c1 t (st2 _ k)
  have c4 : ∀ t, Steps p.tables e below (T2.setTop (mkF m 6 #[.val (.ref a1), .val (.ref ps), .val .null, .val .null, .val (.double pz), .second, .val (.double pp), .second] [(.ref ps), (.ref a1)])) t → Steps p.tables e below (s₁.setTop (entryFrame m #[(.ref a1), (.ref ps), .null, .null, (.double pz), (.double pp)] 8)) t := fun t k => c3 t (by
    show Steps p.tables e below (T2.setTop (mkF m 4 #[.val (.ref a1), .val (.ref ps), .val .null, .val .null, .val (.double pz), .second, .val (.double pp), .second] [])) _
    refine XS.aloadN X2.here hx rfl (hb hby d3_4) rfl rfl ?_
    show Steps p.tables e below (T2.setTop (mkF m 5 #[.val (.ref a1), .val (.ref ps), .val .null, .val .null, .val (.double pz), .second, .val (.double pp), .second] [(.ref a1)])) _
    refine XS.aloadN X2.here hx rfl (hb hby d3_5) rfl rfl ?_
    show Steps p.tables e below (T2.setTop (mkF m 6 #[.val (.ref a1), .val (.ref ps), .val .null, .val .null, .val (.double pz), .second, .val (.double pp), .second] [(.ref ps), (.ref a1)])) _
    exact k)
  obtain ⟨T5, h5, X5, e5, W5, st5⟩ := putF X2 hx hZ hown (host := "") (Or.inl (hw _ (List.mem_of_getElem? (i := 32) rfl))) Via.refl e2 F_0 E_a1 (Or.inr ⟨(hw _ (List.mem_of_getElem? (i := 33) rfl)), rfl, hnaM⟩) (hw _ (List.mem_of_getElem? (i := 25) rfl)) (ty := (.object "java/lang/String")) (by decide) rfl rfl (g := (mkF m 6 #[.val (.ref a1), .val (.ref ps), .val .null, .val .null, .val (.double pz), .second, .val (.double pp), .second] [(.ref ps), (.ref a1)])) rfl rfl (hb hby d3_6)
  have F6 : Fld Z h5 a1 "com/example/detectability/detectability/ComparedProtein" "name" "Ljava/lang/String;" (.ref ps) := F_0.same W5
  have F7 : Exa Z h5 a1 "com/example/detectability/detectability/ComparedProtein" := (E_a1.wr W5)
  have F8 : Fld Z h5 a1 "com/example/detectability/detectability/ComparedProtein" "inA" "Lcom/example/detectability/detectability/ProteinAbundance;" .null := (F_1.other W5 (Or.inr (slot_ne (Or.inr (hw _ (List.mem_of_getElem? (i := 35) rfl))) (Or.inr (hw _ (List.mem_of_getElem? (i := 33) rfl))) (by decide) (t := (.object "com/example/detectability/detectability/ProteinAbundance")) (t' := (.object "java/lang/String")) (by decide) (by decide))))
  have F9 : Fld Z h5 a1 "com/example/detectability/detectability/ComparedProtein" "inB" "Lcom/example/detectability/detectability/ProteinAbundance;" .null := (F_2.other W5 (Or.inr (slot_ne (Or.inr (hw _ (List.mem_of_getElem? (i := 37) rfl))) (Or.inr (hw _ (List.mem_of_getElem? (i := 33) rfl))) (by decide) (t := (.object "com/example/detectability/detectability/ProteinAbundance")) (t' := (.object "java/lang/String")) (by decide) (by decide))))
  have F10 : Fld Z h5 a1 "com/example/detectability/detectability/ComparedProtein" "z" "D" (.double (0 : UInt64)) := (F_3.other W5 (Or.inr (slot_ne (Or.inr (hw _ (List.mem_of_getElem? (i := 39) rfl))) (Or.inr (hw _ (List.mem_of_getElem? (i := 33) rfl))) (by decide) (t := .double) (t' := (.object "java/lang/String")) (by decide) (by decide))))
  have F11 : Fld Z h5 a1 "com/example/detectability/detectability/ComparedProtein" "p" "D" (.double (0 : UInt64)) := (F_4.other W5 (Or.inr (slot_ne (Or.inr (hw _ (List.mem_of_getElem? (i := 41) rfl))) (Or.inr (hw _ (List.mem_of_getElem? (i := 33) rfl))) (by decide) (t := .double) (t' := (.object "java/lang/String")) (by decide) (by decide))))
  have N5 := Fr.snoc X5 N0 g_a1
  have K12 : Keep h0 h5 [a1] := K0.wr W5 (Or.inl (List.mem_of_getElem? (i := 0) rfl))
  have c13 : ∀ t, Steps p.tables e below (T5.setTop (mkF m 9 #[.val (.ref a1), .val (.ref ps), .val .null, .val .null, .val (.double pz), .second, .val (.double pp), .second] [])) t → Steps p.tables e below (s₁.setTop (entryFrame m #[(.ref a1), (.ref ps), .null, .null, (.double pz), (.double pp)] 8)) t := fun t k => c4 t (st5 _ k)
  have c14 : ∀ t, Steps p.tables e below (T5.setTop (mkF m 11 #[.val (.ref a1), .val (.ref ps), .val .null, .val .null, .val (.double pz), .second, .val (.double pp), .second] [.null, (.ref a1)])) t → Steps p.tables e below (s₁.setTop (entryFrame m #[(.ref a1), (.ref ps), .null, .null, (.double pz), (.double pp)] 8)) t := fun t k => c13 t (by
    show Steps p.tables e below (T5.setTop (mkF m 9 #[.val (.ref a1), .val (.ref ps), .val .null, .val .null, .val (.double pz), .second, .val (.double pp), .second] [])) _
    refine XS.aloadN X5.here hx rfl (hb hby d3_9) rfl rfl ?_
    show Steps p.tables e below (T5.setTop (mkF m 10 #[.val (.ref a1), .val (.ref ps), .val .null, .val .null, .val (.double pz), .second, .val (.double pp), .second] [(.ref a1)])) _
    refine XS.aloadN X5.here hx rfl (hb hby d3_10) rfl rfl ?_
    show Steps p.tables e below (T5.setTop (mkF m 11 #[.val (.ref a1), .val (.ref ps), .val .null, .val .null, .val (.double pz), .second, .val (.double pp), .second] [.null, (.ref a1)])) _
    exact k)
  obtain ⟨T15, h15, X15, e15, W15, st15⟩ := putF X5 hx hZ hown (host := "") (Or.inl (hw _ (List.mem_of_getElem? (i := 34) rfl))) Via.refl e5 F8 F7 (Or.inr ⟨(hw _ (List.mem_of_getElem? (i := 35) rfl)), rfl, hnaM⟩) (hw _ (List.mem_of_getElem? (i := 25) rfl)) (ty := (.object "com/example/detectability/detectability/ProteinAbundance")) (by decide) rfl rfl (g := (mkF m 11 #[.val (.ref a1), .val (.ref ps), .val .null, .val .null, .val (.double pz), .second, .val (.double pp), .second] [.null, (.ref a1)])) rfl rfl (hb hby d3_11)
  have F16 : Fld Z h15 a1 "com/example/detectability/detectability/ComparedProtein" "inA" "Lcom/example/detectability/detectability/ProteinAbundance;" .null := F8.same W15
  have F17 : Exa Z h15 a1 "com/example/detectability/detectability/ComparedProtein" := (F7.wr W15)
  have F18 : Fld Z h15 a1 "com/example/detectability/detectability/ComparedProtein" "name" "Ljava/lang/String;" (.ref ps) := (F6.other W15 (Or.inr (slot_ne (Or.inr (hw _ (List.mem_of_getElem? (i := 33) rfl))) (Or.inr (hw _ (List.mem_of_getElem? (i := 35) rfl))) (by decide) (t := (.object "java/lang/String")) (t' := (.object "com/example/detectability/detectability/ProteinAbundance")) (by decide) (by decide))))
  have F19 : Fld Z h15 a1 "com/example/detectability/detectability/ComparedProtein" "inB" "Lcom/example/detectability/detectability/ProteinAbundance;" .null := (F9.other W15 (Or.inr (slot_ne (Or.inr (hw _ (List.mem_of_getElem? (i := 37) rfl))) (Or.inr (hw _ (List.mem_of_getElem? (i := 35) rfl))) (by decide) (t := (.object "com/example/detectability/detectability/ProteinAbundance")) (t' := (.object "com/example/detectability/detectability/ProteinAbundance")) (by decide) (by decide))))
  have F20 : Fld Z h15 a1 "com/example/detectability/detectability/ComparedProtein" "z" "D" (.double (0 : UInt64)) := (F10.other W15 (Or.inr (slot_ne (Or.inr (hw _ (List.mem_of_getElem? (i := 39) rfl))) (Or.inr (hw _ (List.mem_of_getElem? (i := 35) rfl))) (by decide) (t := .double) (t' := (.object "com/example/detectability/detectability/ProteinAbundance")) (by decide) (by decide))))
  have F21 : Fld Z h15 a1 "com/example/detectability/detectability/ComparedProtein" "p" "D" (.double (0 : UInt64)) := (F11.other W15 (Or.inr (slot_ne (Or.inr (hw _ (List.mem_of_getElem? (i := 41) rfl))) (Or.inr (hw _ (List.mem_of_getElem? (i := 35) rfl))) (by decide) (t := .double) (t' := (.object "com/example/detectability/detectability/ProteinAbundance")) (by decide) (by decide))))
  have N15 := Fr.snoc X15 N5 g_a1
  have K22 : Keep h0 h15 [a1] := K12.wr W15 (Or.inl (List.mem_of_getElem? (i := 0) rfl))
  have c23 : ∀ t, Steps p.tables e below (T15.setTop (mkF m 14 #[.val (.ref a1), .val (.ref ps), .val .null, .val .null, .val (.double pz), .second, .val (.double pp), .second] [])) t → Steps p.tables e below (s₁.setTop (entryFrame m #[(.ref a1), (.ref ps), .null, .null, (.double pz), (.double pp)] 8)) t := fun t k => c14 t (st15 _ k)
  have c24 : ∀ t, Steps p.tables e below (T15.setTop (mkF m 16 #[.val (.ref a1), .val (.ref ps), .val .null, .val .null, .val (.double pz), .second, .val (.double pp), .second] [.null, (.ref a1)])) t → Steps p.tables e below (s₁.setTop (entryFrame m #[(.ref a1), (.ref ps), .null, .null, (.double pz), (.double pp)] 8)) t := fun t k => c23 t (by
    show Steps p.tables e below (T15.setTop (mkF m 14 #[.val (.ref a1), .val (.ref ps), .val .null, .val .null, .val (.double pz), .second, .val (.double pp), .second] [])) _
    refine XS.aloadN X15.here hx rfl (hb hby d3_14) rfl rfl ?_
    show Steps p.tables e below (T15.setTop (mkF m 15 #[.val (.ref a1), .val (.ref ps), .val .null, .val .null, .val (.double pz), .second, .val (.double pp), .second] [(.ref a1)])) _
    refine XS.aloadN X15.here hx rfl (hb hby d3_15) rfl rfl ?_
    show Steps p.tables e below (T15.setTop (mkF m 16 #[.val (.ref a1), .val (.ref ps), .val .null, .val .null, .val (.double pz), .second, .val (.double pp), .second] [.null, (.ref a1)])) _
    exact k)
  obtain ⟨T25, h25, X25, e25, W25, st25⟩ := putF X15 hx hZ hown (host := "") (Or.inl (hw _ (List.mem_of_getElem? (i := 36) rfl))) Via.refl e15 F19 F17 (Or.inr ⟨(hw _ (List.mem_of_getElem? (i := 37) rfl)), rfl, hnaM⟩) (hw _ (List.mem_of_getElem? (i := 25) rfl)) (ty := (.object "com/example/detectability/detectability/ProteinAbundance")) (by decide) rfl rfl (g := (mkF m 16 #[.val (.ref a1), .val (.ref ps), .val .null, .val .null, .val (.double pz), .second, .val (.double pp), .second] [.null, (.ref a1)])) rfl rfl (hb hby d3_16)
  have F26 : Fld Z h25 a1 "com/example/detectability/detectability/ComparedProtein" "inB" "Lcom/example/detectability/detectability/ProteinAbundance;" .null := F19.same W25
  have F27 : Exa Z h25 a1 "com/example/detectability/detectability/ComparedProtein" := (F17.wr W25)
  have F28 : Fld Z h25 a1 "com/example/detectability/detectability/ComparedProtein" "name" "Ljava/lang/String;" (.ref ps) := (F18.other W25 (Or.inr (slot_ne (Or.inr (hw _ (List.mem_of_getElem? (i := 33) rfl))) (Or.inr (hw _ (List.mem_of_getElem? (i := 37) rfl))) (by decide) (t := (.object "java/lang/String")) (t' := (.object "com/example/detectability/detectability/ProteinAbundance")) (by decide) (by decide))))
  have F29 : Fld Z h25 a1 "com/example/detectability/detectability/ComparedProtein" "inA" "Lcom/example/detectability/detectability/ProteinAbundance;" .null := (F16.other W25 (Or.inr (slot_ne (Or.inr (hw _ (List.mem_of_getElem? (i := 35) rfl))) (Or.inr (hw _ (List.mem_of_getElem? (i := 37) rfl))) (by decide) (t := (.object "com/example/detectability/detectability/ProteinAbundance")) (t' := (.object "com/example/detectability/detectability/ProteinAbundance")) (by decide) (by decide))))
  have F30 : Fld Z h25 a1 "com/example/detectability/detectability/ComparedProtein" "z" "D" (.double (0 : UInt64)) := (F20.other W25 (Or.inr (slot_ne (Or.inr (hw _ (List.mem_of_getElem? (i := 39) rfl))) (Or.inr (hw _ (List.mem_of_getElem? (i := 37) rfl))) (by decide) (t := .double) (t' := (.object "com/example/detectability/detectability/ProteinAbundance")) (by decide) (by decide))))
  have F31 : Fld Z h25 a1 "com/example/detectability/detectability/ComparedProtein" "p" "D" (.double (0 : UInt64)) := (F21.other W25 (Or.inr (slot_ne (Or.inr (hw _ (List.mem_of_getElem? (i := 41) rfl))) (Or.inr (hw _ (List.mem_of_getElem? (i := 37) rfl))) (by decide) (t := .double) (t' := (.object "com/example/detectability/detectability/ProteinAbundance")) (by decide) (by decide))))
  have N25 := Fr.snoc X25 N15 g_a1
  have K32 : Keep h0 h25 [a1] := K22.wr W25 (Or.inl (List.mem_of_getElem? (i := 0) rfl))
  have c33 : ∀ t, Steps p.tables e below (T25.setTop (mkF m 19 #[.val (.ref a1), .val (.ref ps), .val .null, .val .null, .val (.double pz), .second, .val (.double pp), .second] [])) t → Steps p.tables e below (s₁.setTop (entryFrame m #[(.ref a1), (.ref ps), .null, .null, (.double pz), (.double pp)] 8)) t := fun t k => c24 t (st25 _ k)
  have c34 : ∀ t, Steps p.tables e below (T25.setTop (mkF m 22 #[.val (.ref a1), .val (.ref ps), .val .null, .val .null, .val (.double pz), .second, .val (.double pp), .second] [(.double pz), (.ref a1)])) t → Steps p.tables e below (s₁.setTop (entryFrame m #[(.ref a1), (.ref ps), .null, .null, (.double pz), (.double pp)] 8)) t := fun t k => c33 t (by
    show Steps p.tables e below (T25.setTop (mkF m 19 #[.val (.ref a1), .val (.ref ps), .val .null, .val .null, .val (.double pz), .second, .val (.double pp), .second] [])) _
    refine XS.aloadN X25.here hx rfl (hb hby d3_19) rfl rfl ?_
    show Steps p.tables e below (T25.setTop (mkF m 20 #[.val (.ref a1), .val (.ref ps), .val .null, .val .null, .val (.double pz), .second, .val (.double pp), .second] [(.ref a1)])) _
    refine XS.dload X25.here hx rfl (hb hby d3_20) rfl ?_
    show Steps p.tables e below (T25.setTop (mkF m 22 #[.val (.ref a1), .val (.ref ps), .val .null, .val .null, .val (.double pz), .second, .val (.double pp), .second] [(.double pz), (.ref a1)])) _
    exact k)
  obtain ⟨T35, h35, X35, e35, W35, st35⟩ := putF X25 hx hZ hown (host := "") (Or.inl (hw _ (List.mem_of_getElem? (i := 38) rfl))) Via.refl e25 F30 F27 (Or.inr ⟨(hw _ (List.mem_of_getElem? (i := 39) rfl)), rfl, hnaM⟩) (hw _ (List.mem_of_getElem? (i := 25) rfl)) (ty := .double) (by decide) rfl rfl (g := (mkF m 22 #[.val (.ref a1), .val (.ref ps), .val .null, .val .null, .val (.double pz), .second, .val (.double pp), .second] [(.double pz), (.ref a1)])) rfl rfl (hb hby d3_22)
  have F36 : Fld Z h35 a1 "com/example/detectability/detectability/ComparedProtein" "z" "D" (.double pz) := F30.same W35
  have F37 : Exa Z h35 a1 "com/example/detectability/detectability/ComparedProtein" := (F27.wr W35)
  have F38 : Fld Z h35 a1 "com/example/detectability/detectability/ComparedProtein" "name" "Ljava/lang/String;" (.ref ps) := (F28.other W35 (Or.inr (slot_ne (Or.inr (hw _ (List.mem_of_getElem? (i := 33) rfl))) (Or.inr (hw _ (List.mem_of_getElem? (i := 39) rfl))) (by decide) (t := (.object "java/lang/String")) (t' := .double) (by decide) (by decide))))
  have F39 : Fld Z h35 a1 "com/example/detectability/detectability/ComparedProtein" "inA" "Lcom/example/detectability/detectability/ProteinAbundance;" .null := (F29.other W35 (Or.inr (slot_ne (Or.inr (hw _ (List.mem_of_getElem? (i := 35) rfl))) (Or.inr (hw _ (List.mem_of_getElem? (i := 39) rfl))) (by decide) (t := (.object "com/example/detectability/detectability/ProteinAbundance")) (t' := .double) (by decide) (by decide))))
  have F40 : Fld Z h35 a1 "com/example/detectability/detectability/ComparedProtein" "inB" "Lcom/example/detectability/detectability/ProteinAbundance;" .null := (F26.other W35 (Or.inr (slot_ne (Or.inr (hw _ (List.mem_of_getElem? (i := 37) rfl))) (Or.inr (hw _ (List.mem_of_getElem? (i := 39) rfl))) (by decide) (t := (.object "com/example/detectability/detectability/ProteinAbundance")) (t' := .double) (by decide) (by decide))))
  have F41 : Fld Z h35 a1 "com/example/detectability/detectability/ComparedProtein" "p" "D" (.double (0 : UInt64)) := (F31.other W35 (Or.inr (slot_ne (Or.inr (hw _ (List.mem_of_getElem? (i := 41) rfl))) (Or.inr (hw _ (List.mem_of_getElem? (i := 39) rfl))) (by decide) (t := .double) (t' := .double) (by decide) (by decide))))
  have N35 := Fr.snoc X35 N25 g_a1
  have K42 : Keep h0 h35 [a1] := K32.wr W35 (Or.inl (List.mem_of_getElem? (i := 0) rfl))
  have c43 : ∀ t, Steps p.tables e below (T35.setTop (mkF m 25 #[.val (.ref a1), .val (.ref ps), .val .null, .val .null, .val (.double pz), .second, .val (.double pp), .second] [])) t → Steps p.tables e below (s₁.setTop (entryFrame m #[(.ref a1), (.ref ps), .null, .null, (.double pz), (.double pp)] 8)) t := fun t k => c34 t (st35 _ k)
  have c44 : ∀ t, Steps p.tables e below (T35.setTop (mkF m 28 #[.val (.ref a1), .val (.ref ps), .val .null, .val .null, .val (.double pz), .second, .val (.double pp), .second] [(.double pp), (.ref a1)])) t → Steps p.tables e below (s₁.setTop (entryFrame m #[(.ref a1), (.ref ps), .null, .null, (.double pz), (.double pp)] 8)) t := fun t k => c43 t (by
    show Steps p.tables e below (T35.setTop (mkF m 25 #[.val (.ref a1), .val (.ref ps), .val .null, .val .null, .val (.double pz), .second, .val (.double pp), .second] [])) _
    refine XS.aloadN X35.here hx rfl (hb hby d3_25) rfl rfl ?_
    show Steps p.tables e below (T35.setTop (mkF m 26 #[.val (.ref a1), .val (.ref ps), .val .null, .val .null, .val (.double pz), .second, .val (.double pp), .second] [(.ref a1)])) _
    refine XS.dload X35.here hx rfl (hb hby d3_26) rfl ?_
    show Steps p.tables e below (T35.setTop (mkF m 28 #[.val (.ref a1), .val (.ref ps), .val .null, .val .null, .val (.double pz), .second, .val (.double pp), .second] [(.double pp), (.ref a1)])) _
    exact k)
  obtain ⟨T45, h45, X45, e45, W45, st45⟩ := putF X35 hx hZ hown (host := "") (Or.inl (hw _ (List.mem_of_getElem? (i := 40) rfl))) Via.refl e35 F41 F37 (Or.inr ⟨(hw _ (List.mem_of_getElem? (i := 41) rfl)), rfl, hnaM⟩) (hw _ (List.mem_of_getElem? (i := 25) rfl)) (ty := .double) (by decide) rfl rfl (g := (mkF m 28 #[.val (.ref a1), .val (.ref ps), .val .null, .val .null, .val (.double pz), .second, .val (.double pp), .second] [(.double pp), (.ref a1)])) rfl rfl (hb hby d3_28)
  have F46 : Fld Z h45 a1 "com/example/detectability/detectability/ComparedProtein" "p" "D" (.double pp) := F41.same W45
  have F47 : Exa Z h45 a1 "com/example/detectability/detectability/ComparedProtein" := (F37.wr W45)
  have F48 : Fld Z h45 a1 "com/example/detectability/detectability/ComparedProtein" "name" "Ljava/lang/String;" (.ref ps) := (F38.other W45 (Or.inr (slot_ne (Or.inr (hw _ (List.mem_of_getElem? (i := 33) rfl))) (Or.inr (hw _ (List.mem_of_getElem? (i := 41) rfl))) (by decide) (t := (.object "java/lang/String")) (t' := .double) (by decide) (by decide))))
  have F49 : Fld Z h45 a1 "com/example/detectability/detectability/ComparedProtein" "inA" "Lcom/example/detectability/detectability/ProteinAbundance;" .null := (F39.other W45 (Or.inr (slot_ne (Or.inr (hw _ (List.mem_of_getElem? (i := 35) rfl))) (Or.inr (hw _ (List.mem_of_getElem? (i := 41) rfl))) (by decide) (t := (.object "com/example/detectability/detectability/ProteinAbundance")) (t' := .double) (by decide) (by decide))))
  have F50 : Fld Z h45 a1 "com/example/detectability/detectability/ComparedProtein" "inB" "Lcom/example/detectability/detectability/ProteinAbundance;" .null := (F40.other W45 (Or.inr (slot_ne (Or.inr (hw _ (List.mem_of_getElem? (i := 37) rfl))) (Or.inr (hw _ (List.mem_of_getElem? (i := 41) rfl))) (by decide) (t := (.object "com/example/detectability/detectability/ProteinAbundance")) (t' := .double) (by decide) (by decide))))
  have F51 : Fld Z h45 a1 "com/example/detectability/detectability/ComparedProtein" "z" "D" (.double pz) := (F36.other W45 (Or.inr (slot_ne (Or.inr (hw _ (List.mem_of_getElem? (i := 39) rfl))) (Or.inr (hw _ (List.mem_of_getElem? (i := 41) rfl))) (by decide) (t := .double) (t' := .double) (by decide) (by decide))))
  have N45 := Fr.snoc X45 N35 g_a1
  have K52 : Keep h0 h45 [a1] := K42.wr W45 (Or.inl (List.mem_of_getElem? (i := 0) rfl))
  have c53 : ∀ t, Steps p.tables e below (T45.setTop (mkF m 31 #[.val (.ref a1), .val (.ref ps), .val .null, .val .null, .val (.double pz), .second, .val (.double pp), .second] [])) t → Steps p.tables e below (s₁.setTop (entryFrame m #[(.ref a1), (.ref ps), .null, .null, (.double pz), (.double pp)] 8)) t := fun t k => c44 t (st45 _ k)
  obtain ⟨fs, hr, hrun, hended, hW, hsame⟩ := X45.leave (v := none) (fun _ => rfl)
  refine ⟨_, _, pre0 _ (c53 _ (X45.returnOut hx Bd.returns (hb hby d3_31) hr)), hrun, hended, _, _, rfl, ?_, ⟨_, rfl⟩, hW, hsame.mono (by decide) (by decide)⟩
  show Q_ci00 Z a1 ps pz pp h0 n0 _ T45.heap _
  rw [e45]
  exact ⟨rfl, N45, K52, F47, F48, F49, F50, F51, F46⟩
theorem ef_ci01 (m : MethodId) (a1 : Addr) (ps : Addr) (pb : Addr) (pz : UInt64) (pp : UInt64) : entryFrame m #[(.ref a1), (.ref ps), .null, (.ref pb), (.double pz), (.double pp)] 8 = (mkF m 0 #[.val (.ref a1), .val (.ref ps), .val .null, .val (.ref pb), .val (.double pz), .second, .val (.double pp), .second] []) := by first | (simp [entryFrame, mkF, argsToLocals, Value.category]; done) | rfl
def Q_ci01 (Z : State) (a1 : Addr) (ps : Addr) (pb : Addr) (pz : UInt64) (pp : UInt64) (h0 : Heap) (n0 : Nat) (v : Option Value) (h : Heap) (L : List Loc) : Prop := v = none ∧ Fr n0 L ∧ Keep h0 h [a1] ∧ Exa Z h a1 "com/example/detectability/detectability/ComparedProtein" ∧ Fld Z h a1 "com/example/detectability/detectability/ComparedProtein" "name" "Ljava/lang/String;" (.ref ps) ∧ Fld Z h a1 "com/example/detectability/detectability/ComparedProtein" "inA" "Lcom/example/detectability/detectability/ProteinAbundance;" .null ∧ Fld Z h a1 "com/example/detectability/detectability/ComparedProtein" "inB" "Lcom/example/detectability/detectability/ProteinAbundance;" (.ref pb) ∧ Fld Z h a1 "com/example/detectability/detectability/ComparedProtein" "z" "D" (.double pz) ∧ Fld Z h a1 "com/example/detectability/detectability/ComparedProtein" "p" "D" (.double pp)
set_option maxRecDepth 65536 in
set_option maxHeartbeats 2000000 in
theorem rm_ci01 (l : Launch) (Z : State) (a0 : Array Value) (hw : ∀ d ∈ tables_1, d.before a0 Z = true) (ws : List Jvm.Cond) (a1 : Addr) (ps : Addr) (pb : Addr) (pz : UInt64) (pp : UInt64) (h0 : Heap) (n0 : Nat) (Z0 : n0 ≤ h0.size) (E_a1 : Exa Z h0 a1 "com/example/detectability/detectability/ComparedProtein") (F_0 : Fld Z h0 a1 "com/example/detectability/detectability/ComparedProtein" "name" "Ljava/lang/String;" .null) (F_1 : Fld Z h0 a1 "com/example/detectability/detectability/ComparedProtein" "inA" "Lcom/example/detectability/detectability/ProteinAbundance;" .null) (F_2 : Fld Z h0 a1 "com/example/detectability/detectability/ComparedProtein" "inB" "Lcom/example/detectability/detectability/ProteinAbundance;" .null) (F_3 : Fld Z h0 a1 "com/example/detectability/detectability/ComparedProtein" "z" "D" (.double (0 : UInt64))) (F_4 : Fld Z h0 a1 "com/example/detectability/detectability/ComparedProtein" "p" "D" (.double (0 : UInt64))) (g_a1 : n0 ≤ a1) :
    MetFree l (⟨"com/example/detectability/detectability/ComparedProtein", "<init>", "(Ljava/lang/String;Lcom/example/detectability/detectability/ProteinAbundance;Lcom/example/detectability/detectability/ProteinAbundance;DD)V"⟩ : MethodName) (head1 (Jvm.Cond.code (⟨"com/example/detectability/detectability/ComparedProtein", "<init>", "(Ljava/lang/String;Lcom/example/detectability/detectability/ProteinAbundance;Lcom/example/detectability/detectability/ProteinAbundance;DD)V"⟩ : MethodName) prog_4_method_1_code 8 none :: ws) ({ frames := 1, cells := 0, slots := 0, locals := 12 } : Room)) (fun aa UU => aa = #[(.ref a1), (.ref ps), .null, (.ref pb), (.double pz), (.double pp)] ∧ Z.Warmed39 UU.vm ∧ UU.heap = h0) (fun _ _ _ _ _ => True) (fun _ UU oo UU' => ∃ v L, oo = .returned v ∧ Q_ci01 Z a1 ps pb pz pp h0 n0 v UU'.heap L ∧ FrameEnd UU oo UU' L ({ frames := 1, cells := 0, slots := 0, locals := 12 } : Room).cells ({ frames := 1, cells := 0, slots := 0, locals := 12 } : Room).slots) := by
  refine MetFree.of_bodySF (plainFor_of_name pn_com_example_detectability_detectability_ComparedProtein) hisR ?_
  intro p e s m args below meth c s₁ Bd hml0 hP hK
  obtain ⟨rfl, hZ, hh⟩ := hP
  have hx := Bd.exec
  have hby := Bd.bytes
  have hml : c.maxLocals = 8 := hml0
  have hown : s.vm.findClass "com/example/detectability/detectability/ComparedProtein" = some m.cls := findClass_of_methodNamed Bd.named
  have hnaM := (name_of_methodNamed Bd.named Bd.method).1
  have X0 : Stand p l e ({ frames := 1, cells := 0, slots := 0, locals := 12 } : Room) s m #[(.ref a1), (.ref ps), .null, (.ref pb), (.double pz), (.double pp)] below meth c s₁ [] 0 0 := Stand.of_body Bd
  have e0 : s₁.heap = h0 := by rw [← hh, Bd.state]; rfl
  have N0 := Fr.nil n0
  have pre0 : ∀ t, Steps p.tables e below (s₁.setTop (entryFrame m #[(.ref a1), (.ref ps), .null, (.ref pb), (.double pz), (.double pp)] 8)) t → Steps p.tables e below (s₁.setTop (entryFrame m #[(.ref a1), (.ref ps), .null, (.ref pb), (.double pz), (.double pp)] 8)) t := fun t k => k
  have c0 : ∀ t, Steps p.tables e below (s₁.setTop (mkF m 0 #[.val (.ref a1), .val (.ref ps), .val .null, .val (.ref pb), .val (.double pz), .second, .val (.double pp), .second] [])) t → Steps p.tables e below (s₁.setTop (entryFrame m #[(.ref a1), (.ref ps), .null, (.ref pb), (.double pz), (.double pp)] 8)) t := fun t k => castTop (ef_ci01 m a1 ps pb pz pp) k
  have K0 := Keep.refl h0 [a1]
  have c1 : ∀ t, Steps p.tables e below (s₁.setTop (mkF m 1 #[.val (.ref a1), .val (.ref ps), .val .null, .val (.ref pb), .val (.double pz), .second, .val (.double pp), .second] [(.ref a1)])) t → Steps p.tables e below (s₁.setTop (entryFrame m #[(.ref a1), (.ref ps), .null, (.ref pb), (.double pz), (.double pp)] 8)) t := fun t k => c0 t (by
    show Steps p.tables e below (s₁.setTop (mkF m 0 #[.val (.ref a1), .val (.ref ps), .val .null, .val (.ref pb), .val (.double pz), .second, .val (.double pp), .second] [])) _
    refine XS.aloadN X0.here hx rfl (hb hby d3_0) rfl rfl ?_
    show Steps p.tables e below (s₁.setTop (mkF m 1 #[.val (.ref a1), .val (.ref ps), .val .null, .val (.ref pb), .val (.double pz), .second, .val (.double pp), .second] [(.ref a1)])) _
    exact k)
  obtain ⟨T2, X2, e2, st2⟩ := initO X0 hx hZ hown (hw _ (List.mem_of_getElem? (i := 31) rfl)) (hw _ (List.mem_of_getElem? (i := 15) rfl)) (hw _ (List.mem_of_getElem? (i := 16) rfl)) e0 (g := (mkF m 1 #[.val (.ref a1), .val (.ref ps), .val .null, .val (.ref pb), .val (.double pz), .second, .val (.double pp), .second] [(.ref a1)])) rfl (by rw [hml]; rfl) rfl (hb hby d3_1) (by decide) (W := 0) (by show 2 * 0 + _ ≤ _; exact Nat.le_of_eq rfl) (by decide)
  have c3 : ∀ t, Steps p.tables e below (T2.setTop (mkF m 4 #[.val (.ref a1), .val (.ref ps), .val .null, .val (.ref pb), .val (.double pz), .second, .val (.double pp), .second] [])) t → Steps p.tables e below (s₁.setTop (entryFrame m #[(.ref a1), (.ref ps), .null, (.ref pb), (.double pz), (.double pp)] 8)) t := fun t k => c1 t (st2 _ k)
  have c4 : ∀ t, Steps p.tables e below (T2.setTop (mkF m 6 #[.val (.ref a1), .val (.ref ps), .val .null, .val (.ref pb), .val (.double pz), .second, .val (.double pp), .second] [(.ref ps), (.ref a1)])) t → Steps p.tables e below (s₁.setTop (entryFrame m #[(.ref a1), (.ref ps), .null, (.ref pb), (.double pz), (.double pp)] 8)) t := fun t k => c3 t (by
    show Steps p.tables e below (T2.setTop (mkF m 4 #[.val (.ref a1), .val (.ref ps), .val .null, .val (.ref pb), .val (.double pz), .second, .val (.double pp), .second] [])) _
    refine XS.aloadN X2.here hx rfl (hb hby d3_4) rfl rfl ?_
    show Steps p.tables e below (T2.setTop (mkF m 5 #[.val (.ref a1), .val (.ref ps), .val .null, .val (.ref pb), .val (.double pz), .second, .val (.double pp), .second] [(.ref a1)])) _
    refine XS.aloadN X2.here hx rfl (hb hby d3_5) rfl rfl ?_
    show Steps p.tables e below (T2.setTop (mkF m 6 #[.val (.ref a1), .val (.ref ps), .val .null, .val (.ref pb), .val (.double pz), .second, .val (.double pp), .second] [(.ref ps), (.ref a1)])) _
    exact k)
  obtain ⟨T5, h5, X5, e5, W5, st5⟩ := putF X2 hx hZ hown (host := "") (Or.inl (hw _ (List.mem_of_getElem? (i := 32) rfl))) Via.refl e2 F_0 E_a1 (Or.inr ⟨(hw _ (List.mem_of_getElem? (i := 33) rfl)), rfl, hnaM⟩) (hw _ (List.mem_of_getElem? (i := 25) rfl)) (ty := (.object "java/lang/String")) (by decide) rfl rfl (g := (mkF m 6 #[.val (.ref a1), .val (.ref ps), .val .null, .val (.ref pb), .val (.double pz), .second, .val (.double pp), .second] [(.ref ps), (.ref a1)])) rfl rfl (hb hby d3_6)
  have F6 : Fld Z h5 a1 "com/example/detectability/detectability/ComparedProtein" "name" "Ljava/lang/String;" (.ref ps) := F_0.same W5
  have F7 : Exa Z h5 a1 "com/example/detectability/detectability/ComparedProtein" := (E_a1.wr W5)
  have F8 : Fld Z h5 a1 "com/example/detectability/detectability/ComparedProtein" "inA" "Lcom/example/detectability/detectability/ProteinAbundance;" .null := (F_1.other W5 (Or.inr (slot_ne (Or.inr (hw _ (List.mem_of_getElem? (i := 35) rfl))) (Or.inr (hw _ (List.mem_of_getElem? (i := 33) rfl))) (by decide) (t := (.object "com/example/detectability/detectability/ProteinAbundance")) (t' := (.object "java/lang/String")) (by decide) (by decide))))
  have F9 : Fld Z h5 a1 "com/example/detectability/detectability/ComparedProtein" "inB" "Lcom/example/detectability/detectability/ProteinAbundance;" .null := (F_2.other W5 (Or.inr (slot_ne (Or.inr (hw _ (List.mem_of_getElem? (i := 37) rfl))) (Or.inr (hw _ (List.mem_of_getElem? (i := 33) rfl))) (by decide) (t := (.object "com/example/detectability/detectability/ProteinAbundance")) (t' := (.object "java/lang/String")) (by decide) (by decide))))
  have F10 : Fld Z h5 a1 "com/example/detectability/detectability/ComparedProtein" "z" "D" (.double (0 : UInt64)) := (F_3.other W5 (Or.inr (slot_ne (Or.inr (hw _ (List.mem_of_getElem? (i := 39) rfl))) (Or.inr (hw _ (List.mem_of_getElem? (i := 33) rfl))) (by decide) (t := .double) (t' := (.object "java/lang/String")) (by decide) (by decide))))
  have F11 : Fld Z h5 a1 "com/example/detectability/detectability/ComparedProtein" "p" "D" (.double (0 : UInt64)) := (F_4.other W5 (Or.inr (slot_ne (Or.inr (hw _ (List.mem_of_getElem? (i := 41) rfl))) (Or.inr (hw _ (List.mem_of_getElem? (i := 33) rfl))) (by decide) (t := .double) (t' := (.object "java/lang/String")) (by decide) (by decide))))
  have N5 := Fr.snoc X5 N0 g_a1
  have K12 : Keep h0 h5 [a1] := K0.wr W5 (Or.inl (List.mem_of_getElem? (i := 0) rfl))
  have c13 : ∀ t, Steps p.tables e below (T5.setTop (mkF m 9 #[.val (.ref a1), .val (.ref ps), .val .null, .val (.ref pb), .val (.double pz), .second, .val (.double pp), .second] [])) t → Steps p.tables e below (s₁.setTop (entryFrame m #[(.ref a1), (.ref ps), .null, (.ref pb), (.double pz), (.double pp)] 8)) t := fun t k => c4 t (st5 _ k)
  have c14 : ∀ t, Steps p.tables e below (T5.setTop (mkF m 11 #[.val (.ref a1), .val (.ref ps), .val .null, .val (.ref pb), .val (.double pz), .second, .val (.double pp), .second] [.null, (.ref a1)])) t → Steps p.tables e below (s₁.setTop (entryFrame m #[(.ref a1), (.ref ps), .null, (.ref pb), (.double pz), (.double pp)] 8)) t := fun t k => c13 t (by
    show Steps p.tables e below (T5.setTop (mkF m 9 #[.val (.ref a1), .val (.ref ps), .val .null, .val (.ref pb), .val (.double pz), .second, .val (.double pp), .second] [])) _
    refine XS.aloadN X5.here hx rfl (hb hby d3_9) rfl rfl ?_
    show Steps p.tables e below (T5.setTop (mkF m 10 #[.val (.ref a1), .val (.ref ps), .val .null, .val (.ref pb), .val (.double pz), .second, .val (.double pp), .second] [(.ref a1)])) _
    refine XS.aloadN X5.here hx rfl (hb hby d3_10) rfl rfl ?_
    show Steps p.tables e below (T5.setTop (mkF m 11 #[.val (.ref a1), .val (.ref ps), .val .null, .val (.ref pb), .val (.double pz), .second, .val (.double pp), .second] [.null, (.ref a1)])) _
    exact k)
  obtain ⟨T15, h15, X15, e15, W15, st15⟩ := putF X5 hx hZ hown (host := "") (Or.inl (hw _ (List.mem_of_getElem? (i := 34) rfl))) Via.refl e5 F8 F7 (Or.inr ⟨(hw _ (List.mem_of_getElem? (i := 35) rfl)), rfl, hnaM⟩) (hw _ (List.mem_of_getElem? (i := 25) rfl)) (ty := (.object "com/example/detectability/detectability/ProteinAbundance")) (by decide) rfl rfl (g := (mkF m 11 #[.val (.ref a1), .val (.ref ps), .val .null, .val (.ref pb), .val (.double pz), .second, .val (.double pp), .second] [.null, (.ref a1)])) rfl rfl (hb hby d3_11)
  have F16 : Fld Z h15 a1 "com/example/detectability/detectability/ComparedProtein" "inA" "Lcom/example/detectability/detectability/ProteinAbundance;" .null := F8.same W15
  have F17 : Exa Z h15 a1 "com/example/detectability/detectability/ComparedProtein" := (F7.wr W15)
  have F18 : Fld Z h15 a1 "com/example/detectability/detectability/ComparedProtein" "name" "Ljava/lang/String;" (.ref ps) := (F6.other W15 (Or.inr (slot_ne (Or.inr (hw _ (List.mem_of_getElem? (i := 33) rfl))) (Or.inr (hw _ (List.mem_of_getElem? (i := 35) rfl))) (by decide) (t := (.object "java/lang/String")) (t' := (.object "com/example/detectability/detectability/ProteinAbundance")) (by decide) (by decide))))
  have F19 : Fld Z h15 a1 "com/example/detectability/detectability/ComparedProtein" "inB" "Lcom/example/detectability/detectability/ProteinAbundance;" .null := (F9.other W15 (Or.inr (slot_ne (Or.inr (hw _ (List.mem_of_getElem? (i := 37) rfl))) (Or.inr (hw _ (List.mem_of_getElem? (i := 35) rfl))) (by decide) (t := (.object "com/example/detectability/detectability/ProteinAbundance")) (t' := (.object "com/example/detectability/detectability/ProteinAbundance")) (by decide) (by decide))))
  have F20 : Fld Z h15 a1 "com/example/detectability/detectability/ComparedProtein" "z" "D" (.double (0 : UInt64)) := (F10.other W15 (Or.inr (slot_ne (Or.inr (hw _ (List.mem_of_getElem? (i := 39) rfl))) (Or.inr (hw _ (List.mem_of_getElem? (i := 35) rfl))) (by decide) (t := .double) (t' := (.object "com/example/detectability/detectability/ProteinAbundance")) (by decide) (by decide))))
  have F21 : Fld Z h15 a1 "com/example/detectability/detectability/ComparedProtein" "p" "D" (.double (0 : UInt64)) := (F11.other W15 (Or.inr (slot_ne (Or.inr (hw _ (List.mem_of_getElem? (i := 41) rfl))) (Or.inr (hw _ (List.mem_of_getElem? (i := 35) rfl))) (by decide) (t := .double) (t' := (.object "com/example/detectability/detectability/ProteinAbundance")) (by decide) (by decide))))
  have N15 := Fr.snoc X15 N5 g_a1
  have K22 : Keep h0 h15 [a1] := K12.wr W15 (Or.inl (List.mem_of_getElem? (i := 0) rfl))
  have c23 : ∀ t, Steps p.tables e below (T15.setTop (mkF m 14 #[.val (.ref a1), .val (.ref ps), .val .null, .val (.ref pb), .val (.double pz), .second, .val (.double pp), .second] [])) t → Steps p.tables e below (s₁.setTop (entryFrame m #[(.ref a1), (.ref ps), .null, (.ref pb), (.double pz), (.double pp)] 8)) t := fun t k => c14 t (st15 _ k)
  have c24 : ∀ t, Steps p.tables e below (T15.setTop (mkF m 16 #[.val (.ref a1), .val (.ref ps), .val .null, .val (.ref pb), .val (.double pz), .second, .val (.double pp), .second] [(.ref pb), (.ref a1)])) t → Steps p.tables e below (s₁.setTop (entryFrame m #[(.ref a1), (.ref ps), .null, (.ref pb), (.double pz), (.double pp)] 8)) t := fun t k => c23 t (by
    show Steps p.tables e below (T15.setTop (mkF m 14 #[.val (.ref a1), .val (.ref ps), .val .null, .val (.ref pb), .val (.double pz), .second, .val (.double pp), .second] [])) _
    refine XS.aloadN X15.here hx rfl (hb hby d3_14) rfl rfl ?_
    show Steps p.tables e below (T15.setTop (mkF m 15 #[.val (.ref a1), .val (.ref ps), .val .null, .val (.ref pb), .val (.double pz), .second, .val (.double pp), .second] [(.ref a1)])) _
    refine XS.aloadN X15.here hx rfl (hb hby d3_15) rfl rfl ?_
    show Steps p.tables e below (T15.setTop (mkF m 16 #[.val (.ref a1), .val (.ref ps), .val .null, .val (.ref pb), .val (.double pz), .second, .val (.double pp), .second] [(.ref pb), (.ref a1)])) _
    exact k)
  obtain ⟨T25, h25, X25, e25, W25, st25⟩ := putF X15 hx hZ hown (host := "") (Or.inl (hw _ (List.mem_of_getElem? (i := 36) rfl))) Via.refl e15 F19 F17 (Or.inr ⟨(hw _ (List.mem_of_getElem? (i := 37) rfl)), rfl, hnaM⟩) (hw _ (List.mem_of_getElem? (i := 25) rfl)) (ty := (.object "com/example/detectability/detectability/ProteinAbundance")) (by decide) rfl rfl (g := (mkF m 16 #[.val (.ref a1), .val (.ref ps), .val .null, .val (.ref pb), .val (.double pz), .second, .val (.double pp), .second] [(.ref pb), (.ref a1)])) rfl rfl (hb hby d3_16)
  have F26 : Fld Z h25 a1 "com/example/detectability/detectability/ComparedProtein" "inB" "Lcom/example/detectability/detectability/ProteinAbundance;" (.ref pb) := F19.same W25
  have F27 : Exa Z h25 a1 "com/example/detectability/detectability/ComparedProtein" := (F17.wr W25)
  have F28 : Fld Z h25 a1 "com/example/detectability/detectability/ComparedProtein" "name" "Ljava/lang/String;" (.ref ps) := (F18.other W25 (Or.inr (slot_ne (Or.inr (hw _ (List.mem_of_getElem? (i := 33) rfl))) (Or.inr (hw _ (List.mem_of_getElem? (i := 37) rfl))) (by decide) (t := (.object "java/lang/String")) (t' := (.object "com/example/detectability/detectability/ProteinAbundance")) (by decide) (by decide))))
  have F29 : Fld Z h25 a1 "com/example/detectability/detectability/ComparedProtein" "inA" "Lcom/example/detectability/detectability/ProteinAbundance;" .null := (F16.other W25 (Or.inr (slot_ne (Or.inr (hw _ (List.mem_of_getElem? (i := 35) rfl))) (Or.inr (hw _ (List.mem_of_getElem? (i := 37) rfl))) (by decide) (t := (.object "com/example/detectability/detectability/ProteinAbundance")) (t' := (.object "com/example/detectability/detectability/ProteinAbundance")) (by decide) (by decide))))
  have F30 : Fld Z h25 a1 "com/example/detectability/detectability/ComparedProtein" "z" "D" (.double (0 : UInt64)) := (F20.other W25 (Or.inr (slot_ne (Or.inr (hw _ (List.mem_of_getElem? (i := 39) rfl))) (Or.inr (hw _ (List.mem_of_getElem? (i := 37) rfl))) (by decide) (t := .double) (t' := (.object "com/example/detectability/detectability/ProteinAbundance")) (by decide) (by decide))))
  have F31 : Fld Z h25 a1 "com/example/detectability/detectability/ComparedProtein" "p" "D" (.double (0 : UInt64)) := (F21.other W25 (Or.inr (slot_ne (Or.inr (hw _ (List.mem_of_getElem? (i := 41) rfl))) (Or.inr (hw _ (List.mem_of_getElem? (i := 37) rfl))) (by decide) (t := .double) (t' := (.object "com/example/detectability/detectability/ProteinAbundance")) (by decide) (by decide))))
  have N25 := Fr.snoc X25 N15 g_a1
  have K32 : Keep h0 h25 [a1] := K22.wr W25 (Or.inl (List.mem_of_getElem? (i := 0) rfl))
  have c33 : ∀ t, Steps p.tables e below (T25.setTop (mkF m 19 #[.val (.ref a1), .val (.ref ps), .val .null, .val (.ref pb), .val (.double pz), .second, .val (.double pp), .second] [])) t → Steps p.tables e below (s₁.setTop (entryFrame m #[(.ref a1), (.ref ps), .null, (.ref pb), (.double pz), (.double pp)] 8)) t := fun t k => c24 t (st25 _ k)
  have c34 : ∀ t, Steps p.tables e below (T25.setTop (mkF m 22 #[.val (.ref a1), .val (.ref ps), .val .null, .val (.ref pb), .val (.double pz), .second, .val (.double pp), .second] [(.double pz), (.ref a1)])) t → Steps p.tables e below (s₁.setTop (entryFrame m #[(.ref a1), (.ref ps), .null, (.ref pb), (.double pz), (.double pp)] 8)) t := fun t k => c33 t (by
    show Steps p.tables e below (T25.setTop (mkF m 19 #[.val (.ref a1), .val (.ref ps), .val .null, .val (.ref pb), .val (.double pz), .second, .val (.double pp), .second] [])) _
    refine XS.aloadN X25.here hx rfl (hb hby d3_19) rfl rfl ?_
    show Steps p.tables e below (T25.setTop (mkF m 20 #[.val (.ref a1), .val (.ref ps), .val .null, .val (.ref pb), .val (.double pz), .second, .val (.double pp), .second] [(.ref a1)])) _
    refine XS.dload X25.here hx rfl (hb hby d3_20) rfl ?_
    show Steps p.tables e below (T25.setTop (mkF m 22 #[.val (.ref a1), .val (.ref ps), .val .null, .val (.ref pb), .val (.double pz), .second, .val (.double pp), .second] [(.double pz), (.ref a1)])) _
    exact k)
  obtain ⟨T35, h35, X35, e35, W35, st35⟩ := putF X25 hx hZ hown (host := "") (Or.inl (hw _ (List.mem_of_getElem? (i := 38) rfl))) Via.refl e25 F30 F27 (Or.inr ⟨(hw _ (List.mem_of_getElem? (i := 39) rfl)), rfl, hnaM⟩) (hw _ (List.mem_of_getElem? (i := 25) rfl)) (ty := .double) (by decide) rfl rfl (g := (mkF m 22 #[.val (.ref a1), .val (.ref ps), .val .null, .val (.ref pb), .val (.double pz), .second, .val (.double pp), .second] [(.double pz), (.ref a1)])) rfl rfl (hb hby d3_22)
  have F36 : Fld Z h35 a1 "com/example/detectability/detectability/ComparedProtein" "z" "D" (.double pz) := F30.same W35
  have F37 : Exa Z h35 a1 "com/example/detectability/detectability/ComparedProtein" := (F27.wr W35)
  have F38 : Fld Z h35 a1 "com/example/detectability/detectability/ComparedProtein" "name" "Ljava/lang/String;" (.ref ps) := (F28.other W35 (Or.inr (slot_ne (Or.inr (hw _ (List.mem_of_getElem? (i := 33) rfl))) (Or.inr (hw _ (List.mem_of_getElem? (i := 39) rfl))) (by decide) (t := (.object "java/lang/String")) (t' := .double) (by decide) (by decide))))
  have F39 : Fld Z h35 a1 "com/example/detectability/detectability/ComparedProtein" "inA" "Lcom/example/detectability/detectability/ProteinAbundance;" .null := (F29.other W35 (Or.inr (slot_ne (Or.inr (hw _ (List.mem_of_getElem? (i := 35) rfl))) (Or.inr (hw _ (List.mem_of_getElem? (i := 39) rfl))) (by decide) (t := (.object "com/example/detectability/detectability/ProteinAbundance")) (t' := .double) (by decide) (by decide))))
  have F40 : Fld Z h35 a1 "com/example/detectability/detectability/ComparedProtein" "inB" "Lcom/example/detectability/detectability/ProteinAbundance;" (.ref pb) := (F26.other W35 (Or.inr (slot_ne (Or.inr (hw _ (List.mem_of_getElem? (i := 37) rfl))) (Or.inr (hw _ (List.mem_of_getElem? (i := 39) rfl))) (by decide) (t := (.object "com/example/detectability/detectability/ProteinAbundance")) (t' := .double) (by decide) (by decide))))
  have F41 : Fld Z h35 a1 "com/example/detectability/detectability/ComparedProtein" "p" "D" (.double (0 : UInt64)) := (F31.other W35 (Or.inr (slot_ne (Or.inr (hw _ (List.mem_of_getElem? (i := 41) rfl))) (Or.inr (hw _ (List.mem_of_getElem? (i := 39) rfl))) (by decide) (t := .double) (t' := .double) (by decide) (by decide))))
  have N35 := Fr.snoc X35 N25 g_a1
  have K42 : Keep h0 h35 [a1] := K32.wr W35 (Or.inl (List.mem_of_getElem? (i := 0) rfl))
  have c43 : ∀ t, Steps p.tables e below (T35.setTop (mkF m 25 #[.val (.ref a1), .val (.ref ps), .val .null, .val (.ref pb), .val (.double pz), .second, .val (.double pp), .second] [])) t → Steps p.tables e below (s₁.setTop (entryFrame m #[(.ref a1), (.ref ps), .null, (.ref pb), (.double pz), (.double pp)] 8)) t := fun t k => c34 t (st35 _ k)
  have c44 : ∀ t, Steps p.tables e below (T35.setTop (mkF m 28 #[.val (.ref a1), .val (.ref ps), .val .null, .val (.ref pb), .val (.double pz), .second, .val (.double pp), .second] [(.double pp), (.ref a1)])) t → Steps p.tables e below (s₁.setTop (entryFrame m #[(.ref a1), (.ref ps), .null, (.ref pb), (.double pz), (.double pp)] 8)) t := fun t k => c43 t (by
    show Steps p.tables e below (T35.setTop (mkF m 25 #[.val (.ref a1), .val (.ref ps), .val .null, .val (.ref pb), .val (.double pz), .second, .val (.double pp), .second] [])) _
    refine XS.aloadN X35.here hx rfl (hb hby d3_25) rfl rfl ?_
    show Steps p.tables e below (T35.setTop (mkF m 26 #[.val (.ref a1), .val (.ref ps), .val .null, .val (.ref pb), .val (.double pz), .second, .val (.double pp), .second] [(.ref a1)])) _
    refine XS.dload X35.here hx rfl (hb hby d3_26) rfl ?_
    show Steps p.tables e below (T35.setTop (mkF m 28 #[.val (.ref a1), .val (.ref ps), .val .null, .val (.ref pb), .val (.double pz), .second, .val (.double pp), .second] [(.double pp), (.ref a1)])) _
    exact k)
  obtain ⟨T45, h45, X45, e45, W45, st45⟩ := putF X35 hx hZ hown (host := "") (Or.inl (hw _ (List.mem_of_getElem? (i := 40) rfl))) Via.refl e35 F41 F37 (Or.inr ⟨(hw _ (List.mem_of_getElem? (i := 41) rfl)), rfl, hnaM⟩) (hw _ (List.mem_of_getElem? (i := 25) rfl)) (ty := .double) (by decide) rfl rfl (g := (mkF m 28 #[.val (.ref a1), .val (.ref ps), .val .null, .val (.ref pb), .val (.double pz), .second, .val (.double pp), .second] [(.double pp), (.ref a1)])) rfl rfl (hb hby d3_28)
  have F46 : Fld Z h45 a1 "com/example/detectability/detectability/ComparedProtein" "p" "D" (.double pp) := F41.same W45
  have F47 : Exa Z h45 a1 "com/example/detectability/detectability/ComparedProtein" := (F37.wr W45)
  have F48 : Fld Z h45 a1 "com/example/detectability/detectability/ComparedProtein" "name" "Ljava/lang/String;" (.ref ps) := (F38.other W45 (Or.inr (slot_ne (Or.inr (hw _ (List.mem_of_getElem? (i := 33) rfl))) (Or.inr (hw _ (List.mem_of_getElem? (i := 41) rfl))) (by decide) (t := (.object "java/lang/String")) (t' := .double) (by decide) (by decide))))
  have F49 : Fld Z h45 a1 "com/example/detectability/detectability/ComparedProtein" "inA" "Lcom/example/detectability/detectability/ProteinAbundance;" .null := (F39.other W45 (Or.inr (slot_ne (Or.inr (hw _ (List.mem_of_getElem? (i := 35) rfl))) (Or.inr (hw _ (List.mem_of_getElem? (i := 41) rfl))) (by decide) (t := (.object "com/example/detectability/detectability/ProteinAbundance")) (t' := .double) (by decide) (by decide))))
  have F50 : Fld Z h45 a1 "com/example/detectability/detectability/ComparedProtein" "inB" "Lcom/example/detectability/detectability/ProteinAbundance;" (.ref pb) := (F40.other W45 (Or.inr (slot_ne (Or.inr (hw _ (List.mem_of_getElem? (i := 37) rfl))) (Or.inr (hw _ (List.mem_of_getElem? (i := 41) rfl))) (by decide) (t := (.object "com/example/detectability/detectability/ProteinAbundance")) (t' := .double) (by decide) (by decide))))
  have F51 : Fld Z h45 a1 "com/example/detectability/detectability/ComparedProtein" "z" "D" (.double pz) := (F36.other W45 (Or.inr (slot_ne (Or.inr (hw _ (List.mem_of_getElem? (i := 39) rfl))) (Or.inr (hw _ (List.mem_of_getElem? (i := 41) rfl))) (by decide) (t := .double) (t' := .double) (by decide) (by decide))))
  have N45 := Fr.snoc X45 N35 g_a1
  have K52 : Keep h0 h45 [a1] := K42.wr W45 (Or.inl (List.mem_of_getElem? (i := 0) rfl))
  have c53 : ∀ t, Steps p.tables e below (T45.setTop (mkF m 31 #[.val (.ref a1), .val (.ref ps), .val .null, .val (.ref pb), .val (.double pz), .second, .val (.double pp), .second] [])) t → Steps p.tables e below (s₁.setTop (entryFrame m #[(.ref a1), (.ref ps), .null, (.ref pb), (.double pz), (.double pp)] 8)) t := fun t k => c44 t (st45 _ k)
  obtain ⟨fs, hr, hrun, hended, hW, hsame⟩ := X45.leave (v := none) (fun _ => rfl)
  refine ⟨_, _, pre0 _ (c53 _ (X45.returnOut hx Bd.returns (hb hby d3_31) hr)), hrun, hended, _, _, rfl, ?_, ⟨_, rfl⟩, hW, hsame.mono (by decide) (by decide)⟩
  show Q_ci01 Z a1 ps pb pz pp h0 n0 _ T45.heap _
  rw [e45]
  exact ⟨rfl, N45, K52, F47, F48, F49, F50, F51, F46⟩
theorem ef_ci10 (m : MethodId) (a1 : Addr) (ps : Addr) (pa : Addr) (pz : UInt64) (pp : UInt64) : entryFrame m #[(.ref a1), (.ref ps), (.ref pa), .null, (.double pz), (.double pp)] 8 = (mkF m 0 #[.val (.ref a1), .val (.ref ps), .val (.ref pa), .val .null, .val (.double pz), .second, .val (.double pp), .second] []) := by first | (simp [entryFrame, mkF, argsToLocals, Value.category]; done) | rfl
def Q_ci10 (Z : State) (a1 : Addr) (ps : Addr) (pa : Addr) (pz : UInt64) (pp : UInt64) (h0 : Heap) (n0 : Nat) (v : Option Value) (h : Heap) (L : List Loc) : Prop := v = none ∧ Fr n0 L ∧ Keep h0 h [a1] ∧ Exa Z h a1 "com/example/detectability/detectability/ComparedProtein" ∧ Fld Z h a1 "com/example/detectability/detectability/ComparedProtein" "name" "Ljava/lang/String;" (.ref ps) ∧ Fld Z h a1 "com/example/detectability/detectability/ComparedProtein" "inA" "Lcom/example/detectability/detectability/ProteinAbundance;" (.ref pa) ∧ Fld Z h a1 "com/example/detectability/detectability/ComparedProtein" "inB" "Lcom/example/detectability/detectability/ProteinAbundance;" .null ∧ Fld Z h a1 "com/example/detectability/detectability/ComparedProtein" "z" "D" (.double pz) ∧ Fld Z h a1 "com/example/detectability/detectability/ComparedProtein" "p" "D" (.double pp)
set_option maxRecDepth 65536 in
set_option maxHeartbeats 2000000 in
theorem rm_ci10 (l : Launch) (Z : State) (a0 : Array Value) (hw : ∀ d ∈ tables_1, d.before a0 Z = true) (ws : List Jvm.Cond) (a1 : Addr) (ps : Addr) (pa : Addr) (pz : UInt64) (pp : UInt64) (h0 : Heap) (n0 : Nat) (Z0 : n0 ≤ h0.size) (E_a1 : Exa Z h0 a1 "com/example/detectability/detectability/ComparedProtein") (F_0 : Fld Z h0 a1 "com/example/detectability/detectability/ComparedProtein" "name" "Ljava/lang/String;" .null) (F_1 : Fld Z h0 a1 "com/example/detectability/detectability/ComparedProtein" "inA" "Lcom/example/detectability/detectability/ProteinAbundance;" .null) (F_2 : Fld Z h0 a1 "com/example/detectability/detectability/ComparedProtein" "inB" "Lcom/example/detectability/detectability/ProteinAbundance;" .null) (F_3 : Fld Z h0 a1 "com/example/detectability/detectability/ComparedProtein" "z" "D" (.double (0 : UInt64))) (F_4 : Fld Z h0 a1 "com/example/detectability/detectability/ComparedProtein" "p" "D" (.double (0 : UInt64))) (g_a1 : n0 ≤ a1) :
    MetFree l (⟨"com/example/detectability/detectability/ComparedProtein", "<init>", "(Ljava/lang/String;Lcom/example/detectability/detectability/ProteinAbundance;Lcom/example/detectability/detectability/ProteinAbundance;DD)V"⟩ : MethodName) (head1 (Jvm.Cond.code (⟨"com/example/detectability/detectability/ComparedProtein", "<init>", "(Ljava/lang/String;Lcom/example/detectability/detectability/ProteinAbundance;Lcom/example/detectability/detectability/ProteinAbundance;DD)V"⟩ : MethodName) prog_4_method_1_code 8 none :: ws) ({ frames := 1, cells := 0, slots := 0, locals := 12 } : Room)) (fun aa UU => aa = #[(.ref a1), (.ref ps), (.ref pa), .null, (.double pz), (.double pp)] ∧ Z.Warmed39 UU.vm ∧ UU.heap = h0) (fun _ _ _ _ _ => True) (fun _ UU oo UU' => ∃ v L, oo = .returned v ∧ Q_ci10 Z a1 ps pa pz pp h0 n0 v UU'.heap L ∧ FrameEnd UU oo UU' L ({ frames := 1, cells := 0, slots := 0, locals := 12 } : Room).cells ({ frames := 1, cells := 0, slots := 0, locals := 12 } : Room).slots) := by
  refine MetFree.of_bodySF (plainFor_of_name pn_com_example_detectability_detectability_ComparedProtein) hisR ?_
  intro p e s m args below meth c s₁ Bd hml0 hP hK
  obtain ⟨rfl, hZ, hh⟩ := hP
  have hx := Bd.exec
  have hby := Bd.bytes
  have hml : c.maxLocals = 8 := hml0
  have hown : s.vm.findClass "com/example/detectability/detectability/ComparedProtein" = some m.cls := findClass_of_methodNamed Bd.named
  have hnaM := (name_of_methodNamed Bd.named Bd.method).1
  have X0 : Stand p l e ({ frames := 1, cells := 0, slots := 0, locals := 12 } : Room) s m #[(.ref a1), (.ref ps), (.ref pa), .null, (.double pz), (.double pp)] below meth c s₁ [] 0 0 := Stand.of_body Bd
  have e0 : s₁.heap = h0 := by rw [← hh, Bd.state]; rfl
  have N0 := Fr.nil n0
  have pre0 : ∀ t, Steps p.tables e below (s₁.setTop (entryFrame m #[(.ref a1), (.ref ps), (.ref pa), .null, (.double pz), (.double pp)] 8)) t → Steps p.tables e below (s₁.setTop (entryFrame m #[(.ref a1), (.ref ps), (.ref pa), .null, (.double pz), (.double pp)] 8)) t := fun t k => k
  have c0 : ∀ t, Steps p.tables e below (s₁.setTop (mkF m 0 #[.val (.ref a1), .val (.ref ps), .val (.ref pa), .val .null, .val (.double pz), .second, .val (.double pp), .second] [])) t → Steps p.tables e below (s₁.setTop (entryFrame m #[(.ref a1), (.ref ps), (.ref pa), .null, (.double pz), (.double pp)] 8)) t := fun t k => castTop (ef_ci10 m a1 ps pa pz pp) k
  have K0 := Keep.refl h0 [a1]
  have c1 : ∀ t, Steps p.tables e below (s₁.setTop (mkF m 1 #[.val (.ref a1), .val (.ref ps), .val (.ref pa), .val .null, .val (.double pz), .second, .val (.double pp), .second] [(.ref a1)])) t → Steps p.tables e below (s₁.setTop (entryFrame m #[(.ref a1), (.ref ps), (.ref pa), .null, (.double pz), (.double pp)] 8)) t := fun t k => c0 t (by
    show Steps p.tables e below (s₁.setTop (mkF m 0 #[.val (.ref a1), .val (.ref ps), .val (.ref pa), .val .null, .val (.double pz), .second, .val (.double pp), .second] [])) _
    refine XS.aloadN X0.here hx rfl (hb hby d3_0) rfl rfl ?_
    show Steps p.tables e below (s₁.setTop (mkF m 1 #[.val (.ref a1), .val (.ref ps), .val (.ref pa), .val .null, .val (.double pz), .second, .val (.double pp), .second] [(.ref a1)])) _
    exact k)
  obtain ⟨T2, X2, e2, st2⟩ := initO X0 hx hZ hown (hw _ (List.mem_of_getElem? (i := 31) rfl)) (hw _ (List.mem_of_getElem? (i := 15) rfl)) (hw _ (List.mem_of_getElem? (i := 16) rfl)) e0 (g := (mkF m 1 #[.val (.ref a1), .val (.ref ps), .val (.ref pa), .val .null, .val (.double pz), .second, .val (.double pp), .second] [(.ref a1)])) rfl (by rw [hml]; rfl) rfl (hb hby d3_1) (by decide) (W := 0) (by show 2 * 0 + _ ≤ _; exact Nat.le_of_eq rfl) (by decide)
  have c3 : ∀ t, Steps p.tables e below (T2.setTop (mkF m 4 #[.val (.ref a1), .val (.ref ps), .val (.ref pa), .val .null, .val (.double pz), .second, .val (.double pp), .second] [])) t → Steps p.tables e below (s₁.setTop (entryFrame m #[(.ref a1), (.ref ps), (.ref pa), .null, (.double pz), (.double pp)] 8)) t := fun t k => c1 t (st2 _ k)
  have c4 : ∀ t, Steps p.tables e below (T2.setTop (mkF m 6 #[.val (.ref a1), .val (.ref ps), .val (.ref pa), .val .null, .val (.double pz), .second, .val (.double pp), .second] [(.ref ps), (.ref a1)])) t → Steps p.tables e below (s₁.setTop (entryFrame m #[(.ref a1), (.ref ps), (.ref pa), .null, (.double pz), (.double pp)] 8)) t := fun t k => c3 t (by
    show Steps p.tables e below (T2.setTop (mkF m 4 #[.val (.ref a1), .val (.ref ps), .val (.ref pa), .val .null, .val (.double pz), .second, .val (.double pp), .second] [])) _
    refine XS.aloadN X2.here hx rfl (hb hby d3_4) rfl rfl ?_
    show Steps p.tables e below (T2.setTop (mkF m 5 #[.val (.ref a1), .val (.ref ps), .val (.ref pa), .val .null, .val (.double pz), .second, .val (.double pp), .second] [(.ref a1)])) _
    refine XS.aloadN X2.here hx rfl (hb hby d3_5) rfl rfl ?_
    show Steps p.tables e below (T2.setTop (mkF m 6 #[.val (.ref a1), .val (.ref ps), .val (.ref pa), .val .null, .val (.double pz), .second, .val (.double pp), .second] [(.ref ps), (.ref a1)])) _
    exact k)
  obtain ⟨T5, h5, X5, e5, W5, st5⟩ := putF X2 hx hZ hown (host := "") (Or.inl (hw _ (List.mem_of_getElem? (i := 32) rfl))) Via.refl e2 F_0 E_a1 (Or.inr ⟨(hw _ (List.mem_of_getElem? (i := 33) rfl)), rfl, hnaM⟩) (hw _ (List.mem_of_getElem? (i := 25) rfl)) (ty := (.object "java/lang/String")) (by decide) rfl rfl (g := (mkF m 6 #[.val (.ref a1), .val (.ref ps), .val (.ref pa), .val .null, .val (.double pz), .second, .val (.double pp), .second] [(.ref ps), (.ref a1)])) rfl rfl (hb hby d3_6)
  have F6 : Fld Z h5 a1 "com/example/detectability/detectability/ComparedProtein" "name" "Ljava/lang/String;" (.ref ps) := F_0.same W5
  have F7 : Exa Z h5 a1 "com/example/detectability/detectability/ComparedProtein" := (E_a1.wr W5)
  have F8 : Fld Z h5 a1 "com/example/detectability/detectability/ComparedProtein" "inA" "Lcom/example/detectability/detectability/ProteinAbundance;" .null := (F_1.other W5 (Or.inr (slot_ne (Or.inr (hw _ (List.mem_of_getElem? (i := 35) rfl))) (Or.inr (hw _ (List.mem_of_getElem? (i := 33) rfl))) (by decide) (t := (.object "com/example/detectability/detectability/ProteinAbundance")) (t' := (.object "java/lang/String")) (by decide) (by decide))))
  have F9 : Fld Z h5 a1 "com/example/detectability/detectability/ComparedProtein" "inB" "Lcom/example/detectability/detectability/ProteinAbundance;" .null := (F_2.other W5 (Or.inr (slot_ne (Or.inr (hw _ (List.mem_of_getElem? (i := 37) rfl))) (Or.inr (hw _ (List.mem_of_getElem? (i := 33) rfl))) (by decide) (t := (.object "com/example/detectability/detectability/ProteinAbundance")) (t' := (.object "java/lang/String")) (by decide) (by decide))))
  have F10 : Fld Z h5 a1 "com/example/detectability/detectability/ComparedProtein" "z" "D" (.double (0 : UInt64)) := (F_3.other W5 (Or.inr (slot_ne (Or.inr (hw _ (List.mem_of_getElem? (i := 39) rfl))) (Or.inr (hw _ (List.mem_of_getElem? (i := 33) rfl))) (by decide) (t := .double) (t' := (.object "java/lang/String")) (by decide) (by decide))))
  have F11 : Fld Z h5 a1 "com/example/detectability/detectability/ComparedProtein" "p" "D" (.double (0 : UInt64)) := (F_4.other W5 (Or.inr (slot_ne (Or.inr (hw _ (List.mem_of_getElem? (i := 41) rfl))) (Or.inr (hw _ (List.mem_of_getElem? (i := 33) rfl))) (by decide) (t := .double) (t' := (.object "java/lang/String")) (by decide) (by decide))))
  have N5 := Fr.snoc X5 N0 g_a1
  have K12 : Keep h0 h5 [a1] := K0.wr W5 (Or.inl (List.mem_of_getElem? (i := 0) rfl))
  have c13 : ∀ t, Steps p.tables e below (T5.setTop (mkF m 9 #[.val (.ref a1), .val (.ref ps), .val (.ref pa), .val .null, .val (.double pz), .second, .val (.double pp), .second] [])) t → Steps p.tables e below (s₁.setTop (entryFrame m #[(.ref a1), (.ref ps), (.ref pa), .null, (.double pz), (.double pp)] 8)) t := fun t k => c4 t (st5 _ k)
  have c14 : ∀ t, Steps p.tables e below (T5.setTop (mkF m 11 #[.val (.ref a1), .val (.ref ps), .val (.ref pa), .val .null, .val (.double pz), .second, .val (.double pp), .second] [(.ref pa), (.ref a1)])) t → Steps p.tables e below (s₁.setTop (entryFrame m #[(.ref a1), (.ref ps), (.ref pa), .null, (.double pz), (.double pp)] 8)) t := fun t k => c13 t (by
    show Steps p.tables e below (T5.setTop (mkF m 9 #[.val (.ref a1), .val (.ref ps), .val (.ref pa), .val .null, .val (.double pz), .second, .val (.double pp), .second] [])) _
    refine XS.aloadN X5.here hx rfl (hb hby d3_9) rfl rfl ?_
    show Steps p.tables e below (T5.setTop (mkF m 10 #[.val (.ref a1), .val (.ref ps), .val (.ref pa), .val .null, .val (.double pz), .second, .val (.double pp), .second] [(.ref a1)])) _
    refine XS.aloadN X5.here hx rfl (hb hby d3_10) rfl rfl ?_
    show Steps p.tables e below (T5.setTop (mkF m 11 #[.val (.ref a1), .val (.ref ps), .val (.ref pa), .val .null, .val (.double pz), .second, .val (.double pp), .second] [(.ref pa), (.ref a1)])) _
    exact k)
  obtain ⟨T15, h15, X15, e15, W15, st15⟩ := putF X5 hx hZ hown (host := "") (Or.inl (hw _ (List.mem_of_getElem? (i := 34) rfl))) Via.refl e5 F8 F7 (Or.inr ⟨(hw _ (List.mem_of_getElem? (i := 35) rfl)), rfl, hnaM⟩) (hw _ (List.mem_of_getElem? (i := 25) rfl)) (ty := (.object "com/example/detectability/detectability/ProteinAbundance")) (by decide) rfl rfl (g := (mkF m 11 #[.val (.ref a1), .val (.ref ps), .val (.ref pa), .val .null, .val (.double pz), .second, .val (.double pp), .second] [(.ref pa), (.ref a1)])) rfl rfl (hb hby d3_11)
  have F16 : Fld Z h15 a1 "com/example/detectability/detectability/ComparedProtein" "inA" "Lcom/example/detectability/detectability/ProteinAbundance;" (.ref pa) := F8.same W15
  have F17 : Exa Z h15 a1 "com/example/detectability/detectability/ComparedProtein" := (F7.wr W15)
  have F18 : Fld Z h15 a1 "com/example/detectability/detectability/ComparedProtein" "name" "Ljava/lang/String;" (.ref ps) := (F6.other W15 (Or.inr (slot_ne (Or.inr (hw _ (List.mem_of_getElem? (i := 33) rfl))) (Or.inr (hw _ (List.mem_of_getElem? (i := 35) rfl))) (by decide) (t := (.object "java/lang/String")) (t' := (.object "com/example/detectability/detectability/ProteinAbundance")) (by decide) (by decide))))
  have F19 : Fld Z h15 a1 "com/example/detectability/detectability/ComparedProtein" "inB" "Lcom/example/detectability/detectability/ProteinAbundance;" .null := (F9.other W15 (Or.inr (slot_ne (Or.inr (hw _ (List.mem_of_getElem? (i := 37) rfl))) (Or.inr (hw _ (List.mem_of_getElem? (i := 35) rfl))) (by decide) (t := (.object "com/example/detectability/detectability/ProteinAbundance")) (t' := (.object "com/example/detectability/detectability/ProteinAbundance")) (by decide) (by decide))))
  have F20 : Fld Z h15 a1 "com/example/detectability/detectability/ComparedProtein" "z" "D" (.double (0 : UInt64)) := (F10.other W15 (Or.inr (slot_ne (Or.inr (hw _ (List.mem_of_getElem? (i := 39) rfl))) (Or.inr (hw _ (List.mem_of_getElem? (i := 35) rfl))) (by decide) (t := .double) (t' := (.object "com/example/detectability/detectability/ProteinAbundance")) (by decide) (by decide))))
  have F21 : Fld Z h15 a1 "com/example/detectability/detectability/ComparedProtein" "p" "D" (.double (0 : UInt64)) := (F11.other W15 (Or.inr (slot_ne (Or.inr (hw _ (List.mem_of_getElem? (i := 41) rfl))) (Or.inr (hw _ (List.mem_of_getElem? (i := 35) rfl))) (by decide) (t := .double) (t' := (.object "com/example/detectability/detectability/ProteinAbundance")) (by decide) (by decide))))
  have N15 := Fr.snoc X15 N5 g_a1
  have K22 : Keep h0 h15 [a1] := K12.wr W15 (Or.inl (List.mem_of_getElem? (i := 0) rfl))
  have c23 : ∀ t, Steps p.tables e below (T15.setTop (mkF m 14 #[.val (.ref a1), .val (.ref ps), .val (.ref pa), .val .null, .val (.double pz), .second, .val (.double pp), .second] [])) t → Steps p.tables e below (s₁.setTop (entryFrame m #[(.ref a1), (.ref ps), (.ref pa), .null, (.double pz), (.double pp)] 8)) t := fun t k => c14 t (st15 _ k)
  have c24 : ∀ t, Steps p.tables e below (T15.setTop (mkF m 16 #[.val (.ref a1), .val (.ref ps), .val (.ref pa), .val .null, .val (.double pz), .second, .val (.double pp), .second] [.null, (.ref a1)])) t → Steps p.tables e below (s₁.setTop (entryFrame m #[(.ref a1), (.ref ps), (.ref pa), .null, (.double pz), (.double pp)] 8)) t := fun t k => c23 t (by
    show Steps p.tables e below (T15.setTop (mkF m 14 #[.val (.ref a1), .val (.ref ps), .val (.ref pa), .val .null, .val (.double pz), .second, .val (.double pp), .second] [])) _
    refine XS.aloadN X15.here hx rfl (hb hby d3_14) rfl rfl ?_
    show Steps p.tables e below (T15.setTop (mkF m 15 #[.val (.ref a1), .val (.ref ps), .val (.ref pa), .val .null, .val (.double pz), .second, .val (.double pp), .second] [(.ref a1)])) _
    refine XS.aloadN X15.here hx rfl (hb hby d3_15) rfl rfl ?_
    show Steps p.tables e below (T15.setTop (mkF m 16 #[.val (.ref a1), .val (.ref ps), .val (.ref pa), .val .null, .val (.double pz), .second, .val (.double pp), .second] [.null, (.ref a1)])) _
    exact k)
  obtain ⟨T25, h25, X25, e25, W25, st25⟩ := putF X15 hx hZ hown (host := "") (Or.inl (hw _ (List.mem_of_getElem? (i := 36) rfl))) Via.refl e15 F19 F17 (Or.inr ⟨(hw _ (List.mem_of_getElem? (i := 37) rfl)), rfl, hnaM⟩) (hw _ (List.mem_of_getElem? (i := 25) rfl)) (ty := (.object "com/example/detectability/detectability/ProteinAbundance")) (by decide) rfl rfl (g := (mkF m 16 #[.val (.ref a1), .val (.ref ps), .val (.ref pa), .val .null, .val (.double pz), .second, .val (.double pp), .second] [.null, (.ref a1)])) rfl rfl (hb hby d3_16)
  have F26 : Fld Z h25 a1 "com/example/detectability/detectability/ComparedProtein" "inB" "Lcom/example/detectability/detectability/ProteinAbundance;" .null := F19.same W25
  have F27 : Exa Z h25 a1 "com/example/detectability/detectability/ComparedProtein" := (F17.wr W25)
  have F28 : Fld Z h25 a1 "com/example/detectability/detectability/ComparedProtein" "name" "Ljava/lang/String;" (.ref ps) := (F18.other W25 (Or.inr (slot_ne (Or.inr (hw _ (List.mem_of_getElem? (i := 33) rfl))) (Or.inr (hw _ (List.mem_of_getElem? (i := 37) rfl))) (by decide) (t := (.object "java/lang/String")) (t' := (.object "com/example/detectability/detectability/ProteinAbundance")) (by decide) (by decide))))
  have F29 : Fld Z h25 a1 "com/example/detectability/detectability/ComparedProtein" "inA" "Lcom/example/detectability/detectability/ProteinAbundance;" (.ref pa) := (F16.other W25 (Or.inr (slot_ne (Or.inr (hw _ (List.mem_of_getElem? (i := 35) rfl))) (Or.inr (hw _ (List.mem_of_getElem? (i := 37) rfl))) (by decide) (t := (.object "com/example/detectability/detectability/ProteinAbundance")) (t' := (.object "com/example/detectability/detectability/ProteinAbundance")) (by decide) (by decide))))
  have F30 : Fld Z h25 a1 "com/example/detectability/detectability/ComparedProtein" "z" "D" (.double (0 : UInt64)) := (F20.other W25 (Or.inr (slot_ne (Or.inr (hw _ (List.mem_of_getElem? (i := 39) rfl))) (Or.inr (hw _ (List.mem_of_getElem? (i := 37) rfl))) (by decide) (t := .double) (t' := (.object "com/example/detectability/detectability/ProteinAbundance")) (by decide) (by decide))))
  have F31 : Fld Z h25 a1 "com/example/detectability/detectability/ComparedProtein" "p" "D" (.double (0 : UInt64)) := (F21.other W25 (Or.inr (slot_ne (Or.inr (hw _ (List.mem_of_getElem? (i := 41) rfl))) (Or.inr (hw _ (List.mem_of_getElem? (i := 37) rfl))) (by decide) (t := .double) (t' := (.object "com/example/detectability/detectability/ProteinAbundance")) (by decide) (by decide))))
  have N25 := Fr.snoc X25 N15 g_a1
  have K32 : Keep h0 h25 [a1] := K22.wr W25 (Or.inl (List.mem_of_getElem? (i := 0) rfl))
  have c33 : ∀ t, Steps p.tables e below (T25.setTop (mkF m 19 #[.val (.ref a1), .val (.ref ps), .val (.ref pa), .val .null, .val (.double pz), .second, .val (.double pp), .second] [])) t → Steps p.tables e below (s₁.setTop (entryFrame m #[(.ref a1), (.ref ps), (.ref pa), .null, (.double pz), (.double pp)] 8)) t := fun t k => c24 t (st25 _ k)
  have c34 : ∀ t, Steps p.tables e below (T25.setTop (mkF m 22 #[.val (.ref a1), .val (.ref ps), .val (.ref pa), .val .null, .val (.double pz), .second, .val (.double pp), .second] [(.double pz), (.ref a1)])) t → Steps p.tables e below (s₁.setTop (entryFrame m #[(.ref a1), (.ref ps), (.ref pa), .null, (.double pz), (.double pp)] 8)) t := fun t k => c33 t (by
    show Steps p.tables e below (T25.setTop (mkF m 19 #[.val (.ref a1), .val (.ref ps), .val (.ref pa), .val .null, .val (.double pz), .second, .val (.double pp), .second] [])) _
    refine XS.aloadN X25.here hx rfl (hb hby d3_19) rfl rfl ?_
    show Steps p.tables e below (T25.setTop (mkF m 20 #[.val (.ref a1), .val (.ref ps), .val (.ref pa), .val .null, .val (.double pz), .second, .val (.double pp), .second] [(.ref a1)])) _
    refine XS.dload X25.here hx rfl (hb hby d3_20) rfl ?_
    show Steps p.tables e below (T25.setTop (mkF m 22 #[.val (.ref a1), .val (.ref ps), .val (.ref pa), .val .null, .val (.double pz), .second, .val (.double pp), .second] [(.double pz), (.ref a1)])) _
    exact k)
  obtain ⟨T35, h35, X35, e35, W35, st35⟩ := putF X25 hx hZ hown (host := "") (Or.inl (hw _ (List.mem_of_getElem? (i := 38) rfl))) Via.refl e25 F30 F27 (Or.inr ⟨(hw _ (List.mem_of_getElem? (i := 39) rfl)), rfl, hnaM⟩) (hw _ (List.mem_of_getElem? (i := 25) rfl)) (ty := .double) (by decide) rfl rfl (g := (mkF m 22 #[.val (.ref a1), .val (.ref ps), .val (.ref pa), .val .null, .val (.double pz), .second, .val (.double pp), .second] [(.double pz), (.ref a1)])) rfl rfl (hb hby d3_22)
  have F36 : Fld Z h35 a1 "com/example/detectability/detectability/ComparedProtein" "z" "D" (.double pz) := F30.same W35
  have F37 : Exa Z h35 a1 "com/example/detectability/detectability/ComparedProtein" := (F27.wr W35)
  have F38 : Fld Z h35 a1 "com/example/detectability/detectability/ComparedProtein" "name" "Ljava/lang/String;" (.ref ps) := (F28.other W35 (Or.inr (slot_ne (Or.inr (hw _ (List.mem_of_getElem? (i := 33) rfl))) (Or.inr (hw _ (List.mem_of_getElem? (i := 39) rfl))) (by decide) (t := (.object "java/lang/String")) (t' := .double) (by decide) (by decide))))
  have F39 : Fld Z h35 a1 "com/example/detectability/detectability/ComparedProtein" "inA" "Lcom/example/detectability/detectability/ProteinAbundance;" (.ref pa) := (F29.other W35 (Or.inr (slot_ne (Or.inr (hw _ (List.mem_of_getElem? (i := 35) rfl))) (Or.inr (hw _ (List.mem_of_getElem? (i := 39) rfl))) (by decide) (t := (.object "com/example/detectability/detectability/ProteinAbundance")) (t' := .double) (by decide) (by decide))))
  have F40 : Fld Z h35 a1 "com/example/detectability/detectability/ComparedProtein" "inB" "Lcom/example/detectability/detectability/ProteinAbundance;" .null := (F26.other W35 (Or.inr (slot_ne (Or.inr (hw _ (List.mem_of_getElem? (i := 37) rfl))) (Or.inr (hw _ (List.mem_of_getElem? (i := 39) rfl))) (by decide) (t := (.object "com/example/detectability/detectability/ProteinAbundance")) (t' := .double) (by decide) (by decide))))
  have F41 : Fld Z h35 a1 "com/example/detectability/detectability/ComparedProtein" "p" "D" (.double (0 : UInt64)) := (F31.other W35 (Or.inr (slot_ne (Or.inr (hw _ (List.mem_of_getElem? (i := 41) rfl))) (Or.inr (hw _ (List.mem_of_getElem? (i := 39) rfl))) (by decide) (t := .double) (t' := .double) (by decide) (by decide))))
  have N35 := Fr.snoc X35 N25 g_a1
  have K42 : Keep h0 h35 [a1] := K32.wr W35 (Or.inl (List.mem_of_getElem? (i := 0) rfl))
  have c43 : ∀ t, Steps p.tables e below (T35.setTop (mkF m 25 #[.val (.ref a1), .val (.ref ps), .val (.ref pa), .val .null, .val (.double pz), .second, .val (.double pp), .second] [])) t → Steps p.tables e below (s₁.setTop (entryFrame m #[(.ref a1), (.ref ps), (.ref pa), .null, (.double pz), (.double pp)] 8)) t := fun t k => c34 t (st35 _ k)
  have c44 : ∀ t, Steps p.tables e below (T35.setTop (mkF m 28 #[.val (.ref a1), .val (.ref ps), .val (.ref pa), .val .null, .val (.double pz), .second, .val (.double pp), .second] [(.double pp), (.ref a1)])) t → Steps p.tables e below (s₁.setTop (entryFrame m #[(.ref a1), (.ref ps), (.ref pa), .null, (.double pz), (.double pp)] 8)) t := fun t k => c43 t (by
    show Steps p.tables e below (T35.setTop (mkF m 25 #[.val (.ref a1), .val (.ref ps), .val (.ref pa), .val .null, .val (.double pz), .second, .val (.double pp), .second] [])) _
    refine XS.aloadN X35.here hx rfl (hb hby d3_25) rfl rfl ?_
    show Steps p.tables e below (T35.setTop (mkF m 26 #[.val (.ref a1), .val (.ref ps), .val (.ref pa), .val .null, .val (.double pz), .second, .val (.double pp), .second] [(.ref a1)])) _
    refine XS.dload X35.here hx rfl (hb hby d3_26) rfl ?_
    show Steps p.tables e below (T35.setTop (mkF m 28 #[.val (.ref a1), .val (.ref ps), .val (.ref pa), .val .null, .val (.double pz), .second, .val (.double pp), .second] [(.double pp), (.ref a1)])) _
    exact k)
  obtain ⟨T45, h45, X45, e45, W45, st45⟩ := putF X35 hx hZ hown (host := "") (Or.inl (hw _ (List.mem_of_getElem? (i := 40) rfl))) Via.refl e35 F41 F37 (Or.inr ⟨(hw _ (List.mem_of_getElem? (i := 41) rfl)), rfl, hnaM⟩) (hw _ (List.mem_of_getElem? (i := 25) rfl)) (ty := .double) (by decide) rfl rfl (g := (mkF m 28 #[.val (.ref a1), .val (.ref ps), .val (.ref pa), .val .null, .val (.double pz), .second, .val (.double pp), .second] [(.double pp), (.ref a1)])) rfl rfl (hb hby d3_28)
  have F46 : Fld Z h45 a1 "com/example/detectability/detectability/ComparedProtein" "p" "D" (.double pp) := F41.same W45
  have F47 : Exa Z h45 a1 "com/example/detectability/detectability/ComparedProtein" := (F37.wr W45)
  have F48 : Fld Z h45 a1 "com/example/detectability/detectability/ComparedProtein" "name" "Ljava/lang/String;" (.ref ps) := (F38.other W45 (Or.inr (slot_ne (Or.inr (hw _ (List.mem_of_getElem? (i := 33) rfl))) (Or.inr (hw _ (List.mem_of_getElem? (i := 41) rfl))) (by decide) (t := (.object "java/lang/String")) (t' := .double) (by decide) (by decide))))
  have F49 : Fld Z h45 a1 "com/example/detectability/detectability/ComparedProtein" "inA" "Lcom/example/detectability/detectability/ProteinAbundance;" (.ref pa) := (F39.other W45 (Or.inr (slot_ne (Or.inr (hw _ (List.mem_of_getElem? (i := 35) rfl))) (Or.inr (hw _ (List.mem_of_getElem? (i := 41) rfl))) (by decide) (t := (.object "com/example/detectability/detectability/ProteinAbundance")) (t' := .double) (by decide) (by decide))))
  have F50 : Fld Z h45 a1 "com/example/detectability/detectability/ComparedProtein" "inB" "Lcom/example/detectability/detectability/ProteinAbundance;" .null := (F40.other W45 (Or.inr (slot_ne (Or.inr (hw _ (List.mem_of_getElem? (i := 37) rfl))) (Or.inr (hw _ (List.mem_of_getElem? (i := 41) rfl))) (by decide) (t := (.object "com/example/detectability/detectability/ProteinAbundance")) (t' := .double) (by decide) (by decide))))
  have F51 : Fld Z h45 a1 "com/example/detectability/detectability/ComparedProtein" "z" "D" (.double pz) := (F36.other W45 (Or.inr (slot_ne (Or.inr (hw _ (List.mem_of_getElem? (i := 39) rfl))) (Or.inr (hw _ (List.mem_of_getElem? (i := 41) rfl))) (by decide) (t := .double) (t' := .double) (by decide) (by decide))))
  have N45 := Fr.snoc X45 N35 g_a1
  have K52 : Keep h0 h45 [a1] := K42.wr W45 (Or.inl (List.mem_of_getElem? (i := 0) rfl))
  have c53 : ∀ t, Steps p.tables e below (T45.setTop (mkF m 31 #[.val (.ref a1), .val (.ref ps), .val (.ref pa), .val .null, .val (.double pz), .second, .val (.double pp), .second] [])) t → Steps p.tables e below (s₁.setTop (entryFrame m #[(.ref a1), (.ref ps), (.ref pa), .null, (.double pz), (.double pp)] 8)) t := fun t k => c44 t (st45 _ k)
  obtain ⟨fs, hr, hrun, hended, hW, hsame⟩ := X45.leave (v := none) (fun _ => rfl)
  refine ⟨_, _, pre0 _ (c53 _ (X45.returnOut hx Bd.returns (hb hby d3_31) hr)), hrun, hended, _, _, rfl, ?_, ⟨_, rfl⟩, hW, hsame.mono (by decide) (by decide)⟩
  show Q_ci10 Z a1 ps pa pz pp h0 n0 _ T45.heap _
  rw [e45]
  exact ⟨rfl, N45, K52, F47, F48, F49, F50, F51, F46⟩
theorem ef_ci11 (m : MethodId) (a1 : Addr) (ps : Addr) (pa : Addr) (pb : Addr) (pz : UInt64) (pp : UInt64) : entryFrame m #[(.ref a1), (.ref ps), (.ref pa), (.ref pb), (.double pz), (.double pp)] 8 = (mkF m 0 #[.val (.ref a1), .val (.ref ps), .val (.ref pa), .val (.ref pb), .val (.double pz), .second, .val (.double pp), .second] []) := by first | (simp [entryFrame, mkF, argsToLocals, Value.category]; done) | rfl
def Q_ci11 (Z : State) (a1 : Addr) (ps : Addr) (pa : Addr) (pb : Addr) (pz : UInt64) (pp : UInt64) (h0 : Heap) (n0 : Nat) (v : Option Value) (h : Heap) (L : List Loc) : Prop := v = none ∧ Fr n0 L ∧ Keep h0 h [a1] ∧ Exa Z h a1 "com/example/detectability/detectability/ComparedProtein" ∧ Fld Z h a1 "com/example/detectability/detectability/ComparedProtein" "name" "Ljava/lang/String;" (.ref ps) ∧ Fld Z h a1 "com/example/detectability/detectability/ComparedProtein" "inA" "Lcom/example/detectability/detectability/ProteinAbundance;" (.ref pa) ∧ Fld Z h a1 "com/example/detectability/detectability/ComparedProtein" "inB" "Lcom/example/detectability/detectability/ProteinAbundance;" (.ref pb) ∧ Fld Z h a1 "com/example/detectability/detectability/ComparedProtein" "z" "D" (.double pz) ∧ Fld Z h a1 "com/example/detectability/detectability/ComparedProtein" "p" "D" (.double pp)
set_option maxRecDepth 65536 in
set_option maxHeartbeats 2000000 in
theorem rm_ci11 (l : Launch) (Z : State) (a0 : Array Value) (hw : ∀ d ∈ tables_1, d.before a0 Z = true) (ws : List Jvm.Cond) (a1 : Addr) (ps : Addr) (pa : Addr) (pb : Addr) (pz : UInt64) (pp : UInt64) (h0 : Heap) (n0 : Nat) (Z0 : n0 ≤ h0.size) (E_a1 : Exa Z h0 a1 "com/example/detectability/detectability/ComparedProtein") (F_0 : Fld Z h0 a1 "com/example/detectability/detectability/ComparedProtein" "name" "Ljava/lang/String;" .null) (F_1 : Fld Z h0 a1 "com/example/detectability/detectability/ComparedProtein" "inA" "Lcom/example/detectability/detectability/ProteinAbundance;" .null) (F_2 : Fld Z h0 a1 "com/example/detectability/detectability/ComparedProtein" "inB" "Lcom/example/detectability/detectability/ProteinAbundance;" .null) (F_3 : Fld Z h0 a1 "com/example/detectability/detectability/ComparedProtein" "z" "D" (.double (0 : UInt64))) (F_4 : Fld Z h0 a1 "com/example/detectability/detectability/ComparedProtein" "p" "D" (.double (0 : UInt64))) (g_a1 : n0 ≤ a1) :
    MetFree l (⟨"com/example/detectability/detectability/ComparedProtein", "<init>", "(Ljava/lang/String;Lcom/example/detectability/detectability/ProteinAbundance;Lcom/example/detectability/detectability/ProteinAbundance;DD)V"⟩ : MethodName) (head1 (Jvm.Cond.code (⟨"com/example/detectability/detectability/ComparedProtein", "<init>", "(Ljava/lang/String;Lcom/example/detectability/detectability/ProteinAbundance;Lcom/example/detectability/detectability/ProteinAbundance;DD)V"⟩ : MethodName) prog_4_method_1_code 8 none :: ws) ({ frames := 1, cells := 0, slots := 0, locals := 12 } : Room)) (fun aa UU => aa = #[(.ref a1), (.ref ps), (.ref pa), (.ref pb), (.double pz), (.double pp)] ∧ Z.Warmed39 UU.vm ∧ UU.heap = h0) (fun _ _ _ _ _ => True) (fun _ UU oo UU' => ∃ v L, oo = .returned v ∧ Q_ci11 Z a1 ps pa pb pz pp h0 n0 v UU'.heap L ∧ FrameEnd UU oo UU' L ({ frames := 1, cells := 0, slots := 0, locals := 12 } : Room).cells ({ frames := 1, cells := 0, slots := 0, locals := 12 } : Room).slots) := by
  refine MetFree.of_bodySF (plainFor_of_name pn_com_example_detectability_detectability_ComparedProtein) hisR ?_
  intro p e s m args below meth c s₁ Bd hml0 hP hK
  obtain ⟨rfl, hZ, hh⟩ := hP
  have hx := Bd.exec
  have hby := Bd.bytes
  have hml : c.maxLocals = 8 := hml0
  have hown : s.vm.findClass "com/example/detectability/detectability/ComparedProtein" = some m.cls := findClass_of_methodNamed Bd.named
  have hnaM := (name_of_methodNamed Bd.named Bd.method).1
  have X0 : Stand p l e ({ frames := 1, cells := 0, slots := 0, locals := 12 } : Room) s m #[(.ref a1), (.ref ps), (.ref pa), (.ref pb), (.double pz), (.double pp)] below meth c s₁ [] 0 0 := Stand.of_body Bd
  have e0 : s₁.heap = h0 := by rw [← hh, Bd.state]; rfl
  have N0 := Fr.nil n0
  have pre0 : ∀ t, Steps p.tables e below (s₁.setTop (entryFrame m #[(.ref a1), (.ref ps), (.ref pa), (.ref pb), (.double pz), (.double pp)] 8)) t → Steps p.tables e below (s₁.setTop (entryFrame m #[(.ref a1), (.ref ps), (.ref pa), (.ref pb), (.double pz), (.double pp)] 8)) t := fun t k => k
  have c0 : ∀ t, Steps p.tables e below (s₁.setTop (mkF m 0 #[.val (.ref a1), .val (.ref ps), .val (.ref pa), .val (.ref pb), .val (.double pz), .second, .val (.double pp), .second] [])) t → Steps p.tables e below (s₁.setTop (entryFrame m #[(.ref a1), (.ref ps), (.ref pa), (.ref pb), (.double pz), (.double pp)] 8)) t := fun t k => castTop (ef_ci11 m a1 ps pa pb pz pp) k
  have K0 := Keep.refl h0 [a1]
  have c1 : ∀ t, Steps p.tables e below (s₁.setTop (mkF m 1 #[.val (.ref a1), .val (.ref ps), .val (.ref pa), .val (.ref pb), .val (.double pz), .second, .val (.double pp), .second] [(.ref a1)])) t → Steps p.tables e below (s₁.setTop (entryFrame m #[(.ref a1), (.ref ps), (.ref pa), (.ref pb), (.double pz), (.double pp)] 8)) t := fun t k => c0 t (by
    show Steps p.tables e below (s₁.setTop (mkF m 0 #[.val (.ref a1), .val (.ref ps), .val (.ref pa), .val (.ref pb), .val (.double pz), .second, .val (.double pp), .second] [])) _
    refine XS.aloadN X0.here hx rfl (hb hby d3_0) rfl rfl ?_
    show Steps p.tables e below (s₁.setTop (mkF m 1 #[.val (.ref a1), .val (.ref ps), .val (.ref pa), .val (.ref pb), .val (.double pz), .second, .val (.double pp), .second] [(.ref a1)])) _
    exact k)
  obtain ⟨T2, X2, e2, st2⟩ := initO X0 hx hZ hown (hw _ (List.mem_of_getElem? (i := 31) rfl)) (hw _ (List.mem_of_getElem? (i := 15) rfl)) (hw _ (List.mem_of_getElem? (i := 16) rfl)) e0 (g := (mkF m 1 #[.val (.ref a1), .val (.ref ps), .val (.ref pa), .val (.ref pb), .val (.double pz), .second, .val (.double pp), .second] [(.ref a1)])) rfl (by rw [hml]; rfl) rfl (hb hby d3_1) (by decide) (W := 0) (by show 2 * 0 + _ ≤ _; exact Nat.le_of_eq rfl) (by decide)
  have c3 : ∀ t, Steps p.tables e below (T2.setTop (mkF m 4 #[.val (.ref a1), .val (.ref ps), .val (.ref pa), .val (.ref pb), .val (.double pz), .second, .val (.double pp), .second] [])) t → Steps p.tables e below (s₁.setTop (entryFrame m #[(.ref a1), (.ref ps), (.ref pa), (.ref pb), (.double pz), (.double pp)] 8)) t := fun t k => c1 t (st2 _ k)
  have c4 : ∀ t, Steps p.tables e below (T2.setTop (mkF m 6 #[.val (.ref a1), .val (.ref ps), .val (.ref pa), .val (.ref pb), .val (.double pz), .second, .val (.double pp), .second] [(.ref ps), (.ref a1)])) t → Steps p.tables e below (s₁.setTop (entryFrame m #[(.ref a1), (.ref ps), (.ref pa), (.ref pb), (.double pz), (.double pp)] 8)) t := fun t k => c3 t (by
    show Steps p.tables e below (T2.setTop (mkF m 4 #[.val (.ref a1), .val (.ref ps), .val (.ref pa), .val (.ref pb), .val (.double pz), .second, .val (.double pp), .second] [])) _
    refine XS.aloadN X2.here hx rfl (hb hby d3_4) rfl rfl ?_
    show Steps p.tables e below (T2.setTop (mkF m 5 #[.val (.ref a1), .val (.ref ps), .val (.ref pa), .val (.ref pb), .val (.double pz), .second, .val (.double pp), .second] [(.ref a1)])) _
    refine XS.aloadN X2.here hx rfl (hb hby d3_5) rfl rfl ?_
    show Steps p.tables e below (T2.setTop (mkF m 6 #[.val (.ref a1), .val (.ref ps), .val (.ref pa), .val (.ref pb), .val (.double pz), .second, .val (.double pp), .second] [(.ref ps), (.ref a1)])) _
    exact k)
  obtain ⟨T5, h5, X5, e5, W5, st5⟩ := putF X2 hx hZ hown (host := "") (Or.inl (hw _ (List.mem_of_getElem? (i := 32) rfl))) Via.refl e2 F_0 E_a1 (Or.inr ⟨(hw _ (List.mem_of_getElem? (i := 33) rfl)), rfl, hnaM⟩) (hw _ (List.mem_of_getElem? (i := 25) rfl)) (ty := (.object "java/lang/String")) (by decide) rfl rfl (g := (mkF m 6 #[.val (.ref a1), .val (.ref ps), .val (.ref pa), .val (.ref pb), .val (.double pz), .second, .val (.double pp), .second] [(.ref ps), (.ref a1)])) rfl rfl (hb hby d3_6)
  have F6 : Fld Z h5 a1 "com/example/detectability/detectability/ComparedProtein" "name" "Ljava/lang/String;" (.ref ps) := F_0.same W5
  have F7 : Exa Z h5 a1 "com/example/detectability/detectability/ComparedProtein" := (E_a1.wr W5)
  have F8 : Fld Z h5 a1 "com/example/detectability/detectability/ComparedProtein" "inA" "Lcom/example/detectability/detectability/ProteinAbundance;" .null := (F_1.other W5 (Or.inr (slot_ne (Or.inr (hw _ (List.mem_of_getElem? (i := 35) rfl))) (Or.inr (hw _ (List.mem_of_getElem? (i := 33) rfl))) (by decide) (t := (.object "com/example/detectability/detectability/ProteinAbundance")) (t' := (.object "java/lang/String")) (by decide) (by decide))))
  have F9 : Fld Z h5 a1 "com/example/detectability/detectability/ComparedProtein" "inB" "Lcom/example/detectability/detectability/ProteinAbundance;" .null := (F_2.other W5 (Or.inr (slot_ne (Or.inr (hw _ (List.mem_of_getElem? (i := 37) rfl))) (Or.inr (hw _ (List.mem_of_getElem? (i := 33) rfl))) (by decide) (t := (.object "com/example/detectability/detectability/ProteinAbundance")) (t' := (.object "java/lang/String")) (by decide) (by decide))))
  have F10 : Fld Z h5 a1 "com/example/detectability/detectability/ComparedProtein" "z" "D" (.double (0 : UInt64)) := (F_3.other W5 (Or.inr (slot_ne (Or.inr (hw _ (List.mem_of_getElem? (i := 39) rfl))) (Or.inr (hw _ (List.mem_of_getElem? (i := 33) rfl))) (by decide) (t := .double) (t' := (.object "java/lang/String")) (by decide) (by decide))))
  have F11 : Fld Z h5 a1 "com/example/detectability/detectability/ComparedProtein" "p" "D" (.double (0 : UInt64)) := (F_4.other W5 (Or.inr (slot_ne (Or.inr (hw _ (List.mem_of_getElem? (i := 41) rfl))) (Or.inr (hw _ (List.mem_of_getElem? (i := 33) rfl))) (by decide) (t := .double) (t' := (.object "java/lang/String")) (by decide) (by decide))))
  have N5 := Fr.snoc X5 N0 g_a1
  have K12 : Keep h0 h5 [a1] := K0.wr W5 (Or.inl (List.mem_of_getElem? (i := 0) rfl))
  have c13 : ∀ t, Steps p.tables e below (T5.setTop (mkF m 9 #[.val (.ref a1), .val (.ref ps), .val (.ref pa), .val (.ref pb), .val (.double pz), .second, .val (.double pp), .second] [])) t → Steps p.tables e below (s₁.setTop (entryFrame m #[(.ref a1), (.ref ps), (.ref pa), (.ref pb), (.double pz), (.double pp)] 8)) t := fun t k => c4 t (st5 _ k)
  have c14 : ∀ t, Steps p.tables e below (T5.setTop (mkF m 11 #[.val (.ref a1), .val (.ref ps), .val (.ref pa), .val (.ref pb), .val (.double pz), .second, .val (.double pp), .second] [(.ref pa), (.ref a1)])) t → Steps p.tables e below (s₁.setTop (entryFrame m #[(.ref a1), (.ref ps), (.ref pa), (.ref pb), (.double pz), (.double pp)] 8)) t := fun t k => c13 t (by
    show Steps p.tables e below (T5.setTop (mkF m 9 #[.val (.ref a1), .val (.ref ps), .val (.ref pa), .val (.ref pb), .val (.double pz), .second, .val (.double pp), .second] [])) _
    refine XS.aloadN X5.here hx rfl (hb hby d3_9) rfl rfl ?_
    show Steps p.tables e below (T5.setTop (mkF m 10 #[.val (.ref a1), .val (.ref ps), .val (.ref pa), .val (.ref pb), .val (.double pz), .second, .val (.double pp), .second] [(.ref a1)])) _
    refine XS.aloadN X5.here hx rfl (hb hby d3_10) rfl rfl ?_
    show Steps p.tables e below (T5.setTop (mkF m 11 #[.val (.ref a1), .val (.ref ps), .val (.ref pa), .val (.ref pb), .val (.double pz), .second, .val (.double pp), .second] [(.ref pa), (.ref a1)])) _
    exact k)
  obtain ⟨T15, h15, X15, e15, W15, st15⟩ := putF X5 hx hZ hown (host := "") (Or.inl (hw _ (List.mem_of_getElem? (i := 34) rfl))) Via.refl e5 F8 F7 (Or.inr ⟨(hw _ (List.mem_of_getElem? (i := 35) rfl)), rfl, hnaM⟩) (hw _ (List.mem_of_getElem? (i := 25) rfl)) (ty := (.object "com/example/detectability/detectability/ProteinAbundance")) (by decide) rfl rfl (g := (mkF m 11 #[.val (.ref a1), .val (.ref ps), .val (.ref pa), .val (.ref pb), .val (.double pz), .second, .val (.double pp), .second] [(.ref pa), (.ref a1)])) rfl rfl (hb hby d3_11)
  have F16 : Fld Z h15 a1 "com/example/detectability/detectability/ComparedProtein" "inA" "Lcom/example/detectability/detectability/ProteinAbundance;" (.ref pa) := F8.same W15
  have F17 : Exa Z h15 a1 "com/example/detectability/detectability/ComparedProtein" := (F7.wr W15)
  have F18 : Fld Z h15 a1 "com/example/detectability/detectability/ComparedProtein" "name" "Ljava/lang/String;" (.ref ps) := (F6.other W15 (Or.inr (slot_ne (Or.inr (hw _ (List.mem_of_getElem? (i := 33) rfl))) (Or.inr (hw _ (List.mem_of_getElem? (i := 35) rfl))) (by decide) (t := (.object "java/lang/String")) (t' := (.object "com/example/detectability/detectability/ProteinAbundance")) (by decide) (by decide))))
  have F19 : Fld Z h15 a1 "com/example/detectability/detectability/ComparedProtein" "inB" "Lcom/example/detectability/detectability/ProteinAbundance;" .null := (F9.other W15 (Or.inr (slot_ne (Or.inr (hw _ (List.mem_of_getElem? (i := 37) rfl))) (Or.inr (hw _ (List.mem_of_getElem? (i := 35) rfl))) (by decide) (t := (.object "com/example/detectability/detectability/ProteinAbundance")) (t' := (.object "com/example/detectability/detectability/ProteinAbundance")) (by decide) (by decide))))
  have F20 : Fld Z h15 a1 "com/example/detectability/detectability/ComparedProtein" "z" "D" (.double (0 : UInt64)) := (F10.other W15 (Or.inr (slot_ne (Or.inr (hw _ (List.mem_of_getElem? (i := 39) rfl))) (Or.inr (hw _ (List.mem_of_getElem? (i := 35) rfl))) (by decide) (t := .double) (t' := (.object "com/example/detectability/detectability/ProteinAbundance")) (by decide) (by decide))))
  have F21 : Fld Z h15 a1 "com/example/detectability/detectability/ComparedProtein" "p" "D" (.double (0 : UInt64)) := (F11.other W15 (Or.inr (slot_ne (Or.inr (hw _ (List.mem_of_getElem? (i := 41) rfl))) (Or.inr (hw _ (List.mem_of_getElem? (i := 35) rfl))) (by decide) (t := .double) (t' := (.object "com/example/detectability/detectability/ProteinAbundance")) (by decide) (by decide))))
  have N15 := Fr.snoc X15 N5 g_a1
  have K22 : Keep h0 h15 [a1] := K12.wr W15 (Or.inl (List.mem_of_getElem? (i := 0) rfl))
  have c23 : ∀ t, Steps p.tables e below (T15.setTop (mkF m 14 #[.val (.ref a1), .val (.ref ps), .val (.ref pa), .val (.ref pb), .val (.double pz), .second, .val (.double pp), .second] [])) t → Steps p.tables e below (s₁.setTop (entryFrame m #[(.ref a1), (.ref ps), (.ref pa), (.ref pb), (.double pz), (.double pp)] 8)) t := fun t k => c14 t (st15 _ k)
  have c24 : ∀ t, Steps p.tables e below (T15.setTop (mkF m 16 #[.val (.ref a1), .val (.ref ps), .val (.ref pa), .val (.ref pb), .val (.double pz), .second, .val (.double pp), .second] [(.ref pb), (.ref a1)])) t → Steps p.tables e below (s₁.setTop (entryFrame m #[(.ref a1), (.ref ps), (.ref pa), (.ref pb), (.double pz), (.double pp)] 8)) t := fun t k => c23 t (by
    show Steps p.tables e below (T15.setTop (mkF m 14 #[.val (.ref a1), .val (.ref ps), .val (.ref pa), .val (.ref pb), .val (.double pz), .second, .val (.double pp), .second] [])) _
    refine XS.aloadN X15.here hx rfl (hb hby d3_14) rfl rfl ?_
    show Steps p.tables e below (T15.setTop (mkF m 15 #[.val (.ref a1), .val (.ref ps), .val (.ref pa), .val (.ref pb), .val (.double pz), .second, .val (.double pp), .second] [(.ref a1)])) _
    refine XS.aloadN X15.here hx rfl (hb hby d3_15) rfl rfl ?_
    show Steps p.tables e below (T15.setTop (mkF m 16 #[.val (.ref a1), .val (.ref ps), .val (.ref pa), .val (.ref pb), .val (.double pz), .second, .val (.double pp), .second] [(.ref pb), (.ref a1)])) _
    exact k)
  obtain ⟨T25, h25, X25, e25, W25, st25⟩ := putF X15 hx hZ hown (host := "") (Or.inl (hw _ (List.mem_of_getElem? (i := 36) rfl))) Via.refl e15 F19 F17 (Or.inr ⟨(hw _ (List.mem_of_getElem? (i := 37) rfl)), rfl, hnaM⟩) (hw _ (List.mem_of_getElem? (i := 25) rfl)) (ty := (.object "com/example/detectability/detectability/ProteinAbundance")) (by decide) rfl rfl (g := (mkF m 16 #[.val (.ref a1), .val (.ref ps), .val (.ref pa), .val (.ref pb), .val (.double pz), .second, .val (.double pp), .second] [(.ref pb), (.ref a1)])) rfl rfl (hb hby d3_16)
  have F26 : Fld Z h25 a1 "com/example/detectability/detectability/ComparedProtein" "inB" "Lcom/example/detectability/detectability/ProteinAbundance;" (.ref pb) := F19.same W25
  have F27 : Exa Z h25 a1 "com/example/detectability/detectability/ComparedProtein" := (F17.wr W25)
  have F28 : Fld Z h25 a1 "com/example/detectability/detectability/ComparedProtein" "name" "Ljava/lang/String;" (.ref ps) := (F18.other W25 (Or.inr (slot_ne (Or.inr (hw _ (List.mem_of_getElem? (i := 33) rfl))) (Or.inr (hw _ (List.mem_of_getElem? (i := 37) rfl))) (by decide) (t := (.object "java/lang/String")) (t' := (.object "com/example/detectability/detectability/ProteinAbundance")) (by decide) (by decide))))
  have F29 : Fld Z h25 a1 "com/example/detectability/detectability/ComparedProtein" "inA" "Lcom/example/detectability/detectability/ProteinAbundance;" (.ref pa) := (F16.other W25 (Or.inr (slot_ne (Or.inr (hw _ (List.mem_of_getElem? (i := 35) rfl))) (Or.inr (hw _ (List.mem_of_getElem? (i := 37) rfl))) (by decide) (t := (.object "com/example/detectability/detectability/ProteinAbundance")) (t' := (.object "com/example/detectability/detectability/ProteinAbundance")) (by decide) (by decide))))
  have F30 : Fld Z h25 a1 "com/example/detectability/detectability/ComparedProtein" "z" "D" (.double (0 : UInt64)) := (F20.other W25 (Or.inr (slot_ne (Or.inr (hw _ (List.mem_of_getElem? (i := 39) rfl))) (Or.inr (hw _ (List.mem_of_getElem? (i := 37) rfl))) (by decide) (t := .double) (t' := (.object "com/example/detectability/detectability/ProteinAbundance")) (by decide) (by decide))))
  have F31 : Fld Z h25 a1 "com/example/detectability/detectability/ComparedProtein" "p" "D" (.double (0 : UInt64)) := (F21.other W25 (Or.inr (slot_ne (Or.inr (hw _ (List.mem_of_getElem? (i := 41) rfl))) (Or.inr (hw _ (List.mem_of_getElem? (i := 37) rfl))) (by decide) (t := .double) (t' := (.object "com/example/detectability/detectability/ProteinAbundance")) (by decide) (by decide))))
  have N25 := Fr.snoc X25 N15 g_a1
  have K32 : Keep h0 h25 [a1] := K22.wr W25 (Or.inl (List.mem_of_getElem? (i := 0) rfl))
  have c33 : ∀ t, Steps p.tables e below (T25.setTop (mkF m 19 #[.val (.ref a1), .val (.ref ps), .val (.ref pa), .val (.ref pb), .val (.double pz), .second, .val (.double pp), .second] [])) t → Steps p.tables e below (s₁.setTop (entryFrame m #[(.ref a1), (.ref ps), (.ref pa), (.ref pb), (.double pz), (.double pp)] 8)) t := fun t k => c24 t (st25 _ k)
  have c34 : ∀ t, Steps p.tables e below (T25.setTop (mkF m 22 #[.val (.ref a1), .val (.ref ps), .val (.ref pa), .val (.ref pb), .val (.double pz), .second, .val (.double pp), .second] [(.double pz), (.ref a1)])) t → Steps p.tables e below (s₁.setTop (entryFrame m #[(.ref a1), (.ref ps), (.ref pa), (.ref pb), (.double pz), (.double pp)] 8)) t := fun t k => c33 t (by
    show Steps p.tables e below (T25.setTop (mkF m 19 #[.val (.ref a1), .val (.ref ps), .val (.ref pa), .val (.ref pb), .val (.double pz), .second, .val (.double pp), .second] [])) _
    refine XS.aloadN X25.here hx rfl (hb hby d3_19) rfl rfl ?_
    show Steps p.tables e below (T25.setTop (mkF m 20 #[.val (.ref a1), .val (.ref ps), .val (.ref pa), .val (.ref pb), .val (.double pz), .second, .val (.double pp), .second] [(.ref a1)])) _
    refine XS.dload X25.here hx rfl (hb hby d3_20) rfl ?_
    show Steps p.tables e below (T25.setTop (mkF m 22 #[.val (.ref a1), .val (.ref ps), .val (.ref pa), .val (.ref pb), .val (.double pz), .second, .val (.double pp), .second] [(.double pz), (.ref a1)])) _
    exact k)
  obtain ⟨T35, h35, X35, e35, W35, st35⟩ := putF X25 hx hZ hown (host := "") (Or.inl (hw _ (List.mem_of_getElem? (i := 38) rfl))) Via.refl e25 F30 F27 (Or.inr ⟨(hw _ (List.mem_of_getElem? (i := 39) rfl)), rfl, hnaM⟩) (hw _ (List.mem_of_getElem? (i := 25) rfl)) (ty := .double) (by decide) rfl rfl (g := (mkF m 22 #[.val (.ref a1), .val (.ref ps), .val (.ref pa), .val (.ref pb), .val (.double pz), .second, .val (.double pp), .second] [(.double pz), (.ref a1)])) rfl rfl (hb hby d3_22)
  have F36 : Fld Z h35 a1 "com/example/detectability/detectability/ComparedProtein" "z" "D" (.double pz) := F30.same W35
  have F37 : Exa Z h35 a1 "com/example/detectability/detectability/ComparedProtein" := (F27.wr W35)
  have F38 : Fld Z h35 a1 "com/example/detectability/detectability/ComparedProtein" "name" "Ljava/lang/String;" (.ref ps) := (F28.other W35 (Or.inr (slot_ne (Or.inr (hw _ (List.mem_of_getElem? (i := 33) rfl))) (Or.inr (hw _ (List.mem_of_getElem? (i := 39) rfl))) (by decide) (t := (.object "java/lang/String")) (t' := .double) (by decide) (by decide))))
  have F39 : Fld Z h35 a1 "com/example/detectability/detectability/ComparedProtein" "inA" "Lcom/example/detectability/detectability/ProteinAbundance;" (.ref pa) := (F29.other W35 (Or.inr (slot_ne (Or.inr (hw _ (List.mem_of_getElem? (i := 35) rfl))) (Or.inr (hw _ (List.mem_of_getElem? (i := 39) rfl))) (by decide) (t := (.object "com/example/detectability/detectability/ProteinAbundance")) (t' := .double) (by decide) (by decide))))
  have F40 : Fld Z h35 a1 "com/example/detectability/detectability/ComparedProtein" "inB" "Lcom/example/detectability/detectability/ProteinAbundance;" (.ref pb) := (F26.other W35 (Or.inr (slot_ne (Or.inr (hw _ (List.mem_of_getElem? (i := 37) rfl))) (Or.inr (hw _ (List.mem_of_getElem? (i := 39) rfl))) (by decide) (t := (.object "com/example/detectability/detectability/ProteinAbundance")) (t' := .double) (by decide) (by decide))))
  have F41 : Fld Z h35 a1 "com/example/detectability/detectability/ComparedProtein" "p" "D" (.double (0 : UInt64)) := (F31.other W35 (Or.inr (slot_ne (Or.inr (hw _ (List.mem_of_getElem? (i := 41) rfl))) (Or.inr (hw _ (List.mem_of_getElem? (i := 39) rfl))) (by decide) (t := .double) (t' := .double) (by decide) (by decide))))
  have N35 := Fr.snoc X35 N25 g_a1
  have K42 : Keep h0 h35 [a1] := K32.wr W35 (Or.inl (List.mem_of_getElem? (i := 0) rfl))
  have c43 : ∀ t, Steps p.tables e below (T35.setTop (mkF m 25 #[.val (.ref a1), .val (.ref ps), .val (.ref pa), .val (.ref pb), .val (.double pz), .second, .val (.double pp), .second] [])) t → Steps p.tables e below (s₁.setTop (entryFrame m #[(.ref a1), (.ref ps), (.ref pa), (.ref pb), (.double pz), (.double pp)] 8)) t := fun t k => c34 t (st35 _ k)
  have c44 : ∀ t, Steps p.tables e below (T35.setTop (mkF m 28 #[.val (.ref a1), .val (.ref ps), .val (.ref pa), .val (.ref pb), .val (.double pz), .second, .val (.double pp), .second] [(.double pp), (.ref a1)])) t → Steps p.tables e below (s₁.setTop (entryFrame m #[(.ref a1), (.ref ps), (.ref pa), (.ref pb), (.double pz), (.double pp)] 8)) t := fun t k => c43 t (by
    show Steps p.tables e below (T35.setTop (mkF m 25 #[.val (.ref a1), .val (.ref ps), .val (.ref pa), .val (.ref pb), .val (.double pz), .second, .val (.double pp), .second] [])) _
    refine XS.aloadN X35.here hx rfl (hb hby d3_25) rfl rfl ?_
    show Steps p.tables e below (T35.setTop (mkF m 26 #[.val (.ref a1), .val (.ref ps), .val (.ref pa), .val (.ref pb), .val (.double pz), .second, .val (.double pp), .second] [(.ref a1)])) _
    refine XS.dload X35.here hx rfl (hb hby d3_26) rfl ?_
    show Steps p.tables e below (T35.setTop (mkF m 28 #[.val (.ref a1), .val (.ref ps), .val (.ref pa), .val (.ref pb), .val (.double pz), .second, .val (.double pp), .second] [(.double pp), (.ref a1)])) _
    exact k)
  obtain ⟨T45, h45, X45, e45, W45, st45⟩ := putF X35 hx hZ hown (host := "") (Or.inl (hw _ (List.mem_of_getElem? (i := 40) rfl))) Via.refl e35 F41 F37 (Or.inr ⟨(hw _ (List.mem_of_getElem? (i := 41) rfl)), rfl, hnaM⟩) (hw _ (List.mem_of_getElem? (i := 25) rfl)) (ty := .double) (by decide) rfl rfl (g := (mkF m 28 #[.val (.ref a1), .val (.ref ps), .val (.ref pa), .val (.ref pb), .val (.double pz), .second, .val (.double pp), .second] [(.double pp), (.ref a1)])) rfl rfl (hb hby d3_28)
  have F46 : Fld Z h45 a1 "com/example/detectability/detectability/ComparedProtein" "p" "D" (.double pp) := F41.same W45
  have F47 : Exa Z h45 a1 "com/example/detectability/detectability/ComparedProtein" := (F37.wr W45)
  have F48 : Fld Z h45 a1 "com/example/detectability/detectability/ComparedProtein" "name" "Ljava/lang/String;" (.ref ps) := (F38.other W45 (Or.inr (slot_ne (Or.inr (hw _ (List.mem_of_getElem? (i := 33) rfl))) (Or.inr (hw _ (List.mem_of_getElem? (i := 41) rfl))) (by decide) (t := (.object "java/lang/String")) (t' := .double) (by decide) (by decide))))
  have F49 : Fld Z h45 a1 "com/example/detectability/detectability/ComparedProtein" "inA" "Lcom/example/detectability/detectability/ProteinAbundance;" (.ref pa) := (F39.other W45 (Or.inr (slot_ne (Or.inr (hw _ (List.mem_of_getElem? (i := 35) rfl))) (Or.inr (hw _ (List.mem_of_getElem? (i := 41) rfl))) (by decide) (t := (.object "com/example/detectability/detectability/ProteinAbundance")) (t' := .double) (by decide) (by decide))))
  have F50 : Fld Z h45 a1 "com/example/detectability/detectability/ComparedProtein" "inB" "Lcom/example/detectability/detectability/ProteinAbundance;" (.ref pb) := (F40.other W45 (Or.inr (slot_ne (Or.inr (hw _ (List.mem_of_getElem? (i := 37) rfl))) (Or.inr (hw _ (List.mem_of_getElem? (i := 41) rfl))) (by decide) (t := (.object "com/example/detectability/detectability/ProteinAbundance")) (t' := .double) (by decide) (by decide))))
  have F51 : Fld Z h45 a1 "com/example/detectability/detectability/ComparedProtein" "z" "D" (.double pz) := (F36.other W45 (Or.inr (slot_ne (Or.inr (hw _ (List.mem_of_getElem? (i := 39) rfl))) (Or.inr (hw _ (List.mem_of_getElem? (i := 41) rfl))) (by decide) (t := .double) (t' := .double) (by decide) (by decide))))
  have N45 := Fr.snoc X45 N35 g_a1
  have K52 : Keep h0 h45 [a1] := K42.wr W45 (Or.inl (List.mem_of_getElem? (i := 0) rfl))
  have c53 : ∀ t, Steps p.tables e below (T45.setTop (mkF m 31 #[.val (.ref a1), .val (.ref ps), .val (.ref pa), .val (.ref pb), .val (.double pz), .second, .val (.double pp), .second] [])) t → Steps p.tables e below (s₁.setTop (entryFrame m #[(.ref a1), (.ref ps), (.ref pa), (.ref pb), (.double pz), (.double pp)] 8)) t := fun t k => c44 t (st45 _ k)
  obtain ⟨fs, hr, hrun, hended, hW, hsame⟩ := X45.leave (v := none) (fun _ => rfl)
  refine ⟨_, _, pre0 _ (c53 _ (X45.returnOut hx Bd.returns (hb hby d3_31) hr)), hrun, hended, _, _, rfl, ?_, ⟨_, rfl⟩, hW, hsame.mono (by decide) (by decide)⟩
  show Q_ci11 Z a1 ps pa pb pz pp h0 n0 _ T45.heap _
  rw [e45]
  exact ⟨rfl, N45, K52, F47, F48, F49, F50, F51, F46⟩
theorem d4_0 : decode prog_4_method_3_code 0 = .ok (.aload_n 0, 1) := by decide +kernel
theorem d4_1 : decode prog_4_method_3_code 1 = .ok (.getfield 13, 3) := by decide +kernel
theorem d4_4 : decode prog_4_method_3_code 4 = .ok (.ifnonnull 7, 3) := by decide +kernel
theorem d4_7 : decode prog_4_method_3_code 7 = .ok (.lconst 0, 1) := by decide +kernel
theorem d4_8 : decode prog_4_method_3_code 8 = .ok (.goto 10, 3) := by decide +kernel
theorem d4_18 : decode prog_4_method_3_code 18 = .ok (.lreturn, 1) := by decide +kernel
theorem ef_cg0 (m : MethodId) (a1 : Addr) : entryFrame m #[(.ref a1)] 1 = (mkF m 0 #[.val (.ref a1)] []) := by first | (simp [entryFrame, mkF, argsToLocals, Value.category]; done) | rfl
def Q_cg0 (Z : State) (a1 : Addr) (h0 : Heap) (n0 : Nat) (v : Option Value) (h : Heap) (L : List Loc) : Prop := v = some (.long 0) ∧ Fr n0 L ∧ h = h0
set_option maxRecDepth 65536 in
set_option maxHeartbeats 2000000 in
theorem rm_cg0 (l : Launch) (Z : State) (a0 : Array Value) (hw : ∀ d ∈ tables_1, d.before a0 Z = true) (ws : List Jvm.Cond) (a1 : Addr) (h0 : Heap) (n0 : Nat) (Z0 : n0 ≤ h0.size) (G_0 : Fld Z h0 a1 "com/example/detectability/detectability/ComparedProtein" "inA" "Lcom/example/detectability/detectability/ProteinAbundance;" .null) :
    MetFree l (⟨"com/example/detectability/detectability/ComparedProtein", "getSpectraA", "()J"⟩ : MethodName) (head1 (Jvm.Cond.code (⟨"com/example/detectability/detectability/ComparedProtein", "getSpectraA", "()J"⟩ : MethodName) prog_4_method_3_code 1 (some .long) :: ws) ({ frames := 1, cells := 0, slots := 0, locals := 12 } : Room)) (fun aa UU => aa = #[(.ref a1)] ∧ Z.Warmed39 UU.vm ∧ UU.heap = h0) (fun _ _ _ _ _ => True) (fun _ UU oo UU' => ∃ v L, oo = .returned v ∧ Q_cg0 Z a1 h0 n0 v UU'.heap L ∧ FrameEnd UU oo UU' L ({ frames := 1, cells := 0, slots := 0, locals := 12 } : Room).cells ({ frames := 1, cells := 0, slots := 0, locals := 12 } : Room).slots) := by
  refine MetFree.of_bodySF (plainFor_of_name pn_com_example_detectability_detectability_ComparedProtein) hisR ?_
  intro p e s m args below meth c s₁ Bd hml0 hP hK
  obtain ⟨rfl, hZ, hh⟩ := hP
  have hx := Bd.exec
  have hby := Bd.bytes
  have hml : c.maxLocals = 1 := hml0
  have hown : s.vm.findClass "com/example/detectability/detectability/ComparedProtein" = some m.cls := findClass_of_methodNamed Bd.named
  have hnaM := (name_of_methodNamed Bd.named Bd.method).1
  have X0 : Stand p l e ({ frames := 1, cells := 0, slots := 0, locals := 12 } : Room) s m #[(.ref a1)] below meth c s₁ [] 0 0 := Stand.of_body Bd
  have e0 : s₁.heap = h0 := by rw [← hh, Bd.state]; rfl
  have N0 := Fr.nil n0
  have pre0 : ∀ t, Steps p.tables e below (s₁.setTop (entryFrame m #[(.ref a1)] 1)) t → Steps p.tables e below (s₁.setTop (entryFrame m #[(.ref a1)] 1)) t := fun t k => k
  have c0 : ∀ t, Steps p.tables e below (s₁.setTop (mkF m 0 #[.val (.ref a1)] [])) t → Steps p.tables e below (s₁.setTop (entryFrame m #[(.ref a1)] 1)) t := fun t k => castTop (ef_cg0 m a1) k
  have c1 : ∀ t, Steps p.tables e below (s₁.setTop (mkF m 1 #[.val (.ref a1)] [(.ref a1)])) t → Steps p.tables e below (s₁.setTop (entryFrame m #[(.ref a1)] 1)) t := fun t k => c0 t (by
    show Steps p.tables e below (s₁.setTop (mkF m 0 #[.val (.ref a1)] [])) _
    refine XS.aloadN X0.here hx rfl (hb hby d4_0) rfl rfl ?_
    show Steps p.tables e below (s₁.setTop (mkF m 1 #[.val (.ref a1)] [(.ref a1)])) _
    exact k)
  obtain ⟨T2, X2, e2, st2⟩ := getF X0 hx hZ hown (host := "") (Or.inl (hw _ (List.mem_of_getElem? (i := 34) rfl))) Via.refl e0 G_0 (g := (mkF m 1 #[.val (.ref a1)] [(.ref a1)])) rfl rfl (hb hby d4_1)
  have c3 : ∀ t, Steps p.tables e below (T2.setTop (mkF m 4 #[.val (.ref a1)] [.null])) t → Steps p.tables e below (s₁.setTop (entryFrame m #[(.ref a1)] 1)) t := fun t k => c1 t (st2 _ k)
  have c4 : ∀ t, Steps p.tables e below (T2.setTop (mkF m 18 #[.val (.ref a1)] [(.long (0 : Int64))])) t → Steps p.tables e below (s₁.setTop (entryFrame m #[(.ref a1)] 1)) t := fun t k => c3 t (by
    show Steps p.tables e below (T2.setTop (mkF m 4 #[.val (.ref a1)] [.null])) _
    refine XT.ifnonnullNo X2.here hx rfl (hb hby d4_4) rfl ?_
    show Steps p.tables e below (T2.setTop (mkF m 7 #[.val (.ref a1)] [])) _
    refine XT.lconst X2.here hx rfl (hb hby d4_7) ?_
    show Steps p.tables e below (T2.setTop (mkF m 8 #[.val (.ref a1)] [(.long (0 : Int64))])) _
    refine XS.goto X2.here hx rfl (pc0 := 8) (pc' := 18) rfl (hb hby d4_8) (by decide) (by decide) ?_
    show Steps p.tables e below (T2.setTop (mkF m 18 #[.val (.ref a1)] [(.long (0 : Int64))])) _
    exact k)
  obtain ⟨fs, hr, hrun, hended, hW, hsame⟩ := X2.leave (v := (some (.long (0 : Int64)))) (fun h => by rw [Bd.returns] at h; cases h)
  refine ⟨_, _, pre0 _ (c4 _ (retOut X2 hx (t := .long) (i := .lreturn) Bd.returns rfl (Or.inr (Or.inl ⟨rfl, rfl, _, rfl⟩)) (hb hby d4_18) hr)), hrun, hended, _, _, rfl, ?_, ⟨_, rfl⟩, hW, hsame.mono (by decide) (by decide)⟩
  show Q_cg0 Z a1 h0 n0 _ T2.heap _
  rw [e2]
  exact ⟨rfl, N0, rfl⟩
theorem d4_11 : decode prog_4_method_3_code 11 = .ok (.aload_n 0, 1) := by decide +kernel
theorem d4_12 : decode prog_4_method_3_code 12 = .ok (.getfield 13, 3) := by decide +kernel
theorem d4_15 : decode prog_4_method_3_code 15 = .ok (.invokevirtual 27, 3) := by decide +kernel
theorem ef_cg1 (m : MethodId) (a1 : Addr) (pb : Addr) (pj : Int64) : entryFrame m #[(.ref a1)] 1 = (mkF m 0 #[.val (.ref a1)] []) := by first | (simp [entryFrame, mkF, argsToLocals, Value.category]; done) | rfl
def Q_cg1 (Z : State) (a1 : Addr) (pb : Addr) (pj : Int64) (h0 : Heap) (n0 : Nat) (v : Option Value) (h : Heap) (L : List Loc) : Prop := v = some (.long pj) ∧ Fr n0 L ∧ h = h0
set_option maxRecDepth 65536 in
set_option maxHeartbeats 2000000 in
theorem rm_cg1 (l : Launch) (Z : State) (a0 : Array Value) (hw : ∀ d ∈ tables_1, d.before a0 Z = true) (ws : List Jvm.Cond) (a1 : Addr) (pb : Addr) (pj : Int64) (h0 : Heap) (n0 : Nat) (Z0 : n0 ≤ h0.size) (G_0 : Fld Z h0 a1 "com/example/detectability/detectability/ComparedProtein" "inA" "Lcom/example/detectability/detectability/ProteinAbundance;" (.ref pb)) (E_pb : Exa Z h0 pb "com/example/detectability/detectability/ProteinAbundance") (G_1 : Fld Z h0 pb "com/example/detectability/detectability/ProteinAbundance" "spectra" "J" (.long pj)) :
    MetFree l (⟨"com/example/detectability/detectability/ComparedProtein", "getSpectraA", "()J"⟩ : MethodName) (head1 (Jvm.Cond.code (⟨"com/example/detectability/detectability/ComparedProtein", "getSpectraA", "()J"⟩ : MethodName) prog_4_method_3_code 1 (some .long) :: ws) ({ frames := 1, cells := 0, slots := 0, locals := 12 } : Room)) (fun aa UU => aa = #[(.ref a1)] ∧ Z.Warmed39 UU.vm ∧ UU.heap = h0) (fun _ _ _ _ _ => True) (fun _ UU oo UU' => ∃ v L, oo = .returned v ∧ Q_cg1 Z a1 pb pj h0 n0 v UU'.heap L ∧ FrameEnd UU oo UU' L ({ frames := 1, cells := 0, slots := 0, locals := 12 } : Room).cells ({ frames := 1, cells := 0, slots := 0, locals := 12 } : Room).slots) := by
  refine MetFree.of_bodySF (plainFor_of_name pn_com_example_detectability_detectability_ComparedProtein) hisR ?_
  intro p e s m args below meth c s₁ Bd hml0 hP hK
  obtain ⟨rfl, hZ, hh⟩ := hP
  have hx := Bd.exec
  have hby := Bd.bytes
  have hml : c.maxLocals = 1 := hml0
  have hown : s.vm.findClass "com/example/detectability/detectability/ComparedProtein" = some m.cls := findClass_of_methodNamed Bd.named
  have hnaM := (name_of_methodNamed Bd.named Bd.method).1
  have X0 : Stand p l e ({ frames := 1, cells := 0, slots := 0, locals := 12 } : Room) s m #[(.ref a1)] below meth c s₁ [] 0 0 := Stand.of_body Bd
  have e0 : s₁.heap = h0 := by rw [← hh, Bd.state]; rfl
  have N0 := Fr.nil n0
  have pre0 : ∀ t, Steps p.tables e below (s₁.setTop (entryFrame m #[(.ref a1)] 1)) t → Steps p.tables e below (s₁.setTop (entryFrame m #[(.ref a1)] 1)) t := fun t k => k
  have c0 : ∀ t, Steps p.tables e below (s₁.setTop (mkF m 0 #[.val (.ref a1)] [])) t → Steps p.tables e below (s₁.setTop (entryFrame m #[(.ref a1)] 1)) t := fun t k => castTop (ef_cg1 m a1 pb pj) k
  have c1 : ∀ t, Steps p.tables e below (s₁.setTop (mkF m 1 #[.val (.ref a1)] [(.ref a1)])) t → Steps p.tables e below (s₁.setTop (entryFrame m #[(.ref a1)] 1)) t := fun t k => c0 t (by
    show Steps p.tables e below (s₁.setTop (mkF m 0 #[.val (.ref a1)] [])) _
    refine XS.aloadN X0.here hx rfl (hb hby d4_0) rfl rfl ?_
    show Steps p.tables e below (s₁.setTop (mkF m 1 #[.val (.ref a1)] [(.ref a1)])) _
    exact k)
  obtain ⟨T2, X2, e2, st2⟩ := getF X0 hx hZ hown (host := "") (Or.inl (hw _ (List.mem_of_getElem? (i := 34) rfl))) Via.refl e0 G_0 (g := (mkF m 1 #[.val (.ref a1)] [(.ref a1)])) rfl rfl (hb hby d4_1)
  have c3 : ∀ t, Steps p.tables e below (T2.setTop (mkF m 4 #[.val (.ref a1)] [(.ref pb)])) t → Steps p.tables e below (s₁.setTop (entryFrame m #[(.ref a1)] 1)) t := fun t k => c1 t (st2 _ k)
  have c4 : ∀ t, Steps p.tables e below (T2.setTop (mkF m 12 #[.val (.ref a1)] [(.ref a1)])) t → Steps p.tables e below (s₁.setTop (entryFrame m #[(.ref a1)] 1)) t := fun t k => c3 t (by
    show Steps p.tables e below (T2.setTop (mkF m 4 #[.val (.ref a1)] [(.ref pb)])) _
    refine XT.ifnonnullYes X2.here hx rfl (pc0 := 4) (pc' := 11) rfl (hb hby d4_4) rfl (by decide) (by decide) ?_
    show Steps p.tables e below (T2.setTop (mkF m 11 #[.val (.ref a1)] [])) _
    refine XS.aloadN X2.here hx rfl (hb hby d4_11) rfl rfl ?_
    show Steps p.tables e below (T2.setTop (mkF m 12 #[.val (.ref a1)] [(.ref a1)])) _
    exact k)
  obtain ⟨T5, X5, e5, st5⟩ := getF X2 hx hZ hown (host := "") (Or.inl (hw _ (List.mem_of_getElem? (i := 34) rfl))) Via.refl e2 G_0 (g := (mkF m 12 #[.val (.ref a1)] [(.ref a1)])) rfl rfl (hb hby d4_12)
  have c6 : ∀ t, Steps p.tables e below (T5.setTop (mkF m 15 #[.val (.ref a1)] [(.ref pb)])) t → Steps p.tables e below (s₁.setTop (entryFrame m #[(.ref a1)] 1)) t := fun t k => c4 t (st5 _ k)
  obtain ⟨cq7, kq7, q7a, q7b, q7c⟩ := isOf hZ e5 E_pb
  obtain ⟨_, _, ⟨T7, L7, k7', n7⟩, -, X7, ⟨Lc7, hQ7, l7, y7, z7⟩, st7⟩ := X5.virtualBack hx (y := (⟨"com/example/detectability/detectability/ProteinAbundance", "getSpectra", "()J"⟩ : MethodName)) (z := (⟨"com/example/detectability/detectability/ProteinAbundance", "getSpectra", "()J"⟩ : MethodName)) hown (mvT hZ (hw _ (List.mem_of_getElem? (i := 47) rfl))) (mvT hZ (hw _ (List.mem_of_getElem? (i := 48) rfl))) (notFace_of_selects (args := #[]) (mvT hZ (hw _ (List.mem_of_getElem? (i := 50) rfl)))) (mvT hZ (hw _ (List.mem_of_getElem? (i := 50) rfl))) (mvT hZ (hw _ (List.mem_of_getElem? (i := 49) rfl))) (by decide) (backOf (W := 0) (rm_pg l Z a0 hw [] pb pj h0 n0 Z0 G_1) hZ (hw _ (List.mem_of_getElem? (i := 51) rfl)) (hw _ (List.mem_of_getElem? (i := 2) rfl)) (by decide) (by decide)) q7a q7c (g := (mkF m 15 #[.val (.ref a1)] [(.ref pb)])) rfl (by rw [hml]; rfl) (Steps.refl _) (argsL := []) (rest := []) (lenOf pd___J rfl) rfl (by show 2 * 0 + _ ≤ _; exact Nat.le_of_eq rfl) (hb hby d4_15) (fun _ _ => ⟨rfl, e5, (by decide : 0 + 0 ≤ _), (by decide : 0 + 0 ≤ _)⟩)
  dsimp only [Pt.U, Pt.locs, Pt.cells, Pt.slots] at X7 l7 y7 z7 st7 hQ7
  subst l7 y7 z7
  obtain ⟨rfl, N7, e7⟩ := hQ7
  have M7 := Fr.app N0 N7
  have c8 : ∀ t, Steps p.tables e below (T7.setTop (mkF m 18 #[.val (.ref a1)] [(.long pj)])) t → Steps p.tables e below (s₁.setTop (entryFrame m #[(.ref a1)] 1)) t := fun t k => c6 t (st7.trans k)
  obtain ⟨fs, hr, hrun, hended, hW, hsame⟩ := X7.leave (v := (some (.long pj))) (fun h => by rw [Bd.returns] at h; cases h)
  refine ⟨_, _, pre0 _ (c8 _ (retOut X7 hx (t := .long) (i := .lreturn) Bd.returns rfl (Or.inr (Or.inl ⟨rfl, rfl, _, rfl⟩)) (hb hby d4_18) hr)), hrun, hended, _, _, rfl, ?_, ⟨_, rfl⟩, hW, hsame.mono (by decide) (by decide)⟩
  show Q_cg1 Z a1 pb pj h0 n0 _ T7.heap _
  rw [e7]
  exact ⟨rfl, M7, rfl⟩
theorem ef_0 (m : MethodId) (sa : Int64) (sb : Int64) (fl : Int32) (p4 : Int32) : entryFrame m #[(.long sa), (.long sb), (.int fl), (.int p4)] maxLocals = (mkF m 0 #[.val (.long sa), .second, .val (.long sb), .second, .val (.int fl), .val (.int p4), .unset, .unset, .unset, .unset, .unset, .unset, .unset] []) := by first | (simp [entryFrame, mkF, argsToLocals, Value.category, maxLocals]; done) | rfl
def Q_0 (Z : State) (sa : Int64) (sb : Int64) (fl : Int32) (p4 : Int32) (h0 : Heap) (n0 : Nat) (v : Option Value) (h : Heap) (L : List Loc) : Prop := v = some (.int 1) ∧ Fr n0 L
set_option maxRecDepth 65536 in
set_option maxHeartbeats 2000000 in
theorem rm_0 (l : Launch) (Z : State) (a0 : Array Value) (hw : ∀ d ∈ tables_1, d.before a0 Z = true) (ws : List Jvm.Cond) (sa : Int64) (sb : Int64) (fl : Int32) (p4 : Int32) (h0 : Heap) (n0 : Nat) (Z0 : n0 ≤ h0.size)  :
    MetFree l x (head1 (Jvm.Cond.code x code maxLocals ret :: ws) room_1) (fun aa UU => aa = #[(.long sa), (.long sb), (.int fl), (.int p4)] ∧ Z.Warmed39 UU.vm ∧ UU.heap = h0) (fun _ _ _ _ _ => True) (fun _ UU oo UU' => ∃ v L, oo = .returned v ∧ Q_0 Z sa sb fl p4 h0 n0 v UU'.heap L ∧ ReturnedEndW UU oo UU' L 24 3200) := by
  refine MetFree.of_bodySF (plainFor_of_name pn_com_example_detectability_detectability_ComparedProteinGetSpectraAPinLaw) hisR ?_
  intro p e s m args below meth c s₁ Bd hml0 hP hK
  obtain ⟨rfl, hZ, hh⟩ := hP
  have hx := Bd.exec
  have hby := Bd.bytes
  have hml : c.maxLocals = 13 := hml0
  have hown : s.vm.findClass "com/example/detectability/detectability/ComparedProteinGetSpectraAPinLaw" = some m.cls := findClass_of_methodNamed Bd.named
  have hnaM := (name_of_methodNamed Bd.named Bd.method).1
  have X0 : Stand p l e room_1 s m #[(.long sa), (.long sb), (.int fl), (.int p4)] below meth c s₁ [] 0 0 := Stand.of_body Bd
  have e0 : s₁.heap = h0 := by rw [← hh, Bd.state]; rfl
  have N0 := Fr.nil n0
  have pre0 : ∀ t, Steps p.tables e below (s₁.setTop (entryFrame m #[(.long sa), (.long sb), (.int fl), (.int p4)] maxLocals)) t → Steps p.tables e below (s₁.setTop (entryFrame m #[(.long sa), (.long sb), (.int fl), (.int p4)] maxLocals)) t := fun t k => k
  have c0 : ∀ t, Steps p.tables e below (s₁.setTop (mkF m 0 #[.val (.long sa), .second, .val (.long sb), .second, .val (.int fl), .val (.int p4), .unset, .unset, .unset, .unset, .unset, .unset, .unset] [])) t → Steps p.tables e below (s₁.setTop (entryFrame m #[(.long sa), (.long sb), (.int fl), (.int p4)] maxLocals)) t := fun t k => castTop (ef_0 m sa sb fl p4) k
  have c1 : ∀ t, Steps p.tables e below (s₁.setTop (mkF m 4 #[.val (.long sa), .second, .val (.long sb), .second, .val (.int fl), .val (.int p4), .unset, .unset, .unset, .unset, .unset, .unset, .unset] [(.int (fl &&& (1 : Int32)))])) t → Steps p.tables e below (s₁.setTop (entryFrame m #[(.long sa), (.long sb), (.int fl), (.int p4)] maxLocals)) t := fun t k => c0 t (by
    show Steps p.tables e below (s₁.setTop (mkF m 0 #[.val (.long sa), .second, .val (.long sb), .second, .val (.int fl), .val (.int p4), .unset, .unset, .unset, .unset, .unset, .unset, .unset] [])) _
    refine XS.iload X0.here hx rfl (hb hby at_0) rfl ?_
    show Steps p.tables e below (s₁.setTop (mkF m 2 #[.val (.long sa), .second, .val (.long sb), .second, .val (.int fl), .val (.int p4), .unset, .unset, .unset, .unset, .unset, .unset, .unset] [(.int fl)])) _
    refine XS.iconst X0.here hx rfl (hb hby at_2) ?_
    show Steps p.tables e below (s₁.setTop (mkF m 3 #[.val (.long sa), .second, .val (.long sb), .second, .val (.int fl), .val (.int p4), .unset, .unset, .unset, .unset, .unset, .unset, .unset] [(.int (1 : Int32)), (.int fl)])) _
    refine XS.iand X0.here hx rfl (hb hby at_3) rfl ?_
    show Steps p.tables e below (s₁.setTop (mkF m 4 #[.val (.long sa), .second, .val (.long sb), .second, .val (.int fl), .val (.int p4), .unset, .unset, .unset, .unset, .unset, .unset, .unset] [(.int (fl &&& (1 : Int32)))])) _
    exact k)
  by_cases qa : (fl &&& (1 : Int32)) = 0
  · skip
    have c2 : ∀ t, Steps p.tables e below (s₁.setTop (mkF m 18 #[.val (.long sa), .second, .val (.long sb), .second, .val (.int fl), .val (.int p4), .val (.int (0 : Int32)), .unset, .unset, .unset, .unset, .unset, .unset] [(.int (fl &&& (2 : Int32)))])) t → Steps p.tables e below (s₁.setTop (entryFrame m #[(.long sa), (.long sb), (.int fl), (.int p4)] maxLocals)) t := fun t k => c1 t (by
      show Steps p.tables e below (s₁.setTop (mkF m 4 #[.val (.long sa), .second, .val (.long sb), .second, .val (.int fl), .val (.int p4), .unset, .unset, .unset, .unset, .unset, .unset, .unset] [(.int (fl &&& (1 : Int32)))])) _
      refine XS.ifYes X0.here hx rfl (pc0 := 4) (pc' := 11) rfl (hb hby at_4) rfl (XT.i0_eq_t qa) (by decide) (by decide) ?_
      show Steps p.tables e below (s₁.setTop (mkF m 11 #[.val (.long sa), .second, .val (.long sb), .second, .val (.int fl), .val (.int p4), .unset, .unset, .unset, .unset, .unset, .unset, .unset] [])) _
      refine XS.iconst X0.here hx rfl (hb hby at_11) ?_
      show Steps p.tables e below (s₁.setTop (mkF m 12 #[.val (.long sa), .second, .val (.long sb), .second, .val (.int fl), .val (.int p4), .unset, .unset, .unset, .unset, .unset, .unset, .unset] [(.int (0 : Int32))])) _
      refine XS.istore X0.here hx rfl (hb hby at_12) rfl (l' := #[.val (.long sa), .second, .val (.long sb), .second, .val (.int fl), .val (.int p4), .val (.int (0 : Int32)), .unset, .unset, .unset, .unset, .unset, .unset]) rfl ?_
      show Steps p.tables e below (s₁.setTop (mkF m 14 #[.val (.long sa), .second, .val (.long sb), .second, .val (.int fl), .val (.int p4), .val (.int (0 : Int32)), .unset, .unset, .unset, .unset, .unset, .unset] [])) _
      refine XS.iload X0.here hx rfl (hb hby at_14) rfl ?_
      show Steps p.tables e below (s₁.setTop (mkF m 16 #[.val (.long sa), .second, .val (.long sb), .second, .val (.int fl), .val (.int p4), .val (.int (0 : Int32)), .unset, .unset, .unset, .unset, .unset, .unset] [(.int fl)])) _
      refine XS.iconst X0.here hx rfl (hb hby at_16) ?_
      show Steps p.tables e below (s₁.setTop (mkF m 17 #[.val (.long sa), .second, .val (.long sb), .second, .val (.int fl), .val (.int p4), .val (.int (0 : Int32)), .unset, .unset, .unset, .unset, .unset, .unset] [(.int (2 : Int32)), (.int fl)])) _
      refine XS.iand X0.here hx rfl (hb hby at_17) rfl ?_
      show Steps p.tables e below (s₁.setTop (mkF m 18 #[.val (.long sa), .second, .val (.long sb), .second, .val (.int fl), .val (.int p4), .val (.int (0 : Int32)), .unset, .unset, .unset, .unset, .unset, .unset] [(.int (fl &&& (2 : Int32)))])) _
      exact k)
    by_cases qb : (fl &&& (2 : Int32)) = 0
    · skip
      have c3 : ∀ t, Steps p.tables e below (s₁.setTop (mkF m 28 #[.val (.long sa), .second, .val (.long sb), .second, .val (.int fl), .val (.int p4), .val (.int (0 : Int32)), .val (.int (0 : Int32)), .unset, .unset, .unset, .unset, .unset] [])) t → Steps p.tables e below (s₁.setTop (entryFrame m #[(.long sa), (.long sb), (.int fl), (.int p4)] maxLocals)) t := fun t k => c2 t (by
        show Steps p.tables e below (s₁.setTop (mkF m 18 #[.val (.long sa), .second, .val (.long sb), .second, .val (.int fl), .val (.int p4), .val (.int (0 : Int32)), .unset, .unset, .unset, .unset, .unset, .unset] [(.int (fl &&& (2 : Int32)))])) _
        refine XS.ifYes X0.here hx rfl (pc0 := 18) (pc' := 25) rfl (hb hby at_18) rfl (XT.i0_eq_t qb) (by decide) (by decide) ?_
        show Steps p.tables e below (s₁.setTop (mkF m 25 #[.val (.long sa), .second, .val (.long sb), .second, .val (.int fl), .val (.int p4), .val (.int (0 : Int32)), .unset, .unset, .unset, .unset, .unset, .unset] [])) _
        refine XS.iconst X0.here hx rfl (hb hby at_25) ?_
        show Steps p.tables e below (s₁.setTop (mkF m 26 #[.val (.long sa), .second, .val (.long sb), .second, .val (.int fl), .val (.int p4), .val (.int (0 : Int32)), .unset, .unset, .unset, .unset, .unset, .unset] [(.int (0 : Int32))])) _
        refine XS.istore X0.here hx rfl (hb hby at_26) rfl (l' := #[.val (.long sa), .second, .val (.long sb), .second, .val (.int fl), .val (.int p4), .val (.int (0 : Int32)), .val (.int (0 : Int32)), .unset, .unset, .unset, .unset, .unset]) rfl ?_
        show Steps p.tables e below (s₁.setTop (mkF m 28 #[.val (.long sa), .second, .val (.long sb), .second, .val (.int fl), .val (.int p4), .val (.int (0 : Int32)), .val (.int (0 : Int32)), .unset, .unset, .unset, .unset, .unset] [])) _
        exact k)
      obtain ⟨T4, h4, X4, e4, E4, A4, D4, -, st4⟩ := newO X0 hx hZ hown (hw _ (List.mem_of_getElem? (i := 0) rfl)) (hw _ (List.mem_of_getElem? (i := 1) rfl)) (hw _ (List.mem_of_getElem? (i := 2) rfl)) e0 (g := (mkF m 28 #[.val (.long sa), .second, .val (.long sb), .second, .val (.int fl), .val (.int p4), .val (.int (0 : Int32)), .val (.int (0 : Int32)), .unset, .unset, .unset, .unset, .unset] [])) rfl (hb hby at_28) (by decide) (by decide)
      obtain ⟨oa, g4⟩ : ∃ z, z = h0.size := ⟨_, rfl⟩
      rw [← g4] at A4 D4 st4
      have F5 : Fld Z h4 oa "com/example/detectability/detectability/ProteinAbundance" "name" "Ljava/lang/String;" .null := (D4 (Or.inr (hw _ (List.mem_of_getElem? (i := 18) rfl))) (ty := (.object "java/lang/String")) (by decide))
      have F6 : Fld Z h4 oa "com/example/detectability/detectability/ProteinAbundance" "spectra" "J" (.long (0 : Int64)) := (D4 (Or.inr (hw _ (List.mem_of_getElem? (i := 20) rfl))) (ty := .long) (by decide))
      have F7 : Fld Z h4 oa "com/example/detectability/detectability/ProteinAbundance" "abundance" "D" (.double (0 : UInt64)) := (D4 (Or.inr (hw _ (List.mem_of_getElem? (i := 22) rfl))) (ty := .double) (by decide))
      have c8 : ∀ t, Steps p.tables e below (T4.setTop (mkF m 31 #[.val (.long sa), .second, .val (.long sb), .second, .val (.int fl), .val (.int p4), .val (.int (0 : Int32)), .val (.int (0 : Int32)), .unset, .unset, .unset, .unset, .unset] [(.ref oa)])) t → Steps p.tables e below (s₁.setTop (entryFrame m #[(.long sa), (.long sb), (.int fl), (.int p4)] maxLocals)) t := fun t k => c3 t (st4 _ k)
      have c9 : ∀ t, Steps p.tables e below (T4.setTop (mkF m 32 #[.val (.long sa), .second, .val (.long sb), .second, .val (.int fl), .val (.int p4), .val (.int (0 : Int32)), .val (.int (0 : Int32)), .unset, .unset, .unset, .unset, .unset] [(.ref oa), (.ref oa)])) t → Steps p.tables e below (s₁.setTop (entryFrame m #[(.long sa), (.long sb), (.int fl), (.int p4)] maxLocals)) t := fun t k => c8 t (by
        show Steps p.tables e below (T4.setTop (mkF m 31 #[.val (.long sa), .second, .val (.long sb), .second, .val (.int fl), .val (.int p4), .val (.int (0 : Int32)), .val (.int (0 : Int32)), .unset, .unset, .unset, .unset, .unset] [(.ref oa)])) _
        refine XS.dup X4.here hx rfl (hb hby at_31) rfl rfl ?_
        show Steps p.tables e below (T4.setTop (mkF m 32 #[.val (.long sa), .second, .val (.long sb), .second, .val (.int fl), .val (.int p4), .val (.int (0 : Int32)), .val (.int (0 : Int32)), .unset, .unset, .unset, .unset, .unset] [(.ref oa), (.ref oa)])) _
        exact k)
      obtain ⟨s1, T10, h10, q10, X10, e10, E10, S10, kk10, Zz10, Ow10, st10⟩ := ldcS (s := s) (vm0 := s.vm) X4 hx hZ hown (hw _ (List.mem_of_getElem? (i := 3) rfl)) (fun d hd => hw d (strW d hd)) e4 ((State.WarmedH.refl s).since 0) (Nat.zero_le _) (g := (mkF m 32 #[.val (.long sa), .second, .val (.long sb), .second, .val (.int fl), .val (.int p4), .val (.int (0 : Int32)), .val (.int (0 : Int32)), .unset, .unset, .unset, .unset, .unset] [(.ref oa), (.ref oa)])) rfl (hb hby at_32) (n := 4) (by decide) (by decide) (by decide) (by decide)
      have hZ := Zz10
      have hown := Ow10
      have F11 : Exa Z h10 oa "com/example/detectability/detectability/ProteinAbundance" := (A4.ext E10)
      have F12 : Fld Z h10 oa "com/example/detectability/detectability/ProteinAbundance" "name" "Ljava/lang/String;" .null := (F5.ext E10)
      have F13 : Fld Z h10 oa "com/example/detectability/detectability/ProteinAbundance" "spectra" "J" (.long (0 : Int64)) := (F6.ext E10)
      have F14 : Fld Z h10 oa "com/example/detectability/detectability/ProteinAbundance" "abundance" "D" (.double (0 : UInt64)) := (F7.ext E10)
      have c15 : ∀ t, Steps p.tables e below (T10.setTop (mkF m 34 #[.val (.long sa), .second, .val (.long sb), .second, .val (.int fl), .val (.int p4), .val (.int (0 : Int32)), .val (.int (0 : Int32)), .unset, .unset, .unset, .unset, .unset] [(.ref s1), (.ref oa), (.ref oa)])) t → Steps p.tables e below (s₁.setTop (entryFrame m #[(.long sa), (.long sb), (.int fl), (.int p4)] maxLocals)) t := fun t k => c9 t (st10 _ k)
      obtain ⟨da, hda⟩ : ∃ v : UInt64, FP.i2d (p4 &&& (255 : Int32)) = v := ⟨_, rfl⟩
      have c16 : ∀ t, Steps p.tables e below (T10.setTop (mkF m 42 #[.val (.long sa), .second, .val (.long sb), .second, .val (.int fl), .val (.int p4), .val (.int (0 : Int32)), .val (.int (0 : Int32)), .unset, .unset, .unset, .unset, .unset] [(.double da), (.long sa), (.ref s1), (.ref oa), (.ref oa)])) t → Steps p.tables e below (s₁.setTop (entryFrame m #[(.long sa), (.long sb), (.int fl), (.int p4)] maxLocals)) t := fun t k => c15 t (by
        show Steps p.tables e below (T10.setTop (mkF m 34 #[.val (.long sa), .second, .val (.long sb), .second, .val (.int fl), .val (.int p4), .val (.int (0 : Int32)), .val (.int (0 : Int32)), .unset, .unset, .unset, .unset, .unset] [(.ref s1), (.ref oa), (.ref oa)])) _
        refine XT.lloadN X10.here hx rfl (hb hby at_34) rfl ?_
        show Steps p.tables e below (T10.setTop (mkF m 35 #[.val (.long sa), .second, .val (.long sb), .second, .val (.int fl), .val (.int p4), .val (.int (0 : Int32)), .val (.int (0 : Int32)), .unset, .unset, .unset, .unset, .unset] [(.long sa), (.ref s1), (.ref oa), (.ref oa)])) _
        refine XS.iload X10.here hx rfl (hb hby at_35) rfl ?_
        show Steps p.tables e below (T10.setTop (mkF m 37 #[.val (.long sa), .second, .val (.long sb), .second, .val (.int fl), .val (.int p4), .val (.int (0 : Int32)), .val (.int (0 : Int32)), .unset, .unset, .unset, .unset, .unset] [(.int p4), (.long sa), (.ref s1), (.ref oa), (.ref oa)])) _
        refine XS.sipush X10.here hx rfl (hb hby at_37) ?_
        show Steps p.tables e below (T10.setTop (mkF m 40 #[.val (.long sa), .second, .val (.long sb), .second, .val (.int fl), .val (.int p4), .val (.int (0 : Int32)), .val (.int (0 : Int32)), .unset, .unset, .unset, .unset, .unset] [(.int (255 : Int32)), (.int p4), (.long sa), (.ref s1), (.ref oa), (.ref oa)])) _
        refine XS.iand X10.here hx rfl (hb hby at_40) rfl ?_
        show Steps p.tables e below (T10.setTop (mkF m 41 #[.val (.long sa), .second, .val (.long sb), .second, .val (.int fl), .val (.int p4), .val (.int (0 : Int32)), .val (.int (0 : Int32)), .unset, .unset, .unset, .unset, .unset] [(.int (p4 &&& (255 : Int32))), (.long sa), (.ref s1), (.ref oa), (.ref oa)])) _
        refine XS.i2dS X10.here hx rfl (hb hby at_41) rfl hda ?_
        show Steps p.tables e below (T10.setTop (mkF m 42 #[.val (.long sa), .second, .val (.long sb), .second, .val (.int fl), .val (.int p4), .val (.int (0 : Int32)), .val (.int (0 : Int32)), .unset, .unset, .unset, .unset, .unset] [(.double da), (.long sa), (.ref s1), (.ref oa), (.ref oa)])) _
        exact k)
      obtain ⟨_, _, ⟨T17, L17, k17', n17⟩, -, X17, ⟨Lc17, hQ17, l17, y17, z17⟩, st17⟩ := X10.specialBack hx (y := (⟨"com/example/detectability/detectability/ProteinAbundance", "<init>", "(Ljava/lang/String;JD)V"⟩ : MethodName)) rfl hown (mvT hZ (hw _ (List.mem_of_getElem? (i := 11) rfl))) (mvT hZ (hw _ (List.mem_of_getElem? (i := 12) rfl))) (mvT hZ (hw _ (List.mem_of_getElem? (i := 13) rfl))) (by decide) (backOf (W := 1) (rm_pi l Z a0 hw [] oa s1 sa da h10 n0 (Nat.le_trans (Nat.le_trans Z0 E4.1) E10.1) F11 F12 F13 F14 (Nat.le_trans Z0 (Nat.le_of_eq g4.symm))) hZ (hw _ (List.mem_of_getElem? (i := 13) rfl)) (hw _ (List.mem_of_getElem? (i := 2) rfl)) (by decide) (by decide)) (g := (mkF m 42 #[.val (.long sa), .second, .val (.long sb), .second, .val (.int fl), .val (.int p4), .val (.int (0 : Int32)), .val (.int (0 : Int32)), .unset, .unset, .unset, .unset, .unset] [(.double da), (.long sa), (.ref s1), (.ref oa), (.ref oa)])) rfl (by rw [hml]; rfl) (Steps.refl _) (a := oa) (argsL := [(.ref s1), (.long sa), (.double da)]) (rest := [(.ref oa)]) (lenOf pd__Ljava_lang_String_JD_V rfl) rfl (by show 2 * 0 + _ ≤ _; exact Nat.le_of_eq rfl) (hb hby at_42) (fun _ _ => ⟨rfl, e10, (by decide : 3 + 0 ≤ _), (by decide : 11 + 0 ≤ _)⟩)
      dsimp only [Pt.U, Pt.locs, Pt.cells, Pt.slots] at X17 l17 y17 z17 st17 hQ17
      subst l17 y17 z17
      obtain ⟨rfl, N17, K17, G17_0, G17_1, G17_2, G17_3⟩ := hQ17
      have M17 := Fr.app N0 N17
      have F18 : Exa Z T17.heap oa "com/example/detectability/detectability/ProteinAbundance" := (F11.keep K17)
      have c19 : ∀ t, Steps p.tables e below (T17.setTop (mkF m 45 #[.val (.long sa), .second, .val (.long sb), .second, .val (.int fl), .val (.int p4), .val (.int (0 : Int32)), .val (.int (0 : Int32)), .unset, .unset, .unset, .unset, .unset] [(.ref oa)])) t → Steps p.tables e below (s₁.setTop (entryFrame m #[(.long sa), (.long sb), (.int fl), (.int p4)] maxLocals)) t := fun t k => c16 t (st17.trans k)
      have c20 : ∀ t, Steps p.tables e below (T17.setTop (mkF m 47 #[.val (.long sa), .second, .val (.long sb), .second, .val (.int fl), .val (.int p4), .val (.int (0 : Int32)), .val (.int (0 : Int32)), .val (.ref oa), .unset, .unset, .unset, .unset] [])) t → Steps p.tables e below (s₁.setTop (entryFrame m #[(.long sa), (.long sb), (.int fl), (.int p4)] maxLocals)) t := fun t k => c19 t (by
        show Steps p.tables e below (T17.setTop (mkF m 45 #[.val (.long sa), .second, .val (.long sb), .second, .val (.int fl), .val (.int p4), .val (.int (0 : Int32)), .val (.int (0 : Int32)), .unset, .unset, .unset, .unset, .unset] [(.ref oa)])) _
        refine XS.astore X17.here hx rfl (hb hby at_45) rfl rfl (l' := #[.val (.long sa), .second, .val (.long sb), .second, .val (.int fl), .val (.int p4), .val (.int (0 : Int32)), .val (.int (0 : Int32)), .val (.ref oa), .unset, .unset, .unset, .unset]) rfl ?_
        show Steps p.tables e below (T17.setTop (mkF m 47 #[.val (.long sa), .second, .val (.long sb), .second, .val (.int fl), .val (.int p4), .val (.int (0 : Int32)), .val (.int (0 : Int32)), .val (.ref oa), .unset, .unset, .unset, .unset] [])) _
        exact k)
      obtain ⟨T21, h21, X21, e21, E21, A21, D21, -, st21⟩ := newO X17 hx hZ hown (hw _ (List.mem_of_getElem? (i := 0) rfl)) (hw _ (List.mem_of_getElem? (i := 1) rfl)) (hw _ (List.mem_of_getElem? (i := 2) rfl)) rfl (g := (mkF m 47 #[.val (.long sa), .second, .val (.long sb), .second, .val (.int fl), .val (.int p4), .val (.int (0 : Int32)), .val (.int (0 : Int32)), .val (.ref oa), .unset, .unset, .unset, .unset] [])) rfl (hb hby at_47) (by decide) (by decide)
      obtain ⟨ob, g21⟩ : ∃ z, z = T17.heap.size := ⟨_, rfl⟩
      rw [← g21] at A21 D21 st21
      have F22 : Exa Z h21 oa "com/example/detectability/detectability/ProteinAbundance" := (G17_0.ext E21)
      have F23 : Fld Z h21 oa "com/example/detectability/detectability/ProteinAbundance" "name" "Ljava/lang/String;" (.ref s1) := (G17_1.ext E21)
      have F24 : Fld Z h21 oa "com/example/detectability/detectability/ProteinAbundance" "spectra" "J" (.long sa) := (G17_2.ext E21)
      have F25 : Fld Z h21 oa "com/example/detectability/detectability/ProteinAbundance" "abundance" "D" (.double da) := (G17_3.ext E21)
      have F26 : Fld Z h21 ob "com/example/detectability/detectability/ProteinAbundance" "name" "Ljava/lang/String;" .null := (D21 (Or.inr (hw _ (List.mem_of_getElem? (i := 18) rfl))) (ty := (.object "java/lang/String")) (by decide))
      have F27 : Fld Z h21 ob "com/example/detectability/detectability/ProteinAbundance" "spectra" "J" (.long (0 : Int64)) := (D21 (Or.inr (hw _ (List.mem_of_getElem? (i := 20) rfl))) (ty := .long) (by decide))
      have F28 : Fld Z h21 ob "com/example/detectability/detectability/ProteinAbundance" "abundance" "D" (.double (0 : UInt64)) := (D21 (Or.inr (hw _ (List.mem_of_getElem? (i := 22) rfl))) (ty := .double) (by decide))
      have c29 : ∀ t, Steps p.tables e below (T21.setTop (mkF m 50 #[.val (.long sa), .second, .val (.long sb), .second, .val (.int fl), .val (.int p4), .val (.int (0 : Int32)), .val (.int (0 : Int32)), .val (.ref oa), .unset, .unset, .unset, .unset] [(.ref ob)])) t → Steps p.tables e below (s₁.setTop (entryFrame m #[(.long sa), (.long sb), (.int fl), (.int p4)] maxLocals)) t := fun t k => c20 t (st21 _ k)
      have c30 : ∀ t, Steps p.tables e below (T21.setTop (mkF m 51 #[.val (.long sa), .second, .val (.long sb), .second, .val (.int fl), .val (.int p4), .val (.int (0 : Int32)), .val (.int (0 : Int32)), .val (.ref oa), .unset, .unset, .unset, .unset] [(.ref ob), (.ref ob)])) t → Steps p.tables e below (s₁.setTop (entryFrame m #[(.long sa), (.long sb), (.int fl), (.int p4)] maxLocals)) t := fun t k => c29 t (by
        show Steps p.tables e below (T21.setTop (mkF m 50 #[.val (.long sa), .second, .val (.long sb), .second, .val (.int fl), .val (.int p4), .val (.int (0 : Int32)), .val (.int (0 : Int32)), .val (.ref oa), .unset, .unset, .unset, .unset] [(.ref ob)])) _
        refine XS.dup X21.here hx rfl (hb hby at_50) rfl rfl ?_
        show Steps p.tables e below (T21.setTop (mkF m 51 #[.val (.long sa), .second, .val (.long sb), .second, .val (.int fl), .val (.int p4), .val (.int (0 : Int32)), .val (.int (0 : Int32)), .val (.ref oa), .unset, .unset, .unset, .unset] [(.ref ob), (.ref ob)])) _
        exact k)
      obtain ⟨s2, T31, h31, q31, X31, e31, E31, S31, kk31, Zz31, Ow31, st31⟩ := ldcS (s := s) (vm0 := T10.vm) X21 hx hZ hown (hw _ (List.mem_of_getElem? (i := 23) rfl)) (fun d hd => hw d (strW d hd)) e21 S10 (Nat.le_trans (Nat.le_trans kk10 K17.1) E21.1) (g := (mkF m 51 #[.val (.long sa), .second, .val (.long sb), .second, .val (.int fl), .val (.int p4), .val (.int (0 : Int32)), .val (.int (0 : Int32)), .val (.ref oa), .unset, .unset, .unset, .unset] [(.ref ob), (.ref ob)])) rfl (hb hby at_51) (n := 4) (by decide) (by decide) (by decide) (by decide)
      have hZ := Zz31
      have hown := Ow31
      have F32 : Exa Z h31 oa "com/example/detectability/detectability/ProteinAbundance" := (F22.ext E31)
      have F33 : Fld Z h31 oa "com/example/detectability/detectability/ProteinAbundance" "name" "Ljava/lang/String;" (.ref s1) := (F23.ext E31)
      have F34 : Fld Z h31 oa "com/example/detectability/detectability/ProteinAbundance" "spectra" "J" (.long sa) := (F24.ext E31)
      have F35 : Fld Z h31 oa "com/example/detectability/detectability/ProteinAbundance" "abundance" "D" (.double da) := (F25.ext E31)
      have F36 : Exa Z h31 ob "com/example/detectability/detectability/ProteinAbundance" := (A21.ext E31)
      have F37 : Fld Z h31 ob "com/example/detectability/detectability/ProteinAbundance" "name" "Ljava/lang/String;" .null := (F26.ext E31)
      have F38 : Fld Z h31 ob "com/example/detectability/detectability/ProteinAbundance" "spectra" "J" (.long (0 : Int64)) := (F27.ext E31)
      have F39 : Fld Z h31 ob "com/example/detectability/detectability/ProteinAbundance" "abundance" "D" (.double (0 : UInt64)) := (F28.ext E31)
      have c40 : ∀ t, Steps p.tables e below (T31.setTop (mkF m 53 #[.val (.long sa), .second, .val (.long sb), .second, .val (.int fl), .val (.int p4), .val (.int (0 : Int32)), .val (.int (0 : Int32)), .val (.ref oa), .unset, .unset, .unset, .unset] [(.ref s2), (.ref ob), (.ref ob)])) t → Steps p.tables e below (s₁.setTop (entryFrame m #[(.long sa), (.long sb), (.int fl), (.int p4)] maxLocals)) t := fun t k => c30 t (st31 _ k)
      obtain ⟨db, hdb⟩ : ∃ v : UInt64, FP.i2d ((p4 >>> ((8 : Int32) &&& 31)) &&& (255 : Int32)) = v := ⟨_, rfl⟩
      have c41 : ∀ t, Steps p.tables e below (T31.setTop (mkF m 64 #[.val (.long sa), .second, .val (.long sb), .second, .val (.int fl), .val (.int p4), .val (.int (0 : Int32)), .val (.int (0 : Int32)), .val (.ref oa), .unset, .unset, .unset, .unset] [(.double db), (.long sb), (.ref s2), (.ref ob), (.ref ob)])) t → Steps p.tables e below (s₁.setTop (entryFrame m #[(.long sa), (.long sb), (.int fl), (.int p4)] maxLocals)) t := fun t k => c40 t (by
        show Steps p.tables e below (T31.setTop (mkF m 53 #[.val (.long sa), .second, .val (.long sb), .second, .val (.int fl), .val (.int p4), .val (.int (0 : Int32)), .val (.int (0 : Int32)), .val (.ref oa), .unset, .unset, .unset, .unset] [(.ref s2), (.ref ob), (.ref ob)])) _
        refine XT.lloadN X31.here hx rfl (hb hby at_53) rfl ?_
        show Steps p.tables e below (T31.setTop (mkF m 54 #[.val (.long sa), .second, .val (.long sb), .second, .val (.int fl), .val (.int p4), .val (.int (0 : Int32)), .val (.int (0 : Int32)), .val (.ref oa), .unset, .unset, .unset, .unset] [(.long sb), (.ref s2), (.ref ob), (.ref ob)])) _
        refine XS.iload X31.here hx rfl (hb hby at_54) rfl ?_
        show Steps p.tables e below (T31.setTop (mkF m 56 #[.val (.long sa), .second, .val (.long sb), .second, .val (.int fl), .val (.int p4), .val (.int (0 : Int32)), .val (.int (0 : Int32)), .val (.ref oa), .unset, .unset, .unset, .unset] [(.int p4), (.long sb), (.ref s2), (.ref ob), (.ref ob)])) _
        refine XS.bipush X31.here hx rfl (hb hby at_56) ?_
        show Steps p.tables e below (T31.setTop (mkF m 58 #[.val (.long sa), .second, .val (.long sb), .second, .val (.int fl), .val (.int p4), .val (.int (0 : Int32)), .val (.int (0 : Int32)), .val (.ref oa), .unset, .unset, .unset, .unset] [(.int (8 : Int32)), (.int p4), (.long sb), (.ref s2), (.ref ob), (.ref ob)])) _
        refine XT.ishr X31.here hx rfl (hb hby at_58) rfl ?_
        show Steps p.tables e below (T31.setTop (mkF m 59 #[.val (.long sa), .second, .val (.long sb), .second, .val (.int fl), .val (.int p4), .val (.int (0 : Int32)), .val (.int (0 : Int32)), .val (.ref oa), .unset, .unset, .unset, .unset] [(.int (p4 >>> ((8 : Int32) &&& 31))), (.long sb), (.ref s2), (.ref ob), (.ref ob)])) _
        refine XS.sipush X31.here hx rfl (hb hby at_59) ?_
        show Steps p.tables e below (T31.setTop (mkF m 62 #[.val (.long sa), .second, .val (.long sb), .second, .val (.int fl), .val (.int p4), .val (.int (0 : Int32)), .val (.int (0 : Int32)), .val (.ref oa), .unset, .unset, .unset, .unset] [(.int (255 : Int32)), (.int (p4 >>> ((8 : Int32) &&& 31))), (.long sb), (.ref s2), (.ref ob), (.ref ob)])) _
        refine XS.iand X31.here hx rfl (hb hby at_62) rfl ?_
        show Steps p.tables e below (T31.setTop (mkF m 63 #[.val (.long sa), .second, .val (.long sb), .second, .val (.int fl), .val (.int p4), .val (.int (0 : Int32)), .val (.int (0 : Int32)), .val (.ref oa), .unset, .unset, .unset, .unset] [(.int ((p4 >>> ((8 : Int32) &&& 31)) &&& (255 : Int32))), (.long sb), (.ref s2), (.ref ob), (.ref ob)])) _
        refine XS.i2dS X31.here hx rfl (hb hby at_63) rfl hdb ?_
        show Steps p.tables e below (T31.setTop (mkF m 64 #[.val (.long sa), .second, .val (.long sb), .second, .val (.int fl), .val (.int p4), .val (.int (0 : Int32)), .val (.int (0 : Int32)), .val (.ref oa), .unset, .unset, .unset, .unset] [(.double db), (.long sb), (.ref s2), (.ref ob), (.ref ob)])) _
        exact k)
      obtain ⟨_, _, ⟨T42, L42, k42', n42⟩, -, X42, ⟨Lc42, hQ42, l42, y42, z42⟩, st42⟩ := X31.specialBack hx (y := (⟨"com/example/detectability/detectability/ProteinAbundance", "<init>", "(Ljava/lang/String;JD)V"⟩ : MethodName)) rfl hown (mvT hZ (hw _ (List.mem_of_getElem? (i := 11) rfl))) (mvT hZ (hw _ (List.mem_of_getElem? (i := 12) rfl))) (mvT hZ (hw _ (List.mem_of_getElem? (i := 13) rfl))) (by decide) (backOf (W := 1) (rm_pi l Z a0 hw [] ob s2 sb db h31 n0 (Nat.le_trans (Nat.le_trans (Nat.le_trans (Nat.le_trans (Nat.le_trans Z0 E4.1) E10.1) K17.1) E21.1) E31.1) F36 F37 F38 F39 (Nat.le_trans (Nat.le_trans (Nat.le_trans (Nat.le_trans Z0 E4.1) E10.1) K17.1) (Nat.le_of_eq g21.symm))) hZ (hw _ (List.mem_of_getElem? (i := 13) rfl)) (hw _ (List.mem_of_getElem? (i := 2) rfl)) (by decide) (by decide)) (g := (mkF m 64 #[.val (.long sa), .second, .val (.long sb), .second, .val (.int fl), .val (.int p4), .val (.int (0 : Int32)), .val (.int (0 : Int32)), .val (.ref oa), .unset, .unset, .unset, .unset] [(.double db), (.long sb), (.ref s2), (.ref ob), (.ref ob)])) rfl (by rw [hml]; rfl) (Steps.refl _) (a := ob) (argsL := [(.ref s2), (.long sb), (.double db)]) (rest := [(.ref ob)]) (lenOf pd__Ljava_lang_String_JD_V rfl) rfl (by show 2 * 0 + _ ≤ _; exact Nat.le_of_eq rfl) (hb hby at_64) (fun _ _ => ⟨rfl, e31, (by decide : 6 + 0 ≤ _), (by decide : 22 + 0 ≤ _)⟩)
      dsimp only [Pt.U, Pt.locs, Pt.cells, Pt.slots] at X42 l42 y42 z42 st42 hQ42
      subst l42 y42 z42
      obtain ⟨rfl, N42, K42, G42_0, G42_1, G42_2, G42_3⟩ := hQ42
      have M42 := Fr.app M17 N42
      have F43 : Exa Z T42.heap oa "com/example/detectability/detectability/ProteinAbundance" := (F32.keep K42)
      have F44 : Fld Z T42.heap oa "com/example/detectability/detectability/ProteinAbundance" "name" "Ljava/lang/String;" (.ref s1) := (F33.keep K42 (ninS (Nat.ne_of_lt (Nat.lt_of_lt_of_le G17_0.lt (Nat.le_of_eq g21.symm))) nin0))
      have F45 : Fld Z T42.heap oa "com/example/detectability/detectability/ProteinAbundance" "spectra" "J" (.long sa) := (F34.keep K42 (ninS (Nat.ne_of_lt (Nat.lt_of_lt_of_le G17_0.lt (Nat.le_of_eq g21.symm))) nin0))
      have F46 : Fld Z T42.heap oa "com/example/detectability/detectability/ProteinAbundance" "abundance" "D" (.double da) := (F35.keep K42 (ninS (Nat.ne_of_lt (Nat.lt_of_lt_of_le G17_0.lt (Nat.le_of_eq g21.symm))) nin0))
      have F47 : Exa Z T42.heap ob "com/example/detectability/detectability/ProteinAbundance" := (F36.keep K42)
      have c48 : ∀ t, Steps p.tables e below (T42.setTop (mkF m 67 #[.val (.long sa), .second, .val (.long sb), .second, .val (.int fl), .val (.int p4), .val (.int (0 : Int32)), .val (.int (0 : Int32)), .val (.ref oa), .unset, .unset, .unset, .unset] [(.ref ob)])) t → Steps p.tables e below (s₁.setTop (entryFrame m #[(.long sa), (.long sb), (.int fl), (.int p4)] maxLocals)) t := fun t k => c41 t (st42.trans k)
      have c49 : ∀ t, Steps p.tables e below (T42.setTop (mkF m 69 #[.val (.long sa), .second, .val (.long sb), .second, .val (.int fl), .val (.int p4), .val (.int (0 : Int32)), .val (.int (0 : Int32)), .val (.ref oa), .val (.ref ob), .unset, .unset, .unset] [])) t → Steps p.tables e below (s₁.setTop (entryFrame m #[(.long sa), (.long sb), (.int fl), (.int p4)] maxLocals)) t := fun t k => c48 t (by
        show Steps p.tables e below (T42.setTop (mkF m 67 #[.val (.long sa), .second, .val (.long sb), .second, .val (.int fl), .val (.int p4), .val (.int (0 : Int32)), .val (.int (0 : Int32)), .val (.ref oa), .unset, .unset, .unset, .unset] [(.ref ob)])) _
        refine XS.astore X42.here hx rfl (hb hby at_67) rfl rfl (l' := #[.val (.long sa), .second, .val (.long sb), .second, .val (.int fl), .val (.int p4), .val (.int (0 : Int32)), .val (.int (0 : Int32)), .val (.ref oa), .val (.ref ob), .unset, .unset, .unset]) rfl ?_
        show Steps p.tables e below (T42.setTop (mkF m 69 #[.val (.long sa), .second, .val (.long sb), .second, .val (.int fl), .val (.int p4), .val (.int (0 : Int32)), .val (.int (0 : Int32)), .val (.ref oa), .val (.ref ob), .unset, .unset, .unset] [])) _
        exact k)
      obtain ⟨T50, h50, X50, e50, E50, A50, D50, -, st50⟩ := newO X42 hx hZ hown (hw _ (List.mem_of_getElem? (i := 24) rfl)) (hw _ (List.mem_of_getElem? (i := 25) rfl)) (hw _ (List.mem_of_getElem? (i := 26) rfl)) rfl (g := (mkF m 69 #[.val (.long sa), .second, .val (.long sb), .second, .val (.int fl), .val (.int p4), .val (.int (0 : Int32)), .val (.int (0 : Int32)), .val (.ref oa), .val (.ref ob), .unset, .unset, .unset] [])) rfl (hb hby at_69) (by decide) (by decide)
      obtain ⟨oc, g50⟩ : ∃ z, z = T42.heap.size := ⟨_, rfl⟩
      rw [← g50] at A50 D50 st50
      have F51 : Exa Z h50 oa "com/example/detectability/detectability/ProteinAbundance" := (F43.ext E50)
      have F52 : Fld Z h50 oa "com/example/detectability/detectability/ProteinAbundance" "name" "Ljava/lang/String;" (.ref s1) := (F44.ext E50)
      have F53 : Fld Z h50 oa "com/example/detectability/detectability/ProteinAbundance" "spectra" "J" (.long sa) := (F45.ext E50)
      have F54 : Fld Z h50 oa "com/example/detectability/detectability/ProteinAbundance" "abundance" "D" (.double da) := (F46.ext E50)
      have F55 : Exa Z h50 ob "com/example/detectability/detectability/ProteinAbundance" := (G42_0.ext E50)
      have F56 : Fld Z h50 ob "com/example/detectability/detectability/ProteinAbundance" "name" "Ljava/lang/String;" (.ref s2) := (G42_1.ext E50)
      have F57 : Fld Z h50 ob "com/example/detectability/detectability/ProteinAbundance" "spectra" "J" (.long sb) := (G42_2.ext E50)
      have F58 : Fld Z h50 ob "com/example/detectability/detectability/ProteinAbundance" "abundance" "D" (.double db) := (G42_3.ext E50)
      have F59 : Fld Z h50 oc "com/example/detectability/detectability/ComparedProtein" "name" "Ljava/lang/String;" .null := (D50 (Or.inr (hw _ (List.mem_of_getElem? (i := 33) rfl))) (ty := (.object "java/lang/String")) (by decide))
      have F60 : Fld Z h50 oc "com/example/detectability/detectability/ComparedProtein" "inA" "Lcom/example/detectability/detectability/ProteinAbundance;" .null := (D50 (Or.inr (hw _ (List.mem_of_getElem? (i := 35) rfl))) (ty := (.object "com/example/detectability/detectability/ProteinAbundance")) (by decide))
      have F61 : Fld Z h50 oc "com/example/detectability/detectability/ComparedProtein" "inB" "Lcom/example/detectability/detectability/ProteinAbundance;" .null := (D50 (Or.inr (hw _ (List.mem_of_getElem? (i := 37) rfl))) (ty := (.object "com/example/detectability/detectability/ProteinAbundance")) (by decide))
      have F62 : Fld Z h50 oc "com/example/detectability/detectability/ComparedProtein" "z" "D" (.double (0 : UInt64)) := (D50 (Or.inr (hw _ (List.mem_of_getElem? (i := 39) rfl))) (ty := .double) (by decide))
      have F63 : Fld Z h50 oc "com/example/detectability/detectability/ComparedProtein" "p" "D" (.double (0 : UInt64)) := (D50 (Or.inr (hw _ (List.mem_of_getElem? (i := 41) rfl))) (ty := .double) (by decide))
      have c64 : ∀ t, Steps p.tables e below (T50.setTop (mkF m 72 #[.val (.long sa), .second, .val (.long sb), .second, .val (.int fl), .val (.int p4), .val (.int (0 : Int32)), .val (.int (0 : Int32)), .val (.ref oa), .val (.ref ob), .unset, .unset, .unset] [(.ref oc)])) t → Steps p.tables e below (s₁.setTop (entryFrame m #[(.long sa), (.long sb), (.int fl), (.int p4)] maxLocals)) t := fun t k => c49 t (st50 _ k)
      have c65 : ∀ t, Steps p.tables e below (T50.setTop (mkF m 73 #[.val (.long sa), .second, .val (.long sb), .second, .val (.int fl), .val (.int p4), .val (.int (0 : Int32)), .val (.int (0 : Int32)), .val (.ref oa), .val (.ref ob), .unset, .unset, .unset] [(.ref oc), (.ref oc)])) t → Steps p.tables e below (s₁.setTop (entryFrame m #[(.long sa), (.long sb), (.int fl), (.int p4)] maxLocals)) t := fun t k => c64 t (by
        show Steps p.tables e below (T50.setTop (mkF m 72 #[.val (.long sa), .second, .val (.long sb), .second, .val (.int fl), .val (.int p4), .val (.int (0 : Int32)), .val (.int (0 : Int32)), .val (.ref oa), .val (.ref ob), .unset, .unset, .unset] [(.ref oc)])) _
        refine XS.dup X50.here hx rfl (hb hby at_72) rfl rfl ?_
        show Steps p.tables e below (T50.setTop (mkF m 73 #[.val (.long sa), .second, .val (.long sb), .second, .val (.int fl), .val (.int p4), .val (.int (0 : Int32)), .val (.int (0 : Int32)), .val (.ref oa), .val (.ref ob), .unset, .unset, .unset] [(.ref oc), (.ref oc)])) _
        exact k)
      obtain ⟨s3, T66, h66, q66, X66, e66, E66, S66, kk66, Zz66, Ow66, st66⟩ := ldcS (s := s) (vm0 := T31.vm) X50 hx hZ hown (hw _ (List.mem_of_getElem? (i := 27) rfl)) (fun d hd => hw d (strW d hd)) e50 S31 (Nat.le_trans (Nat.le_trans kk31 K42.1) E50.1) (g := (mkF m 73 #[.val (.long sa), .second, .val (.long sb), .second, .val (.int fl), .val (.int p4), .val (.int (0 : Int32)), .val (.int (0 : Int32)), .val (.ref oa), .val (.ref ob), .unset, .unset, .unset] [(.ref oc), (.ref oc)])) rfl (hb hby at_73) (n := 4) (by decide) (by decide) (by decide) (by decide)
      have hZ := Zz66
      have hown := Ow66
      have F67 : Exa Z h66 oa "com/example/detectability/detectability/ProteinAbundance" := (F51.ext E66)
      have F68 : Fld Z h66 oa "com/example/detectability/detectability/ProteinAbundance" "name" "Ljava/lang/String;" (.ref s1) := (F52.ext E66)
      have F69 : Fld Z h66 oa "com/example/detectability/detectability/ProteinAbundance" "spectra" "J" (.long sa) := (F53.ext E66)
      have F70 : Fld Z h66 oa "com/example/detectability/detectability/ProteinAbundance" "abundance" "D" (.double da) := (F54.ext E66)
      have F71 : Exa Z h66 ob "com/example/detectability/detectability/ProteinAbundance" := (F55.ext E66)
      have F72 : Fld Z h66 ob "com/example/detectability/detectability/ProteinAbundance" "name" "Ljava/lang/String;" (.ref s2) := (F56.ext E66)
      have F73 : Fld Z h66 ob "com/example/detectability/detectability/ProteinAbundance" "spectra" "J" (.long sb) := (F57.ext E66)
      have F74 : Fld Z h66 ob "com/example/detectability/detectability/ProteinAbundance" "abundance" "D" (.double db) := (F58.ext E66)
      have F75 : Exa Z h66 oc "com/example/detectability/detectability/ComparedProtein" := (A50.ext E66)
      have F76 : Fld Z h66 oc "com/example/detectability/detectability/ComparedProtein" "name" "Ljava/lang/String;" .null := (F59.ext E66)
      have F77 : Fld Z h66 oc "com/example/detectability/detectability/ComparedProtein" "inA" "Lcom/example/detectability/detectability/ProteinAbundance;" .null := (F60.ext E66)
      have F78 : Fld Z h66 oc "com/example/detectability/detectability/ComparedProtein" "inB" "Lcom/example/detectability/detectability/ProteinAbundance;" .null := (F61.ext E66)
      have F79 : Fld Z h66 oc "com/example/detectability/detectability/ComparedProtein" "z" "D" (.double (0 : UInt64)) := (F62.ext E66)
      have F80 : Fld Z h66 oc "com/example/detectability/detectability/ComparedProtein" "p" "D" (.double (0 : UInt64)) := (F63.ext E66)
      have c81 : ∀ t, Steps p.tables e below (T66.setTop (mkF m 75 #[.val (.long sa), .second, .val (.long sb), .second, .val (.int fl), .val (.int p4), .val (.int (0 : Int32)), .val (.int (0 : Int32)), .val (.ref oa), .val (.ref ob), .unset, .unset, .unset] [(.ref s3), (.ref oc), (.ref oc)])) t → Steps p.tables e below (s₁.setTop (entryFrame m #[(.long sa), (.long sb), (.int fl), (.int p4)] maxLocals)) t := fun t k => c65 t (st66 _ k)
      have c82 : ∀ t, Steps p.tables e below (T66.setTop (mkF m 99 #[.val (.long sa), .second, .val (.long sb), .second, .val (.int fl), .val (.int p4), .val (.int (0 : Int32)), .val (.int (0 : Int32)), .val (.ref oa), .val (.ref ob), .unset, .unset, .unset] [(.double FP.dconst0), (.double FP.dconst0), .null, .null, (.ref s3), (.ref oc), (.ref oc)])) t → Steps p.tables e below (s₁.setTop (entryFrame m #[(.long sa), (.long sb), (.int fl), (.int p4)] maxLocals)) t := fun t k => c81 t (by
        show Steps p.tables e below (T66.setTop (mkF m 75 #[.val (.long sa), .second, .val (.long sb), .second, .val (.int fl), .val (.int p4), .val (.int (0 : Int32)), .val (.int (0 : Int32)), .val (.ref oa), .val (.ref ob), .unset, .unset, .unset] [(.ref s3), (.ref oc), (.ref oc)])) _
        refine XS.iload X66.here hx rfl (hb hby at_75) rfl ?_
        show Steps p.tables e below (T66.setTop (mkF m 77 #[.val (.long sa), .second, .val (.long sb), .second, .val (.int fl), .val (.int p4), .val (.int (0 : Int32)), .val (.int (0 : Int32)), .val (.ref oa), .val (.ref ob), .unset, .unset, .unset] [(.int (0 : Int32)), (.ref s3), (.ref oc), (.ref oc)])) _
        refine XS.ifYes X66.here hx rfl (pc0 := 77) (pc' := 85) rfl (hb hby at_77) rfl (XT.i0_eq_t (by decide)) (by decide) (by decide) ?_
        show Steps p.tables e below (T66.setTop (mkF m 85 #[.val (.long sa), .second, .val (.long sb), .second, .val (.int fl), .val (.int p4), .val (.int (0 : Int32)), .val (.int (0 : Int32)), .val (.ref oa), .val (.ref ob), .unset, .unset, .unset] [(.ref s3), (.ref oc), (.ref oc)])) _
        refine XS.aconstNull X66.here hx rfl (hb hby at_85) ?_
        show Steps p.tables e below (T66.setTop (mkF m 86 #[.val (.long sa), .second, .val (.long sb), .second, .val (.int fl), .val (.int p4), .val (.int (0 : Int32)), .val (.int (0 : Int32)), .val (.ref oa), .val (.ref ob), .unset, .unset, .unset] [.null, (.ref s3), (.ref oc), (.ref oc)])) _
        refine XS.iload X66.here hx rfl (hb hby at_86) rfl ?_
        show Steps p.tables e below (T66.setTop (mkF m 88 #[.val (.long sa), .second, .val (.long sb), .second, .val (.int fl), .val (.int p4), .val (.int (0 : Int32)), .val (.int (0 : Int32)), .val (.ref oa), .val (.ref ob), .unset, .unset, .unset] [(.int (0 : Int32)), .null, (.ref s3), (.ref oc), (.ref oc)])) _
        refine XS.ifYes X66.here hx rfl (pc0 := 88) (pc' := 96) rfl (hb hby at_88) rfl (XT.i0_eq_t (by decide)) (by decide) (by decide) ?_
        show Steps p.tables e below (T66.setTop (mkF m 96 #[.val (.long sa), .second, .val (.long sb), .second, .val (.int fl), .val (.int p4), .val (.int (0 : Int32)), .val (.int (0 : Int32)), .val (.ref oa), .val (.ref ob), .unset, .unset, .unset] [.null, (.ref s3), (.ref oc), (.ref oc)])) _
        refine XS.aconstNull X66.here hx rfl (hb hby at_96) ?_
        show Steps p.tables e below (T66.setTop (mkF m 97 #[.val (.long sa), .second, .val (.long sb), .second, .val (.int fl), .val (.int p4), .val (.int (0 : Int32)), .val (.int (0 : Int32)), .val (.ref oa), .val (.ref ob), .unset, .unset, .unset] [.null, .null, (.ref s3), (.ref oc), (.ref oc)])) _
        refine XS.dconst0 X66.here hx rfl (hb hby at_97) rfl ?_
        show Steps p.tables e below (T66.setTop (mkF m 98 #[.val (.long sa), .second, .val (.long sb), .second, .val (.int fl), .val (.int p4), .val (.int (0 : Int32)), .val (.int (0 : Int32)), .val (.ref oa), .val (.ref ob), .unset, .unset, .unset] [(.double FP.dconst0), .null, .null, (.ref s3), (.ref oc), (.ref oc)])) _
        refine XS.dconst0 X66.here hx rfl (hb hby at_98) rfl ?_
        show Steps p.tables e below (T66.setTop (mkF m 99 #[.val (.long sa), .second, .val (.long sb), .second, .val (.int fl), .val (.int p4), .val (.int (0 : Int32)), .val (.int (0 : Int32)), .val (.ref oa), .val (.ref ob), .unset, .unset, .unset] [(.double FP.dconst0), (.double FP.dconst0), .null, .null, (.ref s3), (.ref oc), (.ref oc)])) _
        exact k)
      obtain ⟨_, _, ⟨T83, L83, k83', n83⟩, -, X83, ⟨Lc83, hQ83, l83, y83, z83⟩, st83⟩ := X66.specialBack hx (y := (⟨"com/example/detectability/detectability/ComparedProtein", "<init>", "(Ljava/lang/String;Lcom/example/detectability/detectability/ProteinAbundance;Lcom/example/detectability/detectability/ProteinAbundance;DD)V"⟩ : MethodName)) rfl hown (mvT hZ (hw _ (List.mem_of_getElem? (i := 28) rfl))) (mvT hZ (hw _ (List.mem_of_getElem? (i := 29) rfl))) (mvT hZ (hw _ (List.mem_of_getElem? (i := 30) rfl))) (by decide) (backOf (W := 1) (rm_ci00 l Z a0 hw [] oc s3 FP.dconst0 FP.dconst0 h66 n0 (Nat.le_trans (Nat.le_trans (Nat.le_trans (Nat.le_trans (Nat.le_trans (Nat.le_trans (Nat.le_trans (Nat.le_trans Z0 E4.1) E10.1) K17.1) E21.1) E31.1) K42.1) E50.1) E66.1) F75 F76 F77 F78 F79 F80 (Nat.le_trans (Nat.le_trans (Nat.le_trans (Nat.le_trans (Nat.le_trans (Nat.le_trans (Nat.le_trans Z0 E4.1) E10.1) K17.1) E21.1) E31.1) K42.1) (Nat.le_of_eq g50.symm))) hZ (hw _ (List.mem_of_getElem? (i := 30) rfl)) (hw _ (List.mem_of_getElem? (i := 26) rfl)) (by decide) (by decide)) (g := (mkF m 99 #[.val (.long sa), .second, .val (.long sb), .second, .val (.int fl), .val (.int p4), .val (.int (0 : Int32)), .val (.int (0 : Int32)), .val (.ref oa), .val (.ref ob), .unset, .unset, .unset] [(.double FP.dconst0), (.double FP.dconst0), .null, .null, (.ref s3), (.ref oc), (.ref oc)])) rfl (by rw [hml]; rfl) (Steps.refl _) (a := oc) (argsL := [(.ref s3), .null, .null, (.double FP.dconst0), (.double FP.dconst0)]) (rest := [(.ref oc)]) (lenOf pd__Ljava_lang_String_Lcom_example_detectability_detectability_ProteinAbundance_Lcom_example_detectability_detectability_ProteinAbundance_DD_V rfl) rfl (by show 2 * 0 + _ ≤ _; exact Nat.le_of_eq rfl) (hb hby at_99) (fun _ _ => ⟨rfl, e66, (by decide : 9 + 0 ≤ _), (by decide : 35 + 0 ≤ _)⟩)
      dsimp only [Pt.U, Pt.locs, Pt.cells, Pt.slots] at X83 l83 y83 z83 st83 hQ83
      subst l83 y83 z83
      obtain ⟨rfl, N83, K83, G83_0, G83_1, G83_2, G83_3, G83_4, G83_5⟩ := hQ83
      have M83 := Fr.app M42 N83
      have F84 : Exa Z T83.heap oa "com/example/detectability/detectability/ProteinAbundance" := (F67.keep K83)
      have F85 : Fld Z T83.heap oa "com/example/detectability/detectability/ProteinAbundance" "name" "Ljava/lang/String;" (.ref s1) := (F68.keep K83 (ninS (Nat.ne_of_lt (Nat.lt_of_lt_of_le F43.lt (Nat.le_of_eq g50.symm))) nin0))
      have F86 : Fld Z T83.heap oa "com/example/detectability/detectability/ProteinAbundance" "spectra" "J" (.long sa) := (F69.keep K83 (ninS (Nat.ne_of_lt (Nat.lt_of_lt_of_le F43.lt (Nat.le_of_eq g50.symm))) nin0))
      have F87 : Fld Z T83.heap oa "com/example/detectability/detectability/ProteinAbundance" "abundance" "D" (.double da) := (F70.keep K83 (ninS (Nat.ne_of_lt (Nat.lt_of_lt_of_le F43.lt (Nat.le_of_eq g50.symm))) nin0))
      have F88 : Exa Z T83.heap ob "com/example/detectability/detectability/ProteinAbundance" := (F71.keep K83)
      have F89 : Fld Z T83.heap ob "com/example/detectability/detectability/ProteinAbundance" "name" "Ljava/lang/String;" (.ref s2) := (F72.keep K83 (ninS (Nat.ne_of_lt (Nat.lt_of_lt_of_le G42_0.lt (Nat.le_of_eq g50.symm))) nin0))
      have F90 : Fld Z T83.heap ob "com/example/detectability/detectability/ProteinAbundance" "spectra" "J" (.long sb) := (F73.keep K83 (ninS (Nat.ne_of_lt (Nat.lt_of_lt_of_le G42_0.lt (Nat.le_of_eq g50.symm))) nin0))
      have F91 : Fld Z T83.heap ob "com/example/detectability/detectability/ProteinAbundance" "abundance" "D" (.double db) := (F74.keep K83 (ninS (Nat.ne_of_lt (Nat.lt_of_lt_of_le G42_0.lt (Nat.le_of_eq g50.symm))) nin0))
      have F92 : Exa Z T83.heap oc "com/example/detectability/detectability/ComparedProtein" := (F75.keep K83)
      have c93 : ∀ t, Steps p.tables e below (T83.setTop (mkF m 102 #[.val (.long sa), .second, .val (.long sb), .second, .val (.int fl), .val (.int p4), .val (.int (0 : Int32)), .val (.int (0 : Int32)), .val (.ref oa), .val (.ref ob), .unset, .unset, .unset] [(.ref oc)])) t → Steps p.tables e below (s₁.setTop (entryFrame m #[(.long sa), (.long sb), (.int fl), (.int p4)] maxLocals)) t := fun t k => c82 t (st83.trans k)
      have c94 : ∀ t, Steps p.tables e below (T83.setTop (mkF m 118 #[.val (.long sa), .second, .val (.long sb), .second, .val (.int fl), .val (.int p4), .val (.int (0 : Int32)), .val (.int (0 : Int32)), .val (.ref oa), .val (.ref ob), .val (.ref oc), .val (.long (0 : Int64)), .second] [(.ref oc)])) t → Steps p.tables e below (s₁.setTop (entryFrame m #[(.long sa), (.long sb), (.int fl), (.int p4)] maxLocals)) t := fun t k => c93 t (by
        show Steps p.tables e below (T83.setTop (mkF m 102 #[.val (.long sa), .second, .val (.long sb), .second, .val (.int fl), .val (.int p4), .val (.int (0 : Int32)), .val (.int (0 : Int32)), .val (.ref oa), .val (.ref ob), .unset, .unset, .unset] [(.ref oc)])) _
        refine XS.astore X83.here hx rfl (hb hby at_102) rfl rfl (l' := #[.val (.long sa), .second, .val (.long sb), .second, .val (.int fl), .val (.int p4), .val (.int (0 : Int32)), .val (.int (0 : Int32)), .val (.ref oa), .val (.ref ob), .val (.ref oc), .unset, .unset]) rfl ?_
        show Steps p.tables e below (T83.setTop (mkF m 104 #[.val (.long sa), .second, .val (.long sb), .second, .val (.int fl), .val (.int p4), .val (.int (0 : Int32)), .val (.int (0 : Int32)), .val (.ref oa), .val (.ref ob), .val (.ref oc), .unset, .unset] [])) _
        refine XS.iload X83.here hx rfl (hb hby at_104) rfl ?_
        show Steps p.tables e below (T83.setTop (mkF m 106 #[.val (.long sa), .second, .val (.long sb), .second, .val (.int fl), .val (.int p4), .val (.int (0 : Int32)), .val (.int (0 : Int32)), .val (.ref oa), .val (.ref ob), .val (.ref oc), .unset, .unset] [(.int (0 : Int32))])) _
        refine XS.ifYes X83.here hx rfl (pc0 := 106) (pc' := 113) rfl (hb hby at_106) rfl (XT.i0_eq_t (by decide)) (by decide) (by decide) ?_
        show Steps p.tables e below (T83.setTop (mkF m 113 #[.val (.long sa), .second, .val (.long sb), .second, .val (.int fl), .val (.int p4), .val (.int (0 : Int32)), .val (.int (0 : Int32)), .val (.ref oa), .val (.ref ob), .val (.ref oc), .unset, .unset] [])) _
        refine XT.lconst X83.here hx rfl (hb hby at_113) ?_
        show Steps p.tables e below (T83.setTop (mkF m 114 #[.val (.long sa), .second, .val (.long sb), .second, .val (.int fl), .val (.int p4), .val (.int (0 : Int32)), .val (.int (0 : Int32)), .val (.ref oa), .val (.ref ob), .val (.ref oc), .unset, .unset] [(.long (0 : Int64))])) _
        refine XT.lstore X83.here hx rfl (hb hby at_114) rfl (l' := #[.val (.long sa), .second, .val (.long sb), .second, .val (.int fl), .val (.int p4), .val (.int (0 : Int32)), .val (.int (0 : Int32)), .val (.ref oa), .val (.ref ob), .val (.ref oc), .val (.long (0 : Int64)), .second]) rfl ?_
        show Steps p.tables e below (T83.setTop (mkF m 116 #[.val (.long sa), .second, .val (.long sb), .second, .val (.int fl), .val (.int p4), .val (.int (0 : Int32)), .val (.int (0 : Int32)), .val (.ref oa), .val (.ref ob), .val (.ref oc), .val (.long (0 : Int64)), .second] [])) _
        refine XS.aload X83.here hx rfl (hb hby at_116) rfl rfl ?_
        show Steps p.tables e below (T83.setTop (mkF m 118 #[.val (.long sa), .second, .val (.long sb), .second, .val (.int fl), .val (.int p4), .val (.int (0 : Int32)), .val (.int (0 : Int32)), .val (.ref oa), .val (.ref ob), .val (.ref oc), .val (.long (0 : Int64)), .second] [(.ref oc)])) _
        exact k)
      obtain ⟨cq95, kq95, q95a, q95b, q95c⟩ := isOf hZ rfl G83_0
      obtain ⟨_, _, ⟨T95, L95, k95', n95⟩, -, X95, ⟨Lc95, hQ95, l95, y95, z95⟩, st95⟩ := X83.virtualBack hx (y := (⟨"com/example/detectability/detectability/ComparedProtein", "getSpectraA", "()J"⟩ : MethodName)) (z := (⟨"com/example/detectability/detectability/ComparedProtein", "getSpectraA", "()J"⟩ : MethodName)) hown (mvT hZ (hw _ (List.mem_of_getElem? (i := 42) rfl))) (mvT hZ (hw _ (List.mem_of_getElem? (i := 43) rfl))) (notFace_of_selects (args := #[]) (mvT hZ (hw _ (List.mem_of_getElem? (i := 45) rfl)))) (mvT hZ (hw _ (List.mem_of_getElem? (i := 45) rfl))) (mvT hZ (hw _ (List.mem_of_getElem? (i := 44) rfl))) (by decide) (backOf (W := 0) (rm_cg0 l Z a0 hw [] oc T83.heap n0 (Nat.le_trans (Nat.le_trans (Nat.le_trans (Nat.le_trans (Nat.le_trans (Nat.le_trans (Nat.le_trans (Nat.le_trans (Nat.le_trans Z0 E4.1) E10.1) K17.1) E21.1) E31.1) K42.1) E50.1) E66.1) K83.1) G83_2) hZ (hw _ (List.mem_of_getElem? (i := 46) rfl)) (hw _ (List.mem_of_getElem? (i := 26) rfl)) (by decide) (by decide)) q95a q95c (g := (mkF m 118 #[.val (.long sa), .second, .val (.long sb), .second, .val (.int fl), .val (.int p4), .val (.int (0 : Int32)), .val (.int (0 : Int32)), .val (.ref oa), .val (.ref ob), .val (.ref oc), .val (.long (0 : Int64)), .second] [(.ref oc)])) rfl (by rw [hml]; rfl) (Steps.refl _) (argsL := []) (rest := []) (lenOf pd___J rfl) rfl (by show 2 * 0 + _ ≤ _; exact Nat.le_of_eq rfl) (hb hby at_118) (fun _ _ => ⟨rfl, rfl, (by decide : 9 + 0 ≤ _), (by decide : 35 + 0 ≤ _)⟩)
      dsimp only [Pt.U, Pt.locs, Pt.cells, Pt.slots] at X95 l95 y95 z95 st95 hQ95
      subst l95 y95 z95
      obtain ⟨rfl, N95, e95⟩ := hQ95
      have M95 := Fr.app M83 N95
      have c96 : ∀ t, Steps p.tables e below (T95.setTop (mkF m 121 #[.val (.long sa), .second, .val (.long sb), .second, .val (.int fl), .val (.int p4), .val (.int (0 : Int32)), .val (.int (0 : Int32)), .val (.ref oa), .val (.ref ob), .val (.ref oc), .val (.long (0 : Int64)), .second] [(.long (0 : Int64))])) t → Steps p.tables e below (s₁.setTop (entryFrame m #[(.long sa), (.long sb), (.int fl), (.int p4)] maxLocals)) t := fun t k => c94 t (st95.trans k)
      have c97 : ∀ t, Steps p.tables e below (T95.setTop (mkF m 132 #[.val (.long sa), .second, .val (.long sb), .second, .val (.int fl), .val (.int p4), .val (.int (0 : Int32)), .val (.int (0 : Int32)), .val (.ref oa), .val (.ref ob), .val (.ref oc), .val (.long (0 : Int64)), .second] [(.int (1 : Int32))])) t → Steps p.tables e below (s₁.setTop (entryFrame m #[(.long sa), (.long sb), (.int fl), (.int p4)] maxLocals)) t := fun t k => c96 t (by
        show Steps p.tables e below (T95.setTop (mkF m 121 #[.val (.long sa), .second, .val (.long sb), .second, .val (.int fl), .val (.int p4), .val (.int (0 : Int32)), .val (.int (0 : Int32)), .val (.ref oa), .val (.ref ob), .val (.ref oc), .val (.long (0 : Int64)), .second] [(.long (0 : Int64))])) _
        refine XT.lload X95.here hx rfl (hb hby at_121) rfl ?_
        show Steps p.tables e below (T95.setTop (mkF m 123 #[.val (.long sa), .second, .val (.long sb), .second, .val (.int fl), .val (.int p4), .val (.int (0 : Int32)), .val (.int (0 : Int32)), .val (.ref oa), .val (.ref ob), .val (.ref oc), .val (.long (0 : Int64)), .second] [(.long (0 : Int64)), (.long (0 : Int64))])) _
        refine XT.lcmp X95.here hx rfl (hb hby at_123) rfl ?_
        show Steps p.tables e below (T95.setTop (mkF m 124 #[.val (.long sa), .second, .val (.long sb), .second, .val (.int fl), .val (.int p4), .val (.int (0 : Int32)), .val (.int (0 : Int32)), .val (.ref oa), .val (.ref ob), .val (.ref oc), .val (.long (0 : Int64)), .second] [(.int (XT.cmpL (0 : Int64) (0 : Int64)))])) _
        refine XS.ifNo X95.here hx rfl (hb hby at_124) rfl (XT.ll_ne_f (rfl)) ?_
        show Steps p.tables e below (T95.setTop (mkF m 127 #[.val (.long sa), .second, .val (.long sb), .second, .val (.int fl), .val (.int p4), .val (.int (0 : Int32)), .val (.int (0 : Int32)), .val (.ref oa), .val (.ref ob), .val (.ref oc), .val (.long (0 : Int64)), .second] [])) _
        refine XS.iconst X95.here hx rfl (hb hby at_127) ?_
        show Steps p.tables e below (T95.setTop (mkF m 128 #[.val (.long sa), .second, .val (.long sb), .second, .val (.int fl), .val (.int p4), .val (.int (0 : Int32)), .val (.int (0 : Int32)), .val (.ref oa), .val (.ref ob), .val (.ref oc), .val (.long (0 : Int64)), .second] [(.int (1 : Int32))])) _
        refine XS.goto X95.here hx rfl (pc0 := 128) (pc' := 132) rfl (hb hby at_128) (by decide) (by decide) ?_
        show Steps p.tables e below (T95.setTop (mkF m 132 #[.val (.long sa), .second, .val (.long sb), .second, .val (.int fl), .val (.int p4), .val (.int (0 : Int32)), .val (.int (0 : Int32)), .val (.ref oa), .val (.ref ob), .val (.ref oc), .val (.long (0 : Int64)), .second] [(.int (1 : Int32))])) _
        exact k)
      have hsz : q66 ≤ T95.heap.size := by rw [e95]; exact (Nat.le_trans kk66 K83.1)
      obtain ⟨fs, hr, hrun, hended, hRW⟩ := Jvm.Stand.leaveW (s := s) (vm₁ := T66.vm) X95 S66 hsz (v := (some (.int (1 : Int32)))) (fun h => by rw [Bd.returns] at h; cases h)
      refine ⟨_, _, pre0 _ (c97 _ (retN X95 hx (t := .boolean) Bd.returns (by simp) (hb hby at_132) hr)), hrun, hended, _, _, rfl, ?_, hRW.1, hRW.2.1, hRW.2.2.1, hRW.2.2.2.mono (by decide) (by decide)⟩
      show Q_0 Z sa sb fl p4 h0 n0 _ T95.heap _
      rw [e95]
      exact ⟨rfl, M95⟩
    · skip
      have c98 : ∀ t, Steps p.tables e below (s₁.setTop (mkF m 28 #[.val (.long sa), .second, .val (.long sb), .second, .val (.int fl), .val (.int p4), .val (.int (0 : Int32)), .val (.int (1 : Int32)), .unset, .unset, .unset, .unset, .unset] [])) t → Steps p.tables e below (s₁.setTop (entryFrame m #[(.long sa), (.long sb), (.int fl), (.int p4)] maxLocals)) t := fun t k => c2 t (by
        show Steps p.tables e below (s₁.setTop (mkF m 18 #[.val (.long sa), .second, .val (.long sb), .second, .val (.int fl), .val (.int p4), .val (.int (0 : Int32)), .unset, .unset, .unset, .unset, .unset, .unset] [(.int (fl &&& (2 : Int32)))])) _
        refine XS.ifNo X0.here hx rfl (hb hby at_18) rfl (XT.i0_eq_f qb) ?_
        show Steps p.tables e below (s₁.setTop (mkF m 21 #[.val (.long sa), .second, .val (.long sb), .second, .val (.int fl), .val (.int p4), .val (.int (0 : Int32)), .unset, .unset, .unset, .unset, .unset, .unset] [])) _
        refine XS.iconst X0.here hx rfl (hb hby at_21) ?_
        show Steps p.tables e below (s₁.setTop (mkF m 22 #[.val (.long sa), .second, .val (.long sb), .second, .val (.int fl), .val (.int p4), .val (.int (0 : Int32)), .unset, .unset, .unset, .unset, .unset, .unset] [(.int (1 : Int32))])) _
        refine XS.goto X0.here hx rfl (pc0 := 22) (pc' := 26) rfl (hb hby at_22) (by decide) (by decide) ?_
        show Steps p.tables e below (s₁.setTop (mkF m 26 #[.val (.long sa), .second, .val (.long sb), .second, .val (.int fl), .val (.int p4), .val (.int (0 : Int32)), .unset, .unset, .unset, .unset, .unset, .unset] [(.int (1 : Int32))])) _
        refine XS.istore X0.here hx rfl (hb hby at_26) rfl (l' := #[.val (.long sa), .second, .val (.long sb), .second, .val (.int fl), .val (.int p4), .val (.int (0 : Int32)), .val (.int (1 : Int32)), .unset, .unset, .unset, .unset, .unset]) rfl ?_
        show Steps p.tables e below (s₁.setTop (mkF m 28 #[.val (.long sa), .second, .val (.long sb), .second, .val (.int fl), .val (.int p4), .val (.int (0 : Int32)), .val (.int (1 : Int32)), .unset, .unset, .unset, .unset, .unset] [])) _
        exact k)
      obtain ⟨T99, h99, X99, e99, E99, A99, D99, -, st99⟩ := newO X0 hx hZ hown (hw _ (List.mem_of_getElem? (i := 0) rfl)) (hw _ (List.mem_of_getElem? (i := 1) rfl)) (hw _ (List.mem_of_getElem? (i := 2) rfl)) e0 (g := (mkF m 28 #[.val (.long sa), .second, .val (.long sb), .second, .val (.int fl), .val (.int p4), .val (.int (0 : Int32)), .val (.int (1 : Int32)), .unset, .unset, .unset, .unset, .unset] [])) rfl (hb hby at_28) (by decide) (by decide)
      obtain ⟨oa, g99⟩ : ∃ z, z = h0.size := ⟨_, rfl⟩
      rw [← g99] at A99 D99 st99
      have F100 : Fld Z h99 oa "com/example/detectability/detectability/ProteinAbundance" "name" "Ljava/lang/String;" .null := (D99 (Or.inr (hw _ (List.mem_of_getElem? (i := 18) rfl))) (ty := (.object "java/lang/String")) (by decide))
      have F101 : Fld Z h99 oa "com/example/detectability/detectability/ProteinAbundance" "spectra" "J" (.long (0 : Int64)) := (D99 (Or.inr (hw _ (List.mem_of_getElem? (i := 20) rfl))) (ty := .long) (by decide))
      have F102 : Fld Z h99 oa "com/example/detectability/detectability/ProteinAbundance" "abundance" "D" (.double (0 : UInt64)) := (D99 (Or.inr (hw _ (List.mem_of_getElem? (i := 22) rfl))) (ty := .double) (by decide))
      have c103 : ∀ t, Steps p.tables e below (T99.setTop (mkF m 31 #[.val (.long sa), .second, .val (.long sb), .second, .val (.int fl), .val (.int p4), .val (.int (0 : Int32)), .val (.int (1 : Int32)), .unset, .unset, .unset, .unset, .unset] [(.ref oa)])) t → Steps p.tables e below (s₁.setTop (entryFrame m #[(.long sa), (.long sb), (.int fl), (.int p4)] maxLocals)) t := fun t k => c98 t (st99 _ k)
      have c104 : ∀ t, Steps p.tables e below (T99.setTop (mkF m 32 #[.val (.long sa), .second, .val (.long sb), .second, .val (.int fl), .val (.int p4), .val (.int (0 : Int32)), .val (.int (1 : Int32)), .unset, .unset, .unset, .unset, .unset] [(.ref oa), (.ref oa)])) t → Steps p.tables e below (s₁.setTop (entryFrame m #[(.long sa), (.long sb), (.int fl), (.int p4)] maxLocals)) t := fun t k => c103 t (by
        show Steps p.tables e below (T99.setTop (mkF m 31 #[.val (.long sa), .second, .val (.long sb), .second, .val (.int fl), .val (.int p4), .val (.int (0 : Int32)), .val (.int (1 : Int32)), .unset, .unset, .unset, .unset, .unset] [(.ref oa)])) _
        refine XS.dup X99.here hx rfl (hb hby at_31) rfl rfl ?_
        show Steps p.tables e below (T99.setTop (mkF m 32 #[.val (.long sa), .second, .val (.long sb), .second, .val (.int fl), .val (.int p4), .val (.int (0 : Int32)), .val (.int (1 : Int32)), .unset, .unset, .unset, .unset, .unset] [(.ref oa), (.ref oa)])) _
        exact k)
      obtain ⟨s1, T105, h105, q105, X105, e105, E105, S105, kk105, Zz105, Ow105, st105⟩ := ldcS (s := s) (vm0 := s.vm) X99 hx hZ hown (hw _ (List.mem_of_getElem? (i := 3) rfl)) (fun d hd => hw d (strW d hd)) e99 ((State.WarmedH.refl s).since 0) (Nat.zero_le _) (g := (mkF m 32 #[.val (.long sa), .second, .val (.long sb), .second, .val (.int fl), .val (.int p4), .val (.int (0 : Int32)), .val (.int (1 : Int32)), .unset, .unset, .unset, .unset, .unset] [(.ref oa), (.ref oa)])) rfl (hb hby at_32) (n := 4) (by decide) (by decide) (by decide) (by decide)
      have hZ := Zz105
      have hown := Ow105
      have F106 : Exa Z h105 oa "com/example/detectability/detectability/ProteinAbundance" := (A99.ext E105)
      have F107 : Fld Z h105 oa "com/example/detectability/detectability/ProteinAbundance" "name" "Ljava/lang/String;" .null := (F100.ext E105)
      have F108 : Fld Z h105 oa "com/example/detectability/detectability/ProteinAbundance" "spectra" "J" (.long (0 : Int64)) := (F101.ext E105)
      have F109 : Fld Z h105 oa "com/example/detectability/detectability/ProteinAbundance" "abundance" "D" (.double (0 : UInt64)) := (F102.ext E105)
      have c110 : ∀ t, Steps p.tables e below (T105.setTop (mkF m 34 #[.val (.long sa), .second, .val (.long sb), .second, .val (.int fl), .val (.int p4), .val (.int (0 : Int32)), .val (.int (1 : Int32)), .unset, .unset, .unset, .unset, .unset] [(.ref s1), (.ref oa), (.ref oa)])) t → Steps p.tables e below (s₁.setTop (entryFrame m #[(.long sa), (.long sb), (.int fl), (.int p4)] maxLocals)) t := fun t k => c104 t (st105 _ k)
      obtain ⟨da, hda⟩ : ∃ v : UInt64, FP.i2d (p4 &&& (255 : Int32)) = v := ⟨_, rfl⟩
      have c111 : ∀ t, Steps p.tables e below (T105.setTop (mkF m 42 #[.val (.long sa), .second, .val (.long sb), .second, .val (.int fl), .val (.int p4), .val (.int (0 : Int32)), .val (.int (1 : Int32)), .unset, .unset, .unset, .unset, .unset] [(.double da), (.long sa), (.ref s1), (.ref oa), (.ref oa)])) t → Steps p.tables e below (s₁.setTop (entryFrame m #[(.long sa), (.long sb), (.int fl), (.int p4)] maxLocals)) t := fun t k => c110 t (by
        show Steps p.tables e below (T105.setTop (mkF m 34 #[.val (.long sa), .second, .val (.long sb), .second, .val (.int fl), .val (.int p4), .val (.int (0 : Int32)), .val (.int (1 : Int32)), .unset, .unset, .unset, .unset, .unset] [(.ref s1), (.ref oa), (.ref oa)])) _
        refine XT.lloadN X105.here hx rfl (hb hby at_34) rfl ?_
        show Steps p.tables e below (T105.setTop (mkF m 35 #[.val (.long sa), .second, .val (.long sb), .second, .val (.int fl), .val (.int p4), .val (.int (0 : Int32)), .val (.int (1 : Int32)), .unset, .unset, .unset, .unset, .unset] [(.long sa), (.ref s1), (.ref oa), (.ref oa)])) _
        refine XS.iload X105.here hx rfl (hb hby at_35) rfl ?_
        show Steps p.tables e below (T105.setTop (mkF m 37 #[.val (.long sa), .second, .val (.long sb), .second, .val (.int fl), .val (.int p4), .val (.int (0 : Int32)), .val (.int (1 : Int32)), .unset, .unset, .unset, .unset, .unset] [(.int p4), (.long sa), (.ref s1), (.ref oa), (.ref oa)])) _
        refine XS.sipush X105.here hx rfl (hb hby at_37) ?_
        show Steps p.tables e below (T105.setTop (mkF m 40 #[.val (.long sa), .second, .val (.long sb), .second, .val (.int fl), .val (.int p4), .val (.int (0 : Int32)), .val (.int (1 : Int32)), .unset, .unset, .unset, .unset, .unset] [(.int (255 : Int32)), (.int p4), (.long sa), (.ref s1), (.ref oa), (.ref oa)])) _
        refine XS.iand X105.here hx rfl (hb hby at_40) rfl ?_
        show Steps p.tables e below (T105.setTop (mkF m 41 #[.val (.long sa), .second, .val (.long sb), .second, .val (.int fl), .val (.int p4), .val (.int (0 : Int32)), .val (.int (1 : Int32)), .unset, .unset, .unset, .unset, .unset] [(.int (p4 &&& (255 : Int32))), (.long sa), (.ref s1), (.ref oa), (.ref oa)])) _
        refine XS.i2dS X105.here hx rfl (hb hby at_41) rfl hda ?_
        show Steps p.tables e below (T105.setTop (mkF m 42 #[.val (.long sa), .second, .val (.long sb), .second, .val (.int fl), .val (.int p4), .val (.int (0 : Int32)), .val (.int (1 : Int32)), .unset, .unset, .unset, .unset, .unset] [(.double da), (.long sa), (.ref s1), (.ref oa), (.ref oa)])) _
        exact k)
      obtain ⟨_, _, ⟨T112, L112, k112', n112⟩, -, X112, ⟨Lc112, hQ112, l112, y112, z112⟩, st112⟩ := X105.specialBack hx (y := (⟨"com/example/detectability/detectability/ProteinAbundance", "<init>", "(Ljava/lang/String;JD)V"⟩ : MethodName)) rfl hown (mvT hZ (hw _ (List.mem_of_getElem? (i := 11) rfl))) (mvT hZ (hw _ (List.mem_of_getElem? (i := 12) rfl))) (mvT hZ (hw _ (List.mem_of_getElem? (i := 13) rfl))) (by decide) (backOf (W := 1) (rm_pi l Z a0 hw [] oa s1 sa da h105 n0 (Nat.le_trans (Nat.le_trans Z0 E99.1) E105.1) F106 F107 F108 F109 (Nat.le_trans Z0 (Nat.le_of_eq g99.symm))) hZ (hw _ (List.mem_of_getElem? (i := 13) rfl)) (hw _ (List.mem_of_getElem? (i := 2) rfl)) (by decide) (by decide)) (g := (mkF m 42 #[.val (.long sa), .second, .val (.long sb), .second, .val (.int fl), .val (.int p4), .val (.int (0 : Int32)), .val (.int (1 : Int32)), .unset, .unset, .unset, .unset, .unset] [(.double da), (.long sa), (.ref s1), (.ref oa), (.ref oa)])) rfl (by rw [hml]; rfl) (Steps.refl _) (a := oa) (argsL := [(.ref s1), (.long sa), (.double da)]) (rest := [(.ref oa)]) (lenOf pd__Ljava_lang_String_JD_V rfl) rfl (by show 2 * 0 + _ ≤ _; exact Nat.le_of_eq rfl) (hb hby at_42) (fun _ _ => ⟨rfl, e105, (by decide : 3 + 0 ≤ _), (by decide : 11 + 0 ≤ _)⟩)
      dsimp only [Pt.U, Pt.locs, Pt.cells, Pt.slots] at X112 l112 y112 z112 st112 hQ112
      subst l112 y112 z112
      obtain ⟨rfl, N112, K112, G112_0, G112_1, G112_2, G112_3⟩ := hQ112
      have M112 := Fr.app N0 N112
      have F113 : Exa Z T112.heap oa "com/example/detectability/detectability/ProteinAbundance" := (F106.keep K112)
      have c114 : ∀ t, Steps p.tables e below (T112.setTop (mkF m 45 #[.val (.long sa), .second, .val (.long sb), .second, .val (.int fl), .val (.int p4), .val (.int (0 : Int32)), .val (.int (1 : Int32)), .unset, .unset, .unset, .unset, .unset] [(.ref oa)])) t → Steps p.tables e below (s₁.setTop (entryFrame m #[(.long sa), (.long sb), (.int fl), (.int p4)] maxLocals)) t := fun t k => c111 t (st112.trans k)
      have c115 : ∀ t, Steps p.tables e below (T112.setTop (mkF m 47 #[.val (.long sa), .second, .val (.long sb), .second, .val (.int fl), .val (.int p4), .val (.int (0 : Int32)), .val (.int (1 : Int32)), .val (.ref oa), .unset, .unset, .unset, .unset] [])) t → Steps p.tables e below (s₁.setTop (entryFrame m #[(.long sa), (.long sb), (.int fl), (.int p4)] maxLocals)) t := fun t k => c114 t (by
        show Steps p.tables e below (T112.setTop (mkF m 45 #[.val (.long sa), .second, .val (.long sb), .second, .val (.int fl), .val (.int p4), .val (.int (0 : Int32)), .val (.int (1 : Int32)), .unset, .unset, .unset, .unset, .unset] [(.ref oa)])) _
        refine XS.astore X112.here hx rfl (hb hby at_45) rfl rfl (l' := #[.val (.long sa), .second, .val (.long sb), .second, .val (.int fl), .val (.int p4), .val (.int (0 : Int32)), .val (.int (1 : Int32)), .val (.ref oa), .unset, .unset, .unset, .unset]) rfl ?_
        show Steps p.tables e below (T112.setTop (mkF m 47 #[.val (.long sa), .second, .val (.long sb), .second, .val (.int fl), .val (.int p4), .val (.int (0 : Int32)), .val (.int (1 : Int32)), .val (.ref oa), .unset, .unset, .unset, .unset] [])) _
        exact k)
      obtain ⟨T116, h116, X116, e116, E116, A116, D116, -, st116⟩ := newO X112 hx hZ hown (hw _ (List.mem_of_getElem? (i := 0) rfl)) (hw _ (List.mem_of_getElem? (i := 1) rfl)) (hw _ (List.mem_of_getElem? (i := 2) rfl)) rfl (g := (mkF m 47 #[.val (.long sa), .second, .val (.long sb), .second, .val (.int fl), .val (.int p4), .val (.int (0 : Int32)), .val (.int (1 : Int32)), .val (.ref oa), .unset, .unset, .unset, .unset] [])) rfl (hb hby at_47) (by decide) (by decide)
      obtain ⟨ob, g116⟩ : ∃ z, z = T112.heap.size := ⟨_, rfl⟩
      rw [← g116] at A116 D116 st116
      have F117 : Exa Z h116 oa "com/example/detectability/detectability/ProteinAbundance" := (G112_0.ext E116)
      have F118 : Fld Z h116 oa "com/example/detectability/detectability/ProteinAbundance" "name" "Ljava/lang/String;" (.ref s1) := (G112_1.ext E116)
      have F119 : Fld Z h116 oa "com/example/detectability/detectability/ProteinAbundance" "spectra" "J" (.long sa) := (G112_2.ext E116)
      have F120 : Fld Z h116 oa "com/example/detectability/detectability/ProteinAbundance" "abundance" "D" (.double da) := (G112_3.ext E116)
      have F121 : Fld Z h116 ob "com/example/detectability/detectability/ProteinAbundance" "name" "Ljava/lang/String;" .null := (D116 (Or.inr (hw _ (List.mem_of_getElem? (i := 18) rfl))) (ty := (.object "java/lang/String")) (by decide))
      have F122 : Fld Z h116 ob "com/example/detectability/detectability/ProteinAbundance" "spectra" "J" (.long (0 : Int64)) := (D116 (Or.inr (hw _ (List.mem_of_getElem? (i := 20) rfl))) (ty := .long) (by decide))
      have F123 : Fld Z h116 ob "com/example/detectability/detectability/ProteinAbundance" "abundance" "D" (.double (0 : UInt64)) := (D116 (Or.inr (hw _ (List.mem_of_getElem? (i := 22) rfl))) (ty := .double) (by decide))
      have c124 : ∀ t, Steps p.tables e below (T116.setTop (mkF m 50 #[.val (.long sa), .second, .val (.long sb), .second, .val (.int fl), .val (.int p4), .val (.int (0 : Int32)), .val (.int (1 : Int32)), .val (.ref oa), .unset, .unset, .unset, .unset] [(.ref ob)])) t → Steps p.tables e below (s₁.setTop (entryFrame m #[(.long sa), (.long sb), (.int fl), (.int p4)] maxLocals)) t := fun t k => c115 t (st116 _ k)
      have c125 : ∀ t, Steps p.tables e below (T116.setTop (mkF m 51 #[.val (.long sa), .second, .val (.long sb), .second, .val (.int fl), .val (.int p4), .val (.int (0 : Int32)), .val (.int (1 : Int32)), .val (.ref oa), .unset, .unset, .unset, .unset] [(.ref ob), (.ref ob)])) t → Steps p.tables e below (s₁.setTop (entryFrame m #[(.long sa), (.long sb), (.int fl), (.int p4)] maxLocals)) t := fun t k => c124 t (by
        show Steps p.tables e below (T116.setTop (mkF m 50 #[.val (.long sa), .second, .val (.long sb), .second, .val (.int fl), .val (.int p4), .val (.int (0 : Int32)), .val (.int (1 : Int32)), .val (.ref oa), .unset, .unset, .unset, .unset] [(.ref ob)])) _
        refine XS.dup X116.here hx rfl (hb hby at_50) rfl rfl ?_
        show Steps p.tables e below (T116.setTop (mkF m 51 #[.val (.long sa), .second, .val (.long sb), .second, .val (.int fl), .val (.int p4), .val (.int (0 : Int32)), .val (.int (1 : Int32)), .val (.ref oa), .unset, .unset, .unset, .unset] [(.ref ob), (.ref ob)])) _
        exact k)
      obtain ⟨s2, T126, h126, q126, X126, e126, E126, S126, kk126, Zz126, Ow126, st126⟩ := ldcS (s := s) (vm0 := T105.vm) X116 hx hZ hown (hw _ (List.mem_of_getElem? (i := 23) rfl)) (fun d hd => hw d (strW d hd)) e116 S105 (Nat.le_trans (Nat.le_trans kk105 K112.1) E116.1) (g := (mkF m 51 #[.val (.long sa), .second, .val (.long sb), .second, .val (.int fl), .val (.int p4), .val (.int (0 : Int32)), .val (.int (1 : Int32)), .val (.ref oa), .unset, .unset, .unset, .unset] [(.ref ob), (.ref ob)])) rfl (hb hby at_51) (n := 4) (by decide) (by decide) (by decide) (by decide)
      have hZ := Zz126
      have hown := Ow126
      have F127 : Exa Z h126 oa "com/example/detectability/detectability/ProteinAbundance" := (F117.ext E126)
      have F128 : Fld Z h126 oa "com/example/detectability/detectability/ProteinAbundance" "name" "Ljava/lang/String;" (.ref s1) := (F118.ext E126)
      have F129 : Fld Z h126 oa "com/example/detectability/detectability/ProteinAbundance" "spectra" "J" (.long sa) := (F119.ext E126)
      have F130 : Fld Z h126 oa "com/example/detectability/detectability/ProteinAbundance" "abundance" "D" (.double da) := (F120.ext E126)
      have F131 : Exa Z h126 ob "com/example/detectability/detectability/ProteinAbundance" := (A116.ext E126)
      have F132 : Fld Z h126 ob "com/example/detectability/detectability/ProteinAbundance" "name" "Ljava/lang/String;" .null := (F121.ext E126)
      have F133 : Fld Z h126 ob "com/example/detectability/detectability/ProteinAbundance" "spectra" "J" (.long (0 : Int64)) := (F122.ext E126)
      have F134 : Fld Z h126 ob "com/example/detectability/detectability/ProteinAbundance" "abundance" "D" (.double (0 : UInt64)) := (F123.ext E126)
      have c135 : ∀ t, Steps p.tables e below (T126.setTop (mkF m 53 #[.val (.long sa), .second, .val (.long sb), .second, .val (.int fl), .val (.int p4), .val (.int (0 : Int32)), .val (.int (1 : Int32)), .val (.ref oa), .unset, .unset, .unset, .unset] [(.ref s2), (.ref ob), (.ref ob)])) t → Steps p.tables e below (s₁.setTop (entryFrame m #[(.long sa), (.long sb), (.int fl), (.int p4)] maxLocals)) t := fun t k => c125 t (st126 _ k)
      obtain ⟨db, hdb⟩ : ∃ v : UInt64, FP.i2d ((p4 >>> ((8 : Int32) &&& 31)) &&& (255 : Int32)) = v := ⟨_, rfl⟩
      have c136 : ∀ t, Steps p.tables e below (T126.setTop (mkF m 64 #[.val (.long sa), .second, .val (.long sb), .second, .val (.int fl), .val (.int p4), .val (.int (0 : Int32)), .val (.int (1 : Int32)), .val (.ref oa), .unset, .unset, .unset, .unset] [(.double db), (.long sb), (.ref s2), (.ref ob), (.ref ob)])) t → Steps p.tables e below (s₁.setTop (entryFrame m #[(.long sa), (.long sb), (.int fl), (.int p4)] maxLocals)) t := fun t k => c135 t (by
        show Steps p.tables e below (T126.setTop (mkF m 53 #[.val (.long sa), .second, .val (.long sb), .second, .val (.int fl), .val (.int p4), .val (.int (0 : Int32)), .val (.int (1 : Int32)), .val (.ref oa), .unset, .unset, .unset, .unset] [(.ref s2), (.ref ob), (.ref ob)])) _
        refine XT.lloadN X126.here hx rfl (hb hby at_53) rfl ?_
        show Steps p.tables e below (T126.setTop (mkF m 54 #[.val (.long sa), .second, .val (.long sb), .second, .val (.int fl), .val (.int p4), .val (.int (0 : Int32)), .val (.int (1 : Int32)), .val (.ref oa), .unset, .unset, .unset, .unset] [(.long sb), (.ref s2), (.ref ob), (.ref ob)])) _
        refine XS.iload X126.here hx rfl (hb hby at_54) rfl ?_
        show Steps p.tables e below (T126.setTop (mkF m 56 #[.val (.long sa), .second, .val (.long sb), .second, .val (.int fl), .val (.int p4), .val (.int (0 : Int32)), .val (.int (1 : Int32)), .val (.ref oa), .unset, .unset, .unset, .unset] [(.int p4), (.long sb), (.ref s2), (.ref ob), (.ref ob)])) _
        refine XS.bipush X126.here hx rfl (hb hby at_56) ?_
        show Steps p.tables e below (T126.setTop (mkF m 58 #[.val (.long sa), .second, .val (.long sb), .second, .val (.int fl), .val (.int p4), .val (.int (0 : Int32)), .val (.int (1 : Int32)), .val (.ref oa), .unset, .unset, .unset, .unset] [(.int (8 : Int32)), (.int p4), (.long sb), (.ref s2), (.ref ob), (.ref ob)])) _
        refine XT.ishr X126.here hx rfl (hb hby at_58) rfl ?_
        show Steps p.tables e below (T126.setTop (mkF m 59 #[.val (.long sa), .second, .val (.long sb), .second, .val (.int fl), .val (.int p4), .val (.int (0 : Int32)), .val (.int (1 : Int32)), .val (.ref oa), .unset, .unset, .unset, .unset] [(.int (p4 >>> ((8 : Int32) &&& 31))), (.long sb), (.ref s2), (.ref ob), (.ref ob)])) _
        refine XS.sipush X126.here hx rfl (hb hby at_59) ?_
        show Steps p.tables e below (T126.setTop (mkF m 62 #[.val (.long sa), .second, .val (.long sb), .second, .val (.int fl), .val (.int p4), .val (.int (0 : Int32)), .val (.int (1 : Int32)), .val (.ref oa), .unset, .unset, .unset, .unset] [(.int (255 : Int32)), (.int (p4 >>> ((8 : Int32) &&& 31))), (.long sb), (.ref s2), (.ref ob), (.ref ob)])) _
        refine XS.iand X126.here hx rfl (hb hby at_62) rfl ?_
        show Steps p.tables e below (T126.setTop (mkF m 63 #[.val (.long sa), .second, .val (.long sb), .second, .val (.int fl), .val (.int p4), .val (.int (0 : Int32)), .val (.int (1 : Int32)), .val (.ref oa), .unset, .unset, .unset, .unset] [(.int ((p4 >>> ((8 : Int32) &&& 31)) &&& (255 : Int32))), (.long sb), (.ref s2), (.ref ob), (.ref ob)])) _
        refine XS.i2dS X126.here hx rfl (hb hby at_63) rfl hdb ?_
        show Steps p.tables e below (T126.setTop (mkF m 64 #[.val (.long sa), .second, .val (.long sb), .second, .val (.int fl), .val (.int p4), .val (.int (0 : Int32)), .val (.int (1 : Int32)), .val (.ref oa), .unset, .unset, .unset, .unset] [(.double db), (.long sb), (.ref s2), (.ref ob), (.ref ob)])) _
        exact k)
      obtain ⟨_, _, ⟨T137, L137, k137', n137⟩, -, X137, ⟨Lc137, hQ137, l137, y137, z137⟩, st137⟩ := X126.specialBack hx (y := (⟨"com/example/detectability/detectability/ProteinAbundance", "<init>", "(Ljava/lang/String;JD)V"⟩ : MethodName)) rfl hown (mvT hZ (hw _ (List.mem_of_getElem? (i := 11) rfl))) (mvT hZ (hw _ (List.mem_of_getElem? (i := 12) rfl))) (mvT hZ (hw _ (List.mem_of_getElem? (i := 13) rfl))) (by decide) (backOf (W := 1) (rm_pi l Z a0 hw [] ob s2 sb db h126 n0 (Nat.le_trans (Nat.le_trans (Nat.le_trans (Nat.le_trans (Nat.le_trans Z0 E99.1) E105.1) K112.1) E116.1) E126.1) F131 F132 F133 F134 (Nat.le_trans (Nat.le_trans (Nat.le_trans (Nat.le_trans Z0 E99.1) E105.1) K112.1) (Nat.le_of_eq g116.symm))) hZ (hw _ (List.mem_of_getElem? (i := 13) rfl)) (hw _ (List.mem_of_getElem? (i := 2) rfl)) (by decide) (by decide)) (g := (mkF m 64 #[.val (.long sa), .second, .val (.long sb), .second, .val (.int fl), .val (.int p4), .val (.int (0 : Int32)), .val (.int (1 : Int32)), .val (.ref oa), .unset, .unset, .unset, .unset] [(.double db), (.long sb), (.ref s2), (.ref ob), (.ref ob)])) rfl (by rw [hml]; rfl) (Steps.refl _) (a := ob) (argsL := [(.ref s2), (.long sb), (.double db)]) (rest := [(.ref ob)]) (lenOf pd__Ljava_lang_String_JD_V rfl) rfl (by show 2 * 0 + _ ≤ _; exact Nat.le_of_eq rfl) (hb hby at_64) (fun _ _ => ⟨rfl, e126, (by decide : 6 + 0 ≤ _), (by decide : 22 + 0 ≤ _)⟩)
      dsimp only [Pt.U, Pt.locs, Pt.cells, Pt.slots] at X137 l137 y137 z137 st137 hQ137
      subst l137 y137 z137
      obtain ⟨rfl, N137, K137, G137_0, G137_1, G137_2, G137_3⟩ := hQ137
      have M137 := Fr.app M112 N137
      have F138 : Exa Z T137.heap oa "com/example/detectability/detectability/ProteinAbundance" := (F127.keep K137)
      have F139 : Fld Z T137.heap oa "com/example/detectability/detectability/ProteinAbundance" "name" "Ljava/lang/String;" (.ref s1) := (F128.keep K137 (ninS (Nat.ne_of_lt (Nat.lt_of_lt_of_le G112_0.lt (Nat.le_of_eq g116.symm))) nin0))
      have F140 : Fld Z T137.heap oa "com/example/detectability/detectability/ProteinAbundance" "spectra" "J" (.long sa) := (F129.keep K137 (ninS (Nat.ne_of_lt (Nat.lt_of_lt_of_le G112_0.lt (Nat.le_of_eq g116.symm))) nin0))
      have F141 : Fld Z T137.heap oa "com/example/detectability/detectability/ProteinAbundance" "abundance" "D" (.double da) := (F130.keep K137 (ninS (Nat.ne_of_lt (Nat.lt_of_lt_of_le G112_0.lt (Nat.le_of_eq g116.symm))) nin0))
      have F142 : Exa Z T137.heap ob "com/example/detectability/detectability/ProteinAbundance" := (F131.keep K137)
      have c143 : ∀ t, Steps p.tables e below (T137.setTop (mkF m 67 #[.val (.long sa), .second, .val (.long sb), .second, .val (.int fl), .val (.int p4), .val (.int (0 : Int32)), .val (.int (1 : Int32)), .val (.ref oa), .unset, .unset, .unset, .unset] [(.ref ob)])) t → Steps p.tables e below (s₁.setTop (entryFrame m #[(.long sa), (.long sb), (.int fl), (.int p4)] maxLocals)) t := fun t k => c136 t (st137.trans k)
      have c144 : ∀ t, Steps p.tables e below (T137.setTop (mkF m 69 #[.val (.long sa), .second, .val (.long sb), .second, .val (.int fl), .val (.int p4), .val (.int (0 : Int32)), .val (.int (1 : Int32)), .val (.ref oa), .val (.ref ob), .unset, .unset, .unset] [])) t → Steps p.tables e below (s₁.setTop (entryFrame m #[(.long sa), (.long sb), (.int fl), (.int p4)] maxLocals)) t := fun t k => c143 t (by
        show Steps p.tables e below (T137.setTop (mkF m 67 #[.val (.long sa), .second, .val (.long sb), .second, .val (.int fl), .val (.int p4), .val (.int (0 : Int32)), .val (.int (1 : Int32)), .val (.ref oa), .unset, .unset, .unset, .unset] [(.ref ob)])) _
        refine XS.astore X137.here hx rfl (hb hby at_67) rfl rfl (l' := #[.val (.long sa), .second, .val (.long sb), .second, .val (.int fl), .val (.int p4), .val (.int (0 : Int32)), .val (.int (1 : Int32)), .val (.ref oa), .val (.ref ob), .unset, .unset, .unset]) rfl ?_
        show Steps p.tables e below (T137.setTop (mkF m 69 #[.val (.long sa), .second, .val (.long sb), .second, .val (.int fl), .val (.int p4), .val (.int (0 : Int32)), .val (.int (1 : Int32)), .val (.ref oa), .val (.ref ob), .unset, .unset, .unset] [])) _
        exact k)
      obtain ⟨T145, h145, X145, e145, E145, A145, D145, -, st145⟩ := newO X137 hx hZ hown (hw _ (List.mem_of_getElem? (i := 24) rfl)) (hw _ (List.mem_of_getElem? (i := 25) rfl)) (hw _ (List.mem_of_getElem? (i := 26) rfl)) rfl (g := (mkF m 69 #[.val (.long sa), .second, .val (.long sb), .second, .val (.int fl), .val (.int p4), .val (.int (0 : Int32)), .val (.int (1 : Int32)), .val (.ref oa), .val (.ref ob), .unset, .unset, .unset] [])) rfl (hb hby at_69) (by decide) (by decide)
      obtain ⟨oc, g145⟩ : ∃ z, z = T137.heap.size := ⟨_, rfl⟩
      rw [← g145] at A145 D145 st145
      have F146 : Exa Z h145 oa "com/example/detectability/detectability/ProteinAbundance" := (F138.ext E145)
      have F147 : Fld Z h145 oa "com/example/detectability/detectability/ProteinAbundance" "name" "Ljava/lang/String;" (.ref s1) := (F139.ext E145)
      have F148 : Fld Z h145 oa "com/example/detectability/detectability/ProteinAbundance" "spectra" "J" (.long sa) := (F140.ext E145)
      have F149 : Fld Z h145 oa "com/example/detectability/detectability/ProteinAbundance" "abundance" "D" (.double da) := (F141.ext E145)
      have F150 : Exa Z h145 ob "com/example/detectability/detectability/ProteinAbundance" := (G137_0.ext E145)
      have F151 : Fld Z h145 ob "com/example/detectability/detectability/ProteinAbundance" "name" "Ljava/lang/String;" (.ref s2) := (G137_1.ext E145)
      have F152 : Fld Z h145 ob "com/example/detectability/detectability/ProteinAbundance" "spectra" "J" (.long sb) := (G137_2.ext E145)
      have F153 : Fld Z h145 ob "com/example/detectability/detectability/ProteinAbundance" "abundance" "D" (.double db) := (G137_3.ext E145)
      have F154 : Fld Z h145 oc "com/example/detectability/detectability/ComparedProtein" "name" "Ljava/lang/String;" .null := (D145 (Or.inr (hw _ (List.mem_of_getElem? (i := 33) rfl))) (ty := (.object "java/lang/String")) (by decide))
      have F155 : Fld Z h145 oc "com/example/detectability/detectability/ComparedProtein" "inA" "Lcom/example/detectability/detectability/ProteinAbundance;" .null := (D145 (Or.inr (hw _ (List.mem_of_getElem? (i := 35) rfl))) (ty := (.object "com/example/detectability/detectability/ProteinAbundance")) (by decide))
      have F156 : Fld Z h145 oc "com/example/detectability/detectability/ComparedProtein" "inB" "Lcom/example/detectability/detectability/ProteinAbundance;" .null := (D145 (Or.inr (hw _ (List.mem_of_getElem? (i := 37) rfl))) (ty := (.object "com/example/detectability/detectability/ProteinAbundance")) (by decide))
      have F157 : Fld Z h145 oc "com/example/detectability/detectability/ComparedProtein" "z" "D" (.double (0 : UInt64)) := (D145 (Or.inr (hw _ (List.mem_of_getElem? (i := 39) rfl))) (ty := .double) (by decide))
      have F158 : Fld Z h145 oc "com/example/detectability/detectability/ComparedProtein" "p" "D" (.double (0 : UInt64)) := (D145 (Or.inr (hw _ (List.mem_of_getElem? (i := 41) rfl))) (ty := .double) (by decide))
      have c159 : ∀ t, Steps p.tables e below (T145.setTop (mkF m 72 #[.val (.long sa), .second, .val (.long sb), .second, .val (.int fl), .val (.int p4), .val (.int (0 : Int32)), .val (.int (1 : Int32)), .val (.ref oa), .val (.ref ob), .unset, .unset, .unset] [(.ref oc)])) t → Steps p.tables e below (s₁.setTop (entryFrame m #[(.long sa), (.long sb), (.int fl), (.int p4)] maxLocals)) t := fun t k => c144 t (st145 _ k)
      have c160 : ∀ t, Steps p.tables e below (T145.setTop (mkF m 73 #[.val (.long sa), .second, .val (.long sb), .second, .val (.int fl), .val (.int p4), .val (.int (0 : Int32)), .val (.int (1 : Int32)), .val (.ref oa), .val (.ref ob), .unset, .unset, .unset] [(.ref oc), (.ref oc)])) t → Steps p.tables e below (s₁.setTop (entryFrame m #[(.long sa), (.long sb), (.int fl), (.int p4)] maxLocals)) t := fun t k => c159 t (by
        show Steps p.tables e below (T145.setTop (mkF m 72 #[.val (.long sa), .second, .val (.long sb), .second, .val (.int fl), .val (.int p4), .val (.int (0 : Int32)), .val (.int (1 : Int32)), .val (.ref oa), .val (.ref ob), .unset, .unset, .unset] [(.ref oc)])) _
        refine XS.dup X145.here hx rfl (hb hby at_72) rfl rfl ?_
        show Steps p.tables e below (T145.setTop (mkF m 73 #[.val (.long sa), .second, .val (.long sb), .second, .val (.int fl), .val (.int p4), .val (.int (0 : Int32)), .val (.int (1 : Int32)), .val (.ref oa), .val (.ref ob), .unset, .unset, .unset] [(.ref oc), (.ref oc)])) _
        exact k)
      obtain ⟨s3, T161, h161, q161, X161, e161, E161, S161, kk161, Zz161, Ow161, st161⟩ := ldcS (s := s) (vm0 := T126.vm) X145 hx hZ hown (hw _ (List.mem_of_getElem? (i := 27) rfl)) (fun d hd => hw d (strW d hd)) e145 S126 (Nat.le_trans (Nat.le_trans kk126 K137.1) E145.1) (g := (mkF m 73 #[.val (.long sa), .second, .val (.long sb), .second, .val (.int fl), .val (.int p4), .val (.int (0 : Int32)), .val (.int (1 : Int32)), .val (.ref oa), .val (.ref ob), .unset, .unset, .unset] [(.ref oc), (.ref oc)])) rfl (hb hby at_73) (n := 4) (by decide) (by decide) (by decide) (by decide)
      have hZ := Zz161
      have hown := Ow161
      have F162 : Exa Z h161 oa "com/example/detectability/detectability/ProteinAbundance" := (F146.ext E161)
      have F163 : Fld Z h161 oa "com/example/detectability/detectability/ProteinAbundance" "name" "Ljava/lang/String;" (.ref s1) := (F147.ext E161)
      have F164 : Fld Z h161 oa "com/example/detectability/detectability/ProteinAbundance" "spectra" "J" (.long sa) := (F148.ext E161)
      have F165 : Fld Z h161 oa "com/example/detectability/detectability/ProteinAbundance" "abundance" "D" (.double da) := (F149.ext E161)
      have F166 : Exa Z h161 ob "com/example/detectability/detectability/ProteinAbundance" := (F150.ext E161)
      have F167 : Fld Z h161 ob "com/example/detectability/detectability/ProteinAbundance" "name" "Ljava/lang/String;" (.ref s2) := (F151.ext E161)
      have F168 : Fld Z h161 ob "com/example/detectability/detectability/ProteinAbundance" "spectra" "J" (.long sb) := (F152.ext E161)
      have F169 : Fld Z h161 ob "com/example/detectability/detectability/ProteinAbundance" "abundance" "D" (.double db) := (F153.ext E161)
      have F170 : Exa Z h161 oc "com/example/detectability/detectability/ComparedProtein" := (A145.ext E161)
      have F171 : Fld Z h161 oc "com/example/detectability/detectability/ComparedProtein" "name" "Ljava/lang/String;" .null := (F154.ext E161)
      have F172 : Fld Z h161 oc "com/example/detectability/detectability/ComparedProtein" "inA" "Lcom/example/detectability/detectability/ProteinAbundance;" .null := (F155.ext E161)
      have F173 : Fld Z h161 oc "com/example/detectability/detectability/ComparedProtein" "inB" "Lcom/example/detectability/detectability/ProteinAbundance;" .null := (F156.ext E161)
      have F174 : Fld Z h161 oc "com/example/detectability/detectability/ComparedProtein" "z" "D" (.double (0 : UInt64)) := (F157.ext E161)
      have F175 : Fld Z h161 oc "com/example/detectability/detectability/ComparedProtein" "p" "D" (.double (0 : UInt64)) := (F158.ext E161)
      have c176 : ∀ t, Steps p.tables e below (T161.setTop (mkF m 75 #[.val (.long sa), .second, .val (.long sb), .second, .val (.int fl), .val (.int p4), .val (.int (0 : Int32)), .val (.int (1 : Int32)), .val (.ref oa), .val (.ref ob), .unset, .unset, .unset] [(.ref s3), (.ref oc), (.ref oc)])) t → Steps p.tables e below (s₁.setTop (entryFrame m #[(.long sa), (.long sb), (.int fl), (.int p4)] maxLocals)) t := fun t k => c160 t (st161 _ k)
      have c177 : ∀ t, Steps p.tables e below (T161.setTop (mkF m 99 #[.val (.long sa), .second, .val (.long sb), .second, .val (.int fl), .val (.int p4), .val (.int (0 : Int32)), .val (.int (1 : Int32)), .val (.ref oa), .val (.ref ob), .unset, .unset, .unset] [(.double FP.dconst0), (.double FP.dconst0), (.ref ob), .null, (.ref s3), (.ref oc), (.ref oc)])) t → Steps p.tables e below (s₁.setTop (entryFrame m #[(.long sa), (.long sb), (.int fl), (.int p4)] maxLocals)) t := fun t k => c176 t (by
        show Steps p.tables e below (T161.setTop (mkF m 75 #[.val (.long sa), .second, .val (.long sb), .second, .val (.int fl), .val (.int p4), .val (.int (0 : Int32)), .val (.int (1 : Int32)), .val (.ref oa), .val (.ref ob), .unset, .unset, .unset] [(.ref s3), (.ref oc), (.ref oc)])) _
        refine XS.iload X161.here hx rfl (hb hby at_75) rfl ?_
        show Steps p.tables e below (T161.setTop (mkF m 77 #[.val (.long sa), .second, .val (.long sb), .second, .val (.int fl), .val (.int p4), .val (.int (0 : Int32)), .val (.int (1 : Int32)), .val (.ref oa), .val (.ref ob), .unset, .unset, .unset] [(.int (0 : Int32)), (.ref s3), (.ref oc), (.ref oc)])) _
        refine XS.ifYes X161.here hx rfl (pc0 := 77) (pc' := 85) rfl (hb hby at_77) rfl (XT.i0_eq_t (by decide)) (by decide) (by decide) ?_
        show Steps p.tables e below (T161.setTop (mkF m 85 #[.val (.long sa), .second, .val (.long sb), .second, .val (.int fl), .val (.int p4), .val (.int (0 : Int32)), .val (.int (1 : Int32)), .val (.ref oa), .val (.ref ob), .unset, .unset, .unset] [(.ref s3), (.ref oc), (.ref oc)])) _
        refine XS.aconstNull X161.here hx rfl (hb hby at_85) ?_
        show Steps p.tables e below (T161.setTop (mkF m 86 #[.val (.long sa), .second, .val (.long sb), .second, .val (.int fl), .val (.int p4), .val (.int (0 : Int32)), .val (.int (1 : Int32)), .val (.ref oa), .val (.ref ob), .unset, .unset, .unset] [.null, (.ref s3), (.ref oc), (.ref oc)])) _
        refine XS.iload X161.here hx rfl (hb hby at_86) rfl ?_
        show Steps p.tables e below (T161.setTop (mkF m 88 #[.val (.long sa), .second, .val (.long sb), .second, .val (.int fl), .val (.int p4), .val (.int (0 : Int32)), .val (.int (1 : Int32)), .val (.ref oa), .val (.ref ob), .unset, .unset, .unset] [(.int (1 : Int32)), .null, (.ref s3), (.ref oc), (.ref oc)])) _
        refine XS.ifNo X161.here hx rfl (hb hby at_88) rfl (XT.i0_eq_f (by decide)) ?_
        show Steps p.tables e below (T161.setTop (mkF m 91 #[.val (.long sa), .second, .val (.long sb), .second, .val (.int fl), .val (.int p4), .val (.int (0 : Int32)), .val (.int (1 : Int32)), .val (.ref oa), .val (.ref ob), .unset, .unset, .unset] [.null, (.ref s3), (.ref oc), (.ref oc)])) _
        refine XS.aload X161.here hx rfl (hb hby at_91) rfl rfl ?_
        show Steps p.tables e below (T161.setTop (mkF m 93 #[.val (.long sa), .second, .val (.long sb), .second, .val (.int fl), .val (.int p4), .val (.int (0 : Int32)), .val (.int (1 : Int32)), .val (.ref oa), .val (.ref ob), .unset, .unset, .unset] [(.ref ob), .null, (.ref s3), (.ref oc), (.ref oc)])) _
        refine XS.goto X161.here hx rfl (pc0 := 93) (pc' := 97) rfl (hb hby at_93) (by decide) (by decide) ?_
        show Steps p.tables e below (T161.setTop (mkF m 97 #[.val (.long sa), .second, .val (.long sb), .second, .val (.int fl), .val (.int p4), .val (.int (0 : Int32)), .val (.int (1 : Int32)), .val (.ref oa), .val (.ref ob), .unset, .unset, .unset] [(.ref ob), .null, (.ref s3), (.ref oc), (.ref oc)])) _
        refine XS.dconst0 X161.here hx rfl (hb hby at_97) rfl ?_
        show Steps p.tables e below (T161.setTop (mkF m 98 #[.val (.long sa), .second, .val (.long sb), .second, .val (.int fl), .val (.int p4), .val (.int (0 : Int32)), .val (.int (1 : Int32)), .val (.ref oa), .val (.ref ob), .unset, .unset, .unset] [(.double FP.dconst0), (.ref ob), .null, (.ref s3), (.ref oc), (.ref oc)])) _
        refine XS.dconst0 X161.here hx rfl (hb hby at_98) rfl ?_
        show Steps p.tables e below (T161.setTop (mkF m 99 #[.val (.long sa), .second, .val (.long sb), .second, .val (.int fl), .val (.int p4), .val (.int (0 : Int32)), .val (.int (1 : Int32)), .val (.ref oa), .val (.ref ob), .unset, .unset, .unset] [(.double FP.dconst0), (.double FP.dconst0), (.ref ob), .null, (.ref s3), (.ref oc), (.ref oc)])) _
        exact k)
      obtain ⟨_, _, ⟨T178, L178, k178', n178⟩, -, X178, ⟨Lc178, hQ178, l178, y178, z178⟩, st178⟩ := X161.specialBack hx (y := (⟨"com/example/detectability/detectability/ComparedProtein", "<init>", "(Ljava/lang/String;Lcom/example/detectability/detectability/ProteinAbundance;Lcom/example/detectability/detectability/ProteinAbundance;DD)V"⟩ : MethodName)) rfl hown (mvT hZ (hw _ (List.mem_of_getElem? (i := 28) rfl))) (mvT hZ (hw _ (List.mem_of_getElem? (i := 29) rfl))) (mvT hZ (hw _ (List.mem_of_getElem? (i := 30) rfl))) (by decide) (backOf (W := 1) (rm_ci01 l Z a0 hw [] oc s3 ob FP.dconst0 FP.dconst0 h161 n0 (Nat.le_trans (Nat.le_trans (Nat.le_trans (Nat.le_trans (Nat.le_trans (Nat.le_trans (Nat.le_trans (Nat.le_trans Z0 E99.1) E105.1) K112.1) E116.1) E126.1) K137.1) E145.1) E161.1) F170 F171 F172 F173 F174 F175 (Nat.le_trans (Nat.le_trans (Nat.le_trans (Nat.le_trans (Nat.le_trans (Nat.le_trans (Nat.le_trans Z0 E99.1) E105.1) K112.1) E116.1) E126.1) K137.1) (Nat.le_of_eq g145.symm))) hZ (hw _ (List.mem_of_getElem? (i := 30) rfl)) (hw _ (List.mem_of_getElem? (i := 26) rfl)) (by decide) (by decide)) (g := (mkF m 99 #[.val (.long sa), .second, .val (.long sb), .second, .val (.int fl), .val (.int p4), .val (.int (0 : Int32)), .val (.int (1 : Int32)), .val (.ref oa), .val (.ref ob), .unset, .unset, .unset] [(.double FP.dconst0), (.double FP.dconst0), (.ref ob), .null, (.ref s3), (.ref oc), (.ref oc)])) rfl (by rw [hml]; rfl) (Steps.refl _) (a := oc) (argsL := [(.ref s3), .null, (.ref ob), (.double FP.dconst0), (.double FP.dconst0)]) (rest := [(.ref oc)]) (lenOf pd__Ljava_lang_String_Lcom_example_detectability_detectability_ProteinAbundance_Lcom_example_detectability_detectability_ProteinAbundance_DD_V rfl) rfl (by show 2 * 0 + _ ≤ _; exact Nat.le_of_eq rfl) (hb hby at_99) (fun _ _ => ⟨rfl, e161, (by decide : 9 + 0 ≤ _), (by decide : 35 + 0 ≤ _)⟩)
      dsimp only [Pt.U, Pt.locs, Pt.cells, Pt.slots] at X178 l178 y178 z178 st178 hQ178
      subst l178 y178 z178
      obtain ⟨rfl, N178, K178, G178_0, G178_1, G178_2, G178_3, G178_4, G178_5⟩ := hQ178
      have M178 := Fr.app M137 N178
      have F179 : Exa Z T178.heap oa "com/example/detectability/detectability/ProteinAbundance" := (F162.keep K178)
      have F180 : Fld Z T178.heap oa "com/example/detectability/detectability/ProteinAbundance" "name" "Ljava/lang/String;" (.ref s1) := (F163.keep K178 (ninS (Nat.ne_of_lt (Nat.lt_of_lt_of_le F138.lt (Nat.le_of_eq g145.symm))) nin0))
      have F181 : Fld Z T178.heap oa "com/example/detectability/detectability/ProteinAbundance" "spectra" "J" (.long sa) := (F164.keep K178 (ninS (Nat.ne_of_lt (Nat.lt_of_lt_of_le F138.lt (Nat.le_of_eq g145.symm))) nin0))
      have F182 : Fld Z T178.heap oa "com/example/detectability/detectability/ProteinAbundance" "abundance" "D" (.double da) := (F165.keep K178 (ninS (Nat.ne_of_lt (Nat.lt_of_lt_of_le F138.lt (Nat.le_of_eq g145.symm))) nin0))
      have F183 : Exa Z T178.heap ob "com/example/detectability/detectability/ProteinAbundance" := (F166.keep K178)
      have F184 : Fld Z T178.heap ob "com/example/detectability/detectability/ProteinAbundance" "name" "Ljava/lang/String;" (.ref s2) := (F167.keep K178 (ninS (Nat.ne_of_lt (Nat.lt_of_lt_of_le G137_0.lt (Nat.le_of_eq g145.symm))) nin0))
      have F185 : Fld Z T178.heap ob "com/example/detectability/detectability/ProteinAbundance" "spectra" "J" (.long sb) := (F168.keep K178 (ninS (Nat.ne_of_lt (Nat.lt_of_lt_of_le G137_0.lt (Nat.le_of_eq g145.symm))) nin0))
      have F186 : Fld Z T178.heap ob "com/example/detectability/detectability/ProteinAbundance" "abundance" "D" (.double db) := (F169.keep K178 (ninS (Nat.ne_of_lt (Nat.lt_of_lt_of_le G137_0.lt (Nat.le_of_eq g145.symm))) nin0))
      have F187 : Exa Z T178.heap oc "com/example/detectability/detectability/ComparedProtein" := (F170.keep K178)
      have c188 : ∀ t, Steps p.tables e below (T178.setTop (mkF m 102 #[.val (.long sa), .second, .val (.long sb), .second, .val (.int fl), .val (.int p4), .val (.int (0 : Int32)), .val (.int (1 : Int32)), .val (.ref oa), .val (.ref ob), .unset, .unset, .unset] [(.ref oc)])) t → Steps p.tables e below (s₁.setTop (entryFrame m #[(.long sa), (.long sb), (.int fl), (.int p4)] maxLocals)) t := fun t k => c177 t (st178.trans k)
      have c189 : ∀ t, Steps p.tables e below (T178.setTop (mkF m 118 #[.val (.long sa), .second, .val (.long sb), .second, .val (.int fl), .val (.int p4), .val (.int (0 : Int32)), .val (.int (1 : Int32)), .val (.ref oa), .val (.ref ob), .val (.ref oc), .val (.long (0 : Int64)), .second] [(.ref oc)])) t → Steps p.tables e below (s₁.setTop (entryFrame m #[(.long sa), (.long sb), (.int fl), (.int p4)] maxLocals)) t := fun t k => c188 t (by
        show Steps p.tables e below (T178.setTop (mkF m 102 #[.val (.long sa), .second, .val (.long sb), .second, .val (.int fl), .val (.int p4), .val (.int (0 : Int32)), .val (.int (1 : Int32)), .val (.ref oa), .val (.ref ob), .unset, .unset, .unset] [(.ref oc)])) _
        refine XS.astore X178.here hx rfl (hb hby at_102) rfl rfl (l' := #[.val (.long sa), .second, .val (.long sb), .second, .val (.int fl), .val (.int p4), .val (.int (0 : Int32)), .val (.int (1 : Int32)), .val (.ref oa), .val (.ref ob), .val (.ref oc), .unset, .unset]) rfl ?_
        show Steps p.tables e below (T178.setTop (mkF m 104 #[.val (.long sa), .second, .val (.long sb), .second, .val (.int fl), .val (.int p4), .val (.int (0 : Int32)), .val (.int (1 : Int32)), .val (.ref oa), .val (.ref ob), .val (.ref oc), .unset, .unset] [])) _
        refine XS.iload X178.here hx rfl (hb hby at_104) rfl ?_
        show Steps p.tables e below (T178.setTop (mkF m 106 #[.val (.long sa), .second, .val (.long sb), .second, .val (.int fl), .val (.int p4), .val (.int (0 : Int32)), .val (.int (1 : Int32)), .val (.ref oa), .val (.ref ob), .val (.ref oc), .unset, .unset] [(.int (0 : Int32))])) _
        refine XS.ifYes X178.here hx rfl (pc0 := 106) (pc' := 113) rfl (hb hby at_106) rfl (XT.i0_eq_t (by decide)) (by decide) (by decide) ?_
        show Steps p.tables e below (T178.setTop (mkF m 113 #[.val (.long sa), .second, .val (.long sb), .second, .val (.int fl), .val (.int p4), .val (.int (0 : Int32)), .val (.int (1 : Int32)), .val (.ref oa), .val (.ref ob), .val (.ref oc), .unset, .unset] [])) _
        refine XT.lconst X178.here hx rfl (hb hby at_113) ?_
        show Steps p.tables e below (T178.setTop (mkF m 114 #[.val (.long sa), .second, .val (.long sb), .second, .val (.int fl), .val (.int p4), .val (.int (0 : Int32)), .val (.int (1 : Int32)), .val (.ref oa), .val (.ref ob), .val (.ref oc), .unset, .unset] [(.long (0 : Int64))])) _
        refine XT.lstore X178.here hx rfl (hb hby at_114) rfl (l' := #[.val (.long sa), .second, .val (.long sb), .second, .val (.int fl), .val (.int p4), .val (.int (0 : Int32)), .val (.int (1 : Int32)), .val (.ref oa), .val (.ref ob), .val (.ref oc), .val (.long (0 : Int64)), .second]) rfl ?_
        show Steps p.tables e below (T178.setTop (mkF m 116 #[.val (.long sa), .second, .val (.long sb), .second, .val (.int fl), .val (.int p4), .val (.int (0 : Int32)), .val (.int (1 : Int32)), .val (.ref oa), .val (.ref ob), .val (.ref oc), .val (.long (0 : Int64)), .second] [])) _
        refine XS.aload X178.here hx rfl (hb hby at_116) rfl rfl ?_
        show Steps p.tables e below (T178.setTop (mkF m 118 #[.val (.long sa), .second, .val (.long sb), .second, .val (.int fl), .val (.int p4), .val (.int (0 : Int32)), .val (.int (1 : Int32)), .val (.ref oa), .val (.ref ob), .val (.ref oc), .val (.long (0 : Int64)), .second] [(.ref oc)])) _
        exact k)
      obtain ⟨cq190, kq190, q190a, q190b, q190c⟩ := isOf hZ rfl G178_0
      obtain ⟨_, _, ⟨T190, L190, k190', n190⟩, -, X190, ⟨Lc190, hQ190, l190, y190, z190⟩, st190⟩ := X178.virtualBack hx (y := (⟨"com/example/detectability/detectability/ComparedProtein", "getSpectraA", "()J"⟩ : MethodName)) (z := (⟨"com/example/detectability/detectability/ComparedProtein", "getSpectraA", "()J"⟩ : MethodName)) hown (mvT hZ (hw _ (List.mem_of_getElem? (i := 42) rfl))) (mvT hZ (hw _ (List.mem_of_getElem? (i := 43) rfl))) (notFace_of_selects (args := #[]) (mvT hZ (hw _ (List.mem_of_getElem? (i := 45) rfl)))) (mvT hZ (hw _ (List.mem_of_getElem? (i := 45) rfl))) (mvT hZ (hw _ (List.mem_of_getElem? (i := 44) rfl))) (by decide) (backOf (W := 0) (rm_cg0 l Z a0 hw [] oc T178.heap n0 (Nat.le_trans (Nat.le_trans (Nat.le_trans (Nat.le_trans (Nat.le_trans (Nat.le_trans (Nat.le_trans (Nat.le_trans (Nat.le_trans Z0 E99.1) E105.1) K112.1) E116.1) E126.1) K137.1) E145.1) E161.1) K178.1) G178_2) hZ (hw _ (List.mem_of_getElem? (i := 46) rfl)) (hw _ (List.mem_of_getElem? (i := 26) rfl)) (by decide) (by decide)) q190a q190c (g := (mkF m 118 #[.val (.long sa), .second, .val (.long sb), .second, .val (.int fl), .val (.int p4), .val (.int (0 : Int32)), .val (.int (1 : Int32)), .val (.ref oa), .val (.ref ob), .val (.ref oc), .val (.long (0 : Int64)), .second] [(.ref oc)])) rfl (by rw [hml]; rfl) (Steps.refl _) (argsL := []) (rest := []) (lenOf pd___J rfl) rfl (by show 2 * 0 + _ ≤ _; exact Nat.le_of_eq rfl) (hb hby at_118) (fun _ _ => ⟨rfl, rfl, (by decide : 9 + 0 ≤ _), (by decide : 35 + 0 ≤ _)⟩)
      dsimp only [Pt.U, Pt.locs, Pt.cells, Pt.slots] at X190 l190 y190 z190 st190 hQ190
      subst l190 y190 z190
      obtain ⟨rfl, N190, e190⟩ := hQ190
      have M190 := Fr.app M178 N190
      have c191 : ∀ t, Steps p.tables e below (T190.setTop (mkF m 121 #[.val (.long sa), .second, .val (.long sb), .second, .val (.int fl), .val (.int p4), .val (.int (0 : Int32)), .val (.int (1 : Int32)), .val (.ref oa), .val (.ref ob), .val (.ref oc), .val (.long (0 : Int64)), .second] [(.long (0 : Int64))])) t → Steps p.tables e below (s₁.setTop (entryFrame m #[(.long sa), (.long sb), (.int fl), (.int p4)] maxLocals)) t := fun t k => c189 t (st190.trans k)
      have c192 : ∀ t, Steps p.tables e below (T190.setTop (mkF m 132 #[.val (.long sa), .second, .val (.long sb), .second, .val (.int fl), .val (.int p4), .val (.int (0 : Int32)), .val (.int (1 : Int32)), .val (.ref oa), .val (.ref ob), .val (.ref oc), .val (.long (0 : Int64)), .second] [(.int (1 : Int32))])) t → Steps p.tables e below (s₁.setTop (entryFrame m #[(.long sa), (.long sb), (.int fl), (.int p4)] maxLocals)) t := fun t k => c191 t (by
        show Steps p.tables e below (T190.setTop (mkF m 121 #[.val (.long sa), .second, .val (.long sb), .second, .val (.int fl), .val (.int p4), .val (.int (0 : Int32)), .val (.int (1 : Int32)), .val (.ref oa), .val (.ref ob), .val (.ref oc), .val (.long (0 : Int64)), .second] [(.long (0 : Int64))])) _
        refine XT.lload X190.here hx rfl (hb hby at_121) rfl ?_
        show Steps p.tables e below (T190.setTop (mkF m 123 #[.val (.long sa), .second, .val (.long sb), .second, .val (.int fl), .val (.int p4), .val (.int (0 : Int32)), .val (.int (1 : Int32)), .val (.ref oa), .val (.ref ob), .val (.ref oc), .val (.long (0 : Int64)), .second] [(.long (0 : Int64)), (.long (0 : Int64))])) _
        refine XT.lcmp X190.here hx rfl (hb hby at_123) rfl ?_
        show Steps p.tables e below (T190.setTop (mkF m 124 #[.val (.long sa), .second, .val (.long sb), .second, .val (.int fl), .val (.int p4), .val (.int (0 : Int32)), .val (.int (1 : Int32)), .val (.ref oa), .val (.ref ob), .val (.ref oc), .val (.long (0 : Int64)), .second] [(.int (XT.cmpL (0 : Int64) (0 : Int64)))])) _
        refine XS.ifNo X190.here hx rfl (hb hby at_124) rfl (XT.ll_ne_f (rfl)) ?_
        show Steps p.tables e below (T190.setTop (mkF m 127 #[.val (.long sa), .second, .val (.long sb), .second, .val (.int fl), .val (.int p4), .val (.int (0 : Int32)), .val (.int (1 : Int32)), .val (.ref oa), .val (.ref ob), .val (.ref oc), .val (.long (0 : Int64)), .second] [])) _
        refine XS.iconst X190.here hx rfl (hb hby at_127) ?_
        show Steps p.tables e below (T190.setTop (mkF m 128 #[.val (.long sa), .second, .val (.long sb), .second, .val (.int fl), .val (.int p4), .val (.int (0 : Int32)), .val (.int (1 : Int32)), .val (.ref oa), .val (.ref ob), .val (.ref oc), .val (.long (0 : Int64)), .second] [(.int (1 : Int32))])) _
        refine XS.goto X190.here hx rfl (pc0 := 128) (pc' := 132) rfl (hb hby at_128) (by decide) (by decide) ?_
        show Steps p.tables e below (T190.setTop (mkF m 132 #[.val (.long sa), .second, .val (.long sb), .second, .val (.int fl), .val (.int p4), .val (.int (0 : Int32)), .val (.int (1 : Int32)), .val (.ref oa), .val (.ref ob), .val (.ref oc), .val (.long (0 : Int64)), .second] [(.int (1 : Int32))])) _
        exact k)
      have hsz : q161 ≤ T190.heap.size := by rw [e190]; exact (Nat.le_trans kk161 K178.1)
      obtain ⟨fs, hr, hrun, hended, hRW⟩ := Jvm.Stand.leaveW (s := s) (vm₁ := T161.vm) X190 S161 hsz (v := (some (.int (1 : Int32)))) (fun h => by rw [Bd.returns] at h; cases h)
      refine ⟨_, _, pre0 _ (c192 _ (retN X190 hx (t := .boolean) Bd.returns (by simp) (hb hby at_132) hr)), hrun, hended, _, _, rfl, ?_, hRW.1, hRW.2.1, hRW.2.2.1, hRW.2.2.2.mono (by decide) (by decide)⟩
      show Q_0 Z sa sb fl p4 h0 n0 _ T190.heap _
      rw [e190]
      exact ⟨rfl, M190⟩
  · skip
    have c193 : ∀ t, Steps p.tables e below (s₁.setTop (mkF m 18 #[.val (.long sa), .second, .val (.long sb), .second, .val (.int fl), .val (.int p4), .val (.int (1 : Int32)), .unset, .unset, .unset, .unset, .unset, .unset] [(.int (fl &&& (2 : Int32)))])) t → Steps p.tables e below (s₁.setTop (entryFrame m #[(.long sa), (.long sb), (.int fl), (.int p4)] maxLocals)) t := fun t k => c1 t (by
      show Steps p.tables e below (s₁.setTop (mkF m 4 #[.val (.long sa), .second, .val (.long sb), .second, .val (.int fl), .val (.int p4), .unset, .unset, .unset, .unset, .unset, .unset, .unset] [(.int (fl &&& (1 : Int32)))])) _
      refine XS.ifNo X0.here hx rfl (hb hby at_4) rfl (XT.i0_eq_f qa) ?_
      show Steps p.tables e below (s₁.setTop (mkF m 7 #[.val (.long sa), .second, .val (.long sb), .second, .val (.int fl), .val (.int p4), .unset, .unset, .unset, .unset, .unset, .unset, .unset] [])) _
      refine XS.iconst X0.here hx rfl (hb hby at_7) ?_
      show Steps p.tables e below (s₁.setTop (mkF m 8 #[.val (.long sa), .second, .val (.long sb), .second, .val (.int fl), .val (.int p4), .unset, .unset, .unset, .unset, .unset, .unset, .unset] [(.int (1 : Int32))])) _
      refine XS.goto X0.here hx rfl (pc0 := 8) (pc' := 12) rfl (hb hby at_8) (by decide) (by decide) ?_
      show Steps p.tables e below (s₁.setTop (mkF m 12 #[.val (.long sa), .second, .val (.long sb), .second, .val (.int fl), .val (.int p4), .unset, .unset, .unset, .unset, .unset, .unset, .unset] [(.int (1 : Int32))])) _
      refine XS.istore X0.here hx rfl (hb hby at_12) rfl (l' := #[.val (.long sa), .second, .val (.long sb), .second, .val (.int fl), .val (.int p4), .val (.int (1 : Int32)), .unset, .unset, .unset, .unset, .unset, .unset]) rfl ?_
      show Steps p.tables e below (s₁.setTop (mkF m 14 #[.val (.long sa), .second, .val (.long sb), .second, .val (.int fl), .val (.int p4), .val (.int (1 : Int32)), .unset, .unset, .unset, .unset, .unset, .unset] [])) _
      refine XS.iload X0.here hx rfl (hb hby at_14) rfl ?_
      show Steps p.tables e below (s₁.setTop (mkF m 16 #[.val (.long sa), .second, .val (.long sb), .second, .val (.int fl), .val (.int p4), .val (.int (1 : Int32)), .unset, .unset, .unset, .unset, .unset, .unset] [(.int fl)])) _
      refine XS.iconst X0.here hx rfl (hb hby at_16) ?_
      show Steps p.tables e below (s₁.setTop (mkF m 17 #[.val (.long sa), .second, .val (.long sb), .second, .val (.int fl), .val (.int p4), .val (.int (1 : Int32)), .unset, .unset, .unset, .unset, .unset, .unset] [(.int (2 : Int32)), (.int fl)])) _
      refine XS.iand X0.here hx rfl (hb hby at_17) rfl ?_
      show Steps p.tables e below (s₁.setTop (mkF m 18 #[.val (.long sa), .second, .val (.long sb), .second, .val (.int fl), .val (.int p4), .val (.int (1 : Int32)), .unset, .unset, .unset, .unset, .unset, .unset] [(.int (fl &&& (2 : Int32)))])) _
      exact k)
    by_cases qb : (fl &&& (2 : Int32)) = 0
    · skip
      have c194 : ∀ t, Steps p.tables e below (s₁.setTop (mkF m 28 #[.val (.long sa), .second, .val (.long sb), .second, .val (.int fl), .val (.int p4), .val (.int (1 : Int32)), .val (.int (0 : Int32)), .unset, .unset, .unset, .unset, .unset] [])) t → Steps p.tables e below (s₁.setTop (entryFrame m #[(.long sa), (.long sb), (.int fl), (.int p4)] maxLocals)) t := fun t k => c193 t (by
        show Steps p.tables e below (s₁.setTop (mkF m 18 #[.val (.long sa), .second, .val (.long sb), .second, .val (.int fl), .val (.int p4), .val (.int (1 : Int32)), .unset, .unset, .unset, .unset, .unset, .unset] [(.int (fl &&& (2 : Int32)))])) _
        refine XS.ifYes X0.here hx rfl (pc0 := 18) (pc' := 25) rfl (hb hby at_18) rfl (XT.i0_eq_t qb) (by decide) (by decide) ?_
        show Steps p.tables e below (s₁.setTop (mkF m 25 #[.val (.long sa), .second, .val (.long sb), .second, .val (.int fl), .val (.int p4), .val (.int (1 : Int32)), .unset, .unset, .unset, .unset, .unset, .unset] [])) _
        refine XS.iconst X0.here hx rfl (hb hby at_25) ?_
        show Steps p.tables e below (s₁.setTop (mkF m 26 #[.val (.long sa), .second, .val (.long sb), .second, .val (.int fl), .val (.int p4), .val (.int (1 : Int32)), .unset, .unset, .unset, .unset, .unset, .unset] [(.int (0 : Int32))])) _
        refine XS.istore X0.here hx rfl (hb hby at_26) rfl (l' := #[.val (.long sa), .second, .val (.long sb), .second, .val (.int fl), .val (.int p4), .val (.int (1 : Int32)), .val (.int (0 : Int32)), .unset, .unset, .unset, .unset, .unset]) rfl ?_
        show Steps p.tables e below (s₁.setTop (mkF m 28 #[.val (.long sa), .second, .val (.long sb), .second, .val (.int fl), .val (.int p4), .val (.int (1 : Int32)), .val (.int (0 : Int32)), .unset, .unset, .unset, .unset, .unset] [])) _
        exact k)
      obtain ⟨T195, h195, X195, e195, E195, A195, D195, -, st195⟩ := newO X0 hx hZ hown (hw _ (List.mem_of_getElem? (i := 0) rfl)) (hw _ (List.mem_of_getElem? (i := 1) rfl)) (hw _ (List.mem_of_getElem? (i := 2) rfl)) e0 (g := (mkF m 28 #[.val (.long sa), .second, .val (.long sb), .second, .val (.int fl), .val (.int p4), .val (.int (1 : Int32)), .val (.int (0 : Int32)), .unset, .unset, .unset, .unset, .unset] [])) rfl (hb hby at_28) (by decide) (by decide)
      obtain ⟨oa, g195⟩ : ∃ z, z = h0.size := ⟨_, rfl⟩
      rw [← g195] at A195 D195 st195
      have F196 : Fld Z h195 oa "com/example/detectability/detectability/ProteinAbundance" "name" "Ljava/lang/String;" .null := (D195 (Or.inr (hw _ (List.mem_of_getElem? (i := 18) rfl))) (ty := (.object "java/lang/String")) (by decide))
      have F197 : Fld Z h195 oa "com/example/detectability/detectability/ProteinAbundance" "spectra" "J" (.long (0 : Int64)) := (D195 (Or.inr (hw _ (List.mem_of_getElem? (i := 20) rfl))) (ty := .long) (by decide))
      have F198 : Fld Z h195 oa "com/example/detectability/detectability/ProteinAbundance" "abundance" "D" (.double (0 : UInt64)) := (D195 (Or.inr (hw _ (List.mem_of_getElem? (i := 22) rfl))) (ty := .double) (by decide))
      have c199 : ∀ t, Steps p.tables e below (T195.setTop (mkF m 31 #[.val (.long sa), .second, .val (.long sb), .second, .val (.int fl), .val (.int p4), .val (.int (1 : Int32)), .val (.int (0 : Int32)), .unset, .unset, .unset, .unset, .unset] [(.ref oa)])) t → Steps p.tables e below (s₁.setTop (entryFrame m #[(.long sa), (.long sb), (.int fl), (.int p4)] maxLocals)) t := fun t k => c194 t (st195 _ k)
      have c200 : ∀ t, Steps p.tables e below (T195.setTop (mkF m 32 #[.val (.long sa), .second, .val (.long sb), .second, .val (.int fl), .val (.int p4), .val (.int (1 : Int32)), .val (.int (0 : Int32)), .unset, .unset, .unset, .unset, .unset] [(.ref oa), (.ref oa)])) t → Steps p.tables e below (s₁.setTop (entryFrame m #[(.long sa), (.long sb), (.int fl), (.int p4)] maxLocals)) t := fun t k => c199 t (by
        show Steps p.tables e below (T195.setTop (mkF m 31 #[.val (.long sa), .second, .val (.long sb), .second, .val (.int fl), .val (.int p4), .val (.int (1 : Int32)), .val (.int (0 : Int32)), .unset, .unset, .unset, .unset, .unset] [(.ref oa)])) _
        refine XS.dup X195.here hx rfl (hb hby at_31) rfl rfl ?_
        show Steps p.tables e below (T195.setTop (mkF m 32 #[.val (.long sa), .second, .val (.long sb), .second, .val (.int fl), .val (.int p4), .val (.int (1 : Int32)), .val (.int (0 : Int32)), .unset, .unset, .unset, .unset, .unset] [(.ref oa), (.ref oa)])) _
        exact k)
      obtain ⟨s1, T201, h201, q201, X201, e201, E201, S201, kk201, Zz201, Ow201, st201⟩ := ldcS (s := s) (vm0 := s.vm) X195 hx hZ hown (hw _ (List.mem_of_getElem? (i := 3) rfl)) (fun d hd => hw d (strW d hd)) e195 ((State.WarmedH.refl s).since 0) (Nat.zero_le _) (g := (mkF m 32 #[.val (.long sa), .second, .val (.long sb), .second, .val (.int fl), .val (.int p4), .val (.int (1 : Int32)), .val (.int (0 : Int32)), .unset, .unset, .unset, .unset, .unset] [(.ref oa), (.ref oa)])) rfl (hb hby at_32) (n := 4) (by decide) (by decide) (by decide) (by decide)
      have hZ := Zz201
      have hown := Ow201
      have F202 : Exa Z h201 oa "com/example/detectability/detectability/ProteinAbundance" := (A195.ext E201)
      have F203 : Fld Z h201 oa "com/example/detectability/detectability/ProteinAbundance" "name" "Ljava/lang/String;" .null := (F196.ext E201)
      have F204 : Fld Z h201 oa "com/example/detectability/detectability/ProteinAbundance" "spectra" "J" (.long (0 : Int64)) := (F197.ext E201)
      have F205 : Fld Z h201 oa "com/example/detectability/detectability/ProteinAbundance" "abundance" "D" (.double (0 : UInt64)) := (F198.ext E201)
      have c206 : ∀ t, Steps p.tables e below (T201.setTop (mkF m 34 #[.val (.long sa), .second, .val (.long sb), .second, .val (.int fl), .val (.int p4), .val (.int (1 : Int32)), .val (.int (0 : Int32)), .unset, .unset, .unset, .unset, .unset] [(.ref s1), (.ref oa), (.ref oa)])) t → Steps p.tables e below (s₁.setTop (entryFrame m #[(.long sa), (.long sb), (.int fl), (.int p4)] maxLocals)) t := fun t k => c200 t (st201 _ k)
      obtain ⟨da, hda⟩ : ∃ v : UInt64, FP.i2d (p4 &&& (255 : Int32)) = v := ⟨_, rfl⟩
      have c207 : ∀ t, Steps p.tables e below (T201.setTop (mkF m 42 #[.val (.long sa), .second, .val (.long sb), .second, .val (.int fl), .val (.int p4), .val (.int (1 : Int32)), .val (.int (0 : Int32)), .unset, .unset, .unset, .unset, .unset] [(.double da), (.long sa), (.ref s1), (.ref oa), (.ref oa)])) t → Steps p.tables e below (s₁.setTop (entryFrame m #[(.long sa), (.long sb), (.int fl), (.int p4)] maxLocals)) t := fun t k => c206 t (by
        show Steps p.tables e below (T201.setTop (mkF m 34 #[.val (.long sa), .second, .val (.long sb), .second, .val (.int fl), .val (.int p4), .val (.int (1 : Int32)), .val (.int (0 : Int32)), .unset, .unset, .unset, .unset, .unset] [(.ref s1), (.ref oa), (.ref oa)])) _
        refine XT.lloadN X201.here hx rfl (hb hby at_34) rfl ?_
        show Steps p.tables e below (T201.setTop (mkF m 35 #[.val (.long sa), .second, .val (.long sb), .second, .val (.int fl), .val (.int p4), .val (.int (1 : Int32)), .val (.int (0 : Int32)), .unset, .unset, .unset, .unset, .unset] [(.long sa), (.ref s1), (.ref oa), (.ref oa)])) _
        refine XS.iload X201.here hx rfl (hb hby at_35) rfl ?_
        show Steps p.tables e below (T201.setTop (mkF m 37 #[.val (.long sa), .second, .val (.long sb), .second, .val (.int fl), .val (.int p4), .val (.int (1 : Int32)), .val (.int (0 : Int32)), .unset, .unset, .unset, .unset, .unset] [(.int p4), (.long sa), (.ref s1), (.ref oa), (.ref oa)])) _
        refine XS.sipush X201.here hx rfl (hb hby at_37) ?_
        show Steps p.tables e below (T201.setTop (mkF m 40 #[.val (.long sa), .second, .val (.long sb), .second, .val (.int fl), .val (.int p4), .val (.int (1 : Int32)), .val (.int (0 : Int32)), .unset, .unset, .unset, .unset, .unset] [(.int (255 : Int32)), (.int p4), (.long sa), (.ref s1), (.ref oa), (.ref oa)])) _
        refine XS.iand X201.here hx rfl (hb hby at_40) rfl ?_
        show Steps p.tables e below (T201.setTop (mkF m 41 #[.val (.long sa), .second, .val (.long sb), .second, .val (.int fl), .val (.int p4), .val (.int (1 : Int32)), .val (.int (0 : Int32)), .unset, .unset, .unset, .unset, .unset] [(.int (p4 &&& (255 : Int32))), (.long sa), (.ref s1), (.ref oa), (.ref oa)])) _
        refine XS.i2dS X201.here hx rfl (hb hby at_41) rfl hda ?_
        show Steps p.tables e below (T201.setTop (mkF m 42 #[.val (.long sa), .second, .val (.long sb), .second, .val (.int fl), .val (.int p4), .val (.int (1 : Int32)), .val (.int (0 : Int32)), .unset, .unset, .unset, .unset, .unset] [(.double da), (.long sa), (.ref s1), (.ref oa), (.ref oa)])) _
        exact k)
      obtain ⟨_, _, ⟨T208, L208, k208', n208⟩, -, X208, ⟨Lc208, hQ208, l208, y208, z208⟩, st208⟩ := X201.specialBack hx (y := (⟨"com/example/detectability/detectability/ProteinAbundance", "<init>", "(Ljava/lang/String;JD)V"⟩ : MethodName)) rfl hown (mvT hZ (hw _ (List.mem_of_getElem? (i := 11) rfl))) (mvT hZ (hw _ (List.mem_of_getElem? (i := 12) rfl))) (mvT hZ (hw _ (List.mem_of_getElem? (i := 13) rfl))) (by decide) (backOf (W := 1) (rm_pi l Z a0 hw [] oa s1 sa da h201 n0 (Nat.le_trans (Nat.le_trans Z0 E195.1) E201.1) F202 F203 F204 F205 (Nat.le_trans Z0 (Nat.le_of_eq g195.symm))) hZ (hw _ (List.mem_of_getElem? (i := 13) rfl)) (hw _ (List.mem_of_getElem? (i := 2) rfl)) (by decide) (by decide)) (g := (mkF m 42 #[.val (.long sa), .second, .val (.long sb), .second, .val (.int fl), .val (.int p4), .val (.int (1 : Int32)), .val (.int (0 : Int32)), .unset, .unset, .unset, .unset, .unset] [(.double da), (.long sa), (.ref s1), (.ref oa), (.ref oa)])) rfl (by rw [hml]; rfl) (Steps.refl _) (a := oa) (argsL := [(.ref s1), (.long sa), (.double da)]) (rest := [(.ref oa)]) (lenOf pd__Ljava_lang_String_JD_V rfl) rfl (by show 2 * 0 + _ ≤ _; exact Nat.le_of_eq rfl) (hb hby at_42) (fun _ _ => ⟨rfl, e201, (by decide : 3 + 0 ≤ _), (by decide : 11 + 0 ≤ _)⟩)
      dsimp only [Pt.U, Pt.locs, Pt.cells, Pt.slots] at X208 l208 y208 z208 st208 hQ208
      subst l208 y208 z208
      obtain ⟨rfl, N208, K208, G208_0, G208_1, G208_2, G208_3⟩ := hQ208
      have M208 := Fr.app N0 N208
      have F209 : Exa Z T208.heap oa "com/example/detectability/detectability/ProteinAbundance" := (F202.keep K208)
      have c210 : ∀ t, Steps p.tables e below (T208.setTop (mkF m 45 #[.val (.long sa), .second, .val (.long sb), .second, .val (.int fl), .val (.int p4), .val (.int (1 : Int32)), .val (.int (0 : Int32)), .unset, .unset, .unset, .unset, .unset] [(.ref oa)])) t → Steps p.tables e below (s₁.setTop (entryFrame m #[(.long sa), (.long sb), (.int fl), (.int p4)] maxLocals)) t := fun t k => c207 t (st208.trans k)
      have c211 : ∀ t, Steps p.tables e below (T208.setTop (mkF m 47 #[.val (.long sa), .second, .val (.long sb), .second, .val (.int fl), .val (.int p4), .val (.int (1 : Int32)), .val (.int (0 : Int32)), .val (.ref oa), .unset, .unset, .unset, .unset] [])) t → Steps p.tables e below (s₁.setTop (entryFrame m #[(.long sa), (.long sb), (.int fl), (.int p4)] maxLocals)) t := fun t k => c210 t (by
        show Steps p.tables e below (T208.setTop (mkF m 45 #[.val (.long sa), .second, .val (.long sb), .second, .val (.int fl), .val (.int p4), .val (.int (1 : Int32)), .val (.int (0 : Int32)), .unset, .unset, .unset, .unset, .unset] [(.ref oa)])) _
        refine XS.astore X208.here hx rfl (hb hby at_45) rfl rfl (l' := #[.val (.long sa), .second, .val (.long sb), .second, .val (.int fl), .val (.int p4), .val (.int (1 : Int32)), .val (.int (0 : Int32)), .val (.ref oa), .unset, .unset, .unset, .unset]) rfl ?_
        show Steps p.tables e below (T208.setTop (mkF m 47 #[.val (.long sa), .second, .val (.long sb), .second, .val (.int fl), .val (.int p4), .val (.int (1 : Int32)), .val (.int (0 : Int32)), .val (.ref oa), .unset, .unset, .unset, .unset] [])) _
        exact k)
      obtain ⟨T212, h212, X212, e212, E212, A212, D212, -, st212⟩ := newO X208 hx hZ hown (hw _ (List.mem_of_getElem? (i := 0) rfl)) (hw _ (List.mem_of_getElem? (i := 1) rfl)) (hw _ (List.mem_of_getElem? (i := 2) rfl)) rfl (g := (mkF m 47 #[.val (.long sa), .second, .val (.long sb), .second, .val (.int fl), .val (.int p4), .val (.int (1 : Int32)), .val (.int (0 : Int32)), .val (.ref oa), .unset, .unset, .unset, .unset] [])) rfl (hb hby at_47) (by decide) (by decide)
      obtain ⟨ob, g212⟩ : ∃ z, z = T208.heap.size := ⟨_, rfl⟩
      rw [← g212] at A212 D212 st212
      have F213 : Exa Z h212 oa "com/example/detectability/detectability/ProteinAbundance" := (G208_0.ext E212)
      have F214 : Fld Z h212 oa "com/example/detectability/detectability/ProteinAbundance" "name" "Ljava/lang/String;" (.ref s1) := (G208_1.ext E212)
      have F215 : Fld Z h212 oa "com/example/detectability/detectability/ProteinAbundance" "spectra" "J" (.long sa) := (G208_2.ext E212)
      have F216 : Fld Z h212 oa "com/example/detectability/detectability/ProteinAbundance" "abundance" "D" (.double da) := (G208_3.ext E212)
      have F217 : Fld Z h212 ob "com/example/detectability/detectability/ProteinAbundance" "name" "Ljava/lang/String;" .null := (D212 (Or.inr (hw _ (List.mem_of_getElem? (i := 18) rfl))) (ty := (.object "java/lang/String")) (by decide))
      have F218 : Fld Z h212 ob "com/example/detectability/detectability/ProteinAbundance" "spectra" "J" (.long (0 : Int64)) := (D212 (Or.inr (hw _ (List.mem_of_getElem? (i := 20) rfl))) (ty := .long) (by decide))
      have F219 : Fld Z h212 ob "com/example/detectability/detectability/ProteinAbundance" "abundance" "D" (.double (0 : UInt64)) := (D212 (Or.inr (hw _ (List.mem_of_getElem? (i := 22) rfl))) (ty := .double) (by decide))
      have c220 : ∀ t, Steps p.tables e below (T212.setTop (mkF m 50 #[.val (.long sa), .second, .val (.long sb), .second, .val (.int fl), .val (.int p4), .val (.int (1 : Int32)), .val (.int (0 : Int32)), .val (.ref oa), .unset, .unset, .unset, .unset] [(.ref ob)])) t → Steps p.tables e below (s₁.setTop (entryFrame m #[(.long sa), (.long sb), (.int fl), (.int p4)] maxLocals)) t := fun t k => c211 t (st212 _ k)
      have c221 : ∀ t, Steps p.tables e below (T212.setTop (mkF m 51 #[.val (.long sa), .second, .val (.long sb), .second, .val (.int fl), .val (.int p4), .val (.int (1 : Int32)), .val (.int (0 : Int32)), .val (.ref oa), .unset, .unset, .unset, .unset] [(.ref ob), (.ref ob)])) t → Steps p.tables e below (s₁.setTop (entryFrame m #[(.long sa), (.long sb), (.int fl), (.int p4)] maxLocals)) t := fun t k => c220 t (by
        show Steps p.tables e below (T212.setTop (mkF m 50 #[.val (.long sa), .second, .val (.long sb), .second, .val (.int fl), .val (.int p4), .val (.int (1 : Int32)), .val (.int (0 : Int32)), .val (.ref oa), .unset, .unset, .unset, .unset] [(.ref ob)])) _
        refine XS.dup X212.here hx rfl (hb hby at_50) rfl rfl ?_
        show Steps p.tables e below (T212.setTop (mkF m 51 #[.val (.long sa), .second, .val (.long sb), .second, .val (.int fl), .val (.int p4), .val (.int (1 : Int32)), .val (.int (0 : Int32)), .val (.ref oa), .unset, .unset, .unset, .unset] [(.ref ob), (.ref ob)])) _
        exact k)
      obtain ⟨s2, T222, h222, q222, X222, e222, E222, S222, kk222, Zz222, Ow222, st222⟩ := ldcS (s := s) (vm0 := T201.vm) X212 hx hZ hown (hw _ (List.mem_of_getElem? (i := 23) rfl)) (fun d hd => hw d (strW d hd)) e212 S201 (Nat.le_trans (Nat.le_trans kk201 K208.1) E212.1) (g := (mkF m 51 #[.val (.long sa), .second, .val (.long sb), .second, .val (.int fl), .val (.int p4), .val (.int (1 : Int32)), .val (.int (0 : Int32)), .val (.ref oa), .unset, .unset, .unset, .unset] [(.ref ob), (.ref ob)])) rfl (hb hby at_51) (n := 4) (by decide) (by decide) (by decide) (by decide)
      have hZ := Zz222
      have hown := Ow222
      have F223 : Exa Z h222 oa "com/example/detectability/detectability/ProteinAbundance" := (F213.ext E222)
      have F224 : Fld Z h222 oa "com/example/detectability/detectability/ProteinAbundance" "name" "Ljava/lang/String;" (.ref s1) := (F214.ext E222)
      have F225 : Fld Z h222 oa "com/example/detectability/detectability/ProteinAbundance" "spectra" "J" (.long sa) := (F215.ext E222)
      have F226 : Fld Z h222 oa "com/example/detectability/detectability/ProteinAbundance" "abundance" "D" (.double da) := (F216.ext E222)
      have F227 : Exa Z h222 ob "com/example/detectability/detectability/ProteinAbundance" := (A212.ext E222)
      have F228 : Fld Z h222 ob "com/example/detectability/detectability/ProteinAbundance" "name" "Ljava/lang/String;" .null := (F217.ext E222)
      have F229 : Fld Z h222 ob "com/example/detectability/detectability/ProteinAbundance" "spectra" "J" (.long (0 : Int64)) := (F218.ext E222)
      have F230 : Fld Z h222 ob "com/example/detectability/detectability/ProteinAbundance" "abundance" "D" (.double (0 : UInt64)) := (F219.ext E222)
      have c231 : ∀ t, Steps p.tables e below (T222.setTop (mkF m 53 #[.val (.long sa), .second, .val (.long sb), .second, .val (.int fl), .val (.int p4), .val (.int (1 : Int32)), .val (.int (0 : Int32)), .val (.ref oa), .unset, .unset, .unset, .unset] [(.ref s2), (.ref ob), (.ref ob)])) t → Steps p.tables e below (s₁.setTop (entryFrame m #[(.long sa), (.long sb), (.int fl), (.int p4)] maxLocals)) t := fun t k => c221 t (st222 _ k)
      obtain ⟨db, hdb⟩ : ∃ v : UInt64, FP.i2d ((p4 >>> ((8 : Int32) &&& 31)) &&& (255 : Int32)) = v := ⟨_, rfl⟩
      have c232 : ∀ t, Steps p.tables e below (T222.setTop (mkF m 64 #[.val (.long sa), .second, .val (.long sb), .second, .val (.int fl), .val (.int p4), .val (.int (1 : Int32)), .val (.int (0 : Int32)), .val (.ref oa), .unset, .unset, .unset, .unset] [(.double db), (.long sb), (.ref s2), (.ref ob), (.ref ob)])) t → Steps p.tables e below (s₁.setTop (entryFrame m #[(.long sa), (.long sb), (.int fl), (.int p4)] maxLocals)) t := fun t k => c231 t (by
        show Steps p.tables e below (T222.setTop (mkF m 53 #[.val (.long sa), .second, .val (.long sb), .second, .val (.int fl), .val (.int p4), .val (.int (1 : Int32)), .val (.int (0 : Int32)), .val (.ref oa), .unset, .unset, .unset, .unset] [(.ref s2), (.ref ob), (.ref ob)])) _
        refine XT.lloadN X222.here hx rfl (hb hby at_53) rfl ?_
        show Steps p.tables e below (T222.setTop (mkF m 54 #[.val (.long sa), .second, .val (.long sb), .second, .val (.int fl), .val (.int p4), .val (.int (1 : Int32)), .val (.int (0 : Int32)), .val (.ref oa), .unset, .unset, .unset, .unset] [(.long sb), (.ref s2), (.ref ob), (.ref ob)])) _
        refine XS.iload X222.here hx rfl (hb hby at_54) rfl ?_
        show Steps p.tables e below (T222.setTop (mkF m 56 #[.val (.long sa), .second, .val (.long sb), .second, .val (.int fl), .val (.int p4), .val (.int (1 : Int32)), .val (.int (0 : Int32)), .val (.ref oa), .unset, .unset, .unset, .unset] [(.int p4), (.long sb), (.ref s2), (.ref ob), (.ref ob)])) _
        refine XS.bipush X222.here hx rfl (hb hby at_56) ?_
        show Steps p.tables e below (T222.setTop (mkF m 58 #[.val (.long sa), .second, .val (.long sb), .second, .val (.int fl), .val (.int p4), .val (.int (1 : Int32)), .val (.int (0 : Int32)), .val (.ref oa), .unset, .unset, .unset, .unset] [(.int (8 : Int32)), (.int p4), (.long sb), (.ref s2), (.ref ob), (.ref ob)])) _
        refine XT.ishr X222.here hx rfl (hb hby at_58) rfl ?_
        show Steps p.tables e below (T222.setTop (mkF m 59 #[.val (.long sa), .second, .val (.long sb), .second, .val (.int fl), .val (.int p4), .val (.int (1 : Int32)), .val (.int (0 : Int32)), .val (.ref oa), .unset, .unset, .unset, .unset] [(.int (p4 >>> ((8 : Int32) &&& 31))), (.long sb), (.ref s2), (.ref ob), (.ref ob)])) _
        refine XS.sipush X222.here hx rfl (hb hby at_59) ?_
        show Steps p.tables e below (T222.setTop (mkF m 62 #[.val (.long sa), .second, .val (.long sb), .second, .val (.int fl), .val (.int p4), .val (.int (1 : Int32)), .val (.int (0 : Int32)), .val (.ref oa), .unset, .unset, .unset, .unset] [(.int (255 : Int32)), (.int (p4 >>> ((8 : Int32) &&& 31))), (.long sb), (.ref s2), (.ref ob), (.ref ob)])) _
        refine XS.iand X222.here hx rfl (hb hby at_62) rfl ?_
        show Steps p.tables e below (T222.setTop (mkF m 63 #[.val (.long sa), .second, .val (.long sb), .second, .val (.int fl), .val (.int p4), .val (.int (1 : Int32)), .val (.int (0 : Int32)), .val (.ref oa), .unset, .unset, .unset, .unset] [(.int ((p4 >>> ((8 : Int32) &&& 31)) &&& (255 : Int32))), (.long sb), (.ref s2), (.ref ob), (.ref ob)])) _
        refine XS.i2dS X222.here hx rfl (hb hby at_63) rfl hdb ?_
        show Steps p.tables e below (T222.setTop (mkF m 64 #[.val (.long sa), .second, .val (.long sb), .second, .val (.int fl), .val (.int p4), .val (.int (1 : Int32)), .val (.int (0 : Int32)), .val (.ref oa), .unset, .unset, .unset, .unset] [(.double db), (.long sb), (.ref s2), (.ref ob), (.ref ob)])) _
        exact k)
      obtain ⟨_, _, ⟨T233, L233, k233', n233⟩, -, X233, ⟨Lc233, hQ233, l233, y233, z233⟩, st233⟩ := X222.specialBack hx (y := (⟨"com/example/detectability/detectability/ProteinAbundance", "<init>", "(Ljava/lang/String;JD)V"⟩ : MethodName)) rfl hown (mvT hZ (hw _ (List.mem_of_getElem? (i := 11) rfl))) (mvT hZ (hw _ (List.mem_of_getElem? (i := 12) rfl))) (mvT hZ (hw _ (List.mem_of_getElem? (i := 13) rfl))) (by decide) (backOf (W := 1) (rm_pi l Z a0 hw [] ob s2 sb db h222 n0 (Nat.le_trans (Nat.le_trans (Nat.le_trans (Nat.le_trans (Nat.le_trans Z0 E195.1) E201.1) K208.1) E212.1) E222.1) F227 F228 F229 F230 (Nat.le_trans (Nat.le_trans (Nat.le_trans (Nat.le_trans Z0 E195.1) E201.1) K208.1) (Nat.le_of_eq g212.symm))) hZ (hw _ (List.mem_of_getElem? (i := 13) rfl)) (hw _ (List.mem_of_getElem? (i := 2) rfl)) (by decide) (by decide)) (g := (mkF m 64 #[.val (.long sa), .second, .val (.long sb), .second, .val (.int fl), .val (.int p4), .val (.int (1 : Int32)), .val (.int (0 : Int32)), .val (.ref oa), .unset, .unset, .unset, .unset] [(.double db), (.long sb), (.ref s2), (.ref ob), (.ref ob)])) rfl (by rw [hml]; rfl) (Steps.refl _) (a := ob) (argsL := [(.ref s2), (.long sb), (.double db)]) (rest := [(.ref ob)]) (lenOf pd__Ljava_lang_String_JD_V rfl) rfl (by show 2 * 0 + _ ≤ _; exact Nat.le_of_eq rfl) (hb hby at_64) (fun _ _ => ⟨rfl, e222, (by decide : 6 + 0 ≤ _), (by decide : 22 + 0 ≤ _)⟩)
      dsimp only [Pt.U, Pt.locs, Pt.cells, Pt.slots] at X233 l233 y233 z233 st233 hQ233
      subst l233 y233 z233
      obtain ⟨rfl, N233, K233, G233_0, G233_1, G233_2, G233_3⟩ := hQ233
      have M233 := Fr.app M208 N233
      have F234 : Exa Z T233.heap oa "com/example/detectability/detectability/ProteinAbundance" := (F223.keep K233)
      have F235 : Fld Z T233.heap oa "com/example/detectability/detectability/ProteinAbundance" "name" "Ljava/lang/String;" (.ref s1) := (F224.keep K233 (ninS (Nat.ne_of_lt (Nat.lt_of_lt_of_le G208_0.lt (Nat.le_of_eq g212.symm))) nin0))
      have F236 : Fld Z T233.heap oa "com/example/detectability/detectability/ProteinAbundance" "spectra" "J" (.long sa) := (F225.keep K233 (ninS (Nat.ne_of_lt (Nat.lt_of_lt_of_le G208_0.lt (Nat.le_of_eq g212.symm))) nin0))
      have F237 : Fld Z T233.heap oa "com/example/detectability/detectability/ProteinAbundance" "abundance" "D" (.double da) := (F226.keep K233 (ninS (Nat.ne_of_lt (Nat.lt_of_lt_of_le G208_0.lt (Nat.le_of_eq g212.symm))) nin0))
      have F238 : Exa Z T233.heap ob "com/example/detectability/detectability/ProteinAbundance" := (F227.keep K233)
      have c239 : ∀ t, Steps p.tables e below (T233.setTop (mkF m 67 #[.val (.long sa), .second, .val (.long sb), .second, .val (.int fl), .val (.int p4), .val (.int (1 : Int32)), .val (.int (0 : Int32)), .val (.ref oa), .unset, .unset, .unset, .unset] [(.ref ob)])) t → Steps p.tables e below (s₁.setTop (entryFrame m #[(.long sa), (.long sb), (.int fl), (.int p4)] maxLocals)) t := fun t k => c232 t (st233.trans k)
      have c240 : ∀ t, Steps p.tables e below (T233.setTop (mkF m 69 #[.val (.long sa), .second, .val (.long sb), .second, .val (.int fl), .val (.int p4), .val (.int (1 : Int32)), .val (.int (0 : Int32)), .val (.ref oa), .val (.ref ob), .unset, .unset, .unset] [])) t → Steps p.tables e below (s₁.setTop (entryFrame m #[(.long sa), (.long sb), (.int fl), (.int p4)] maxLocals)) t := fun t k => c239 t (by
        show Steps p.tables e below (T233.setTop (mkF m 67 #[.val (.long sa), .second, .val (.long sb), .second, .val (.int fl), .val (.int p4), .val (.int (1 : Int32)), .val (.int (0 : Int32)), .val (.ref oa), .unset, .unset, .unset, .unset] [(.ref ob)])) _
        refine XS.astore X233.here hx rfl (hb hby at_67) rfl rfl (l' := #[.val (.long sa), .second, .val (.long sb), .second, .val (.int fl), .val (.int p4), .val (.int (1 : Int32)), .val (.int (0 : Int32)), .val (.ref oa), .val (.ref ob), .unset, .unset, .unset]) rfl ?_
        show Steps p.tables e below (T233.setTop (mkF m 69 #[.val (.long sa), .second, .val (.long sb), .second, .val (.int fl), .val (.int p4), .val (.int (1 : Int32)), .val (.int (0 : Int32)), .val (.ref oa), .val (.ref ob), .unset, .unset, .unset] [])) _
        exact k)
      obtain ⟨T241, h241, X241, e241, E241, A241, D241, -, st241⟩ := newO X233 hx hZ hown (hw _ (List.mem_of_getElem? (i := 24) rfl)) (hw _ (List.mem_of_getElem? (i := 25) rfl)) (hw _ (List.mem_of_getElem? (i := 26) rfl)) rfl (g := (mkF m 69 #[.val (.long sa), .second, .val (.long sb), .second, .val (.int fl), .val (.int p4), .val (.int (1 : Int32)), .val (.int (0 : Int32)), .val (.ref oa), .val (.ref ob), .unset, .unset, .unset] [])) rfl (hb hby at_69) (by decide) (by decide)
      obtain ⟨oc, g241⟩ : ∃ z, z = T233.heap.size := ⟨_, rfl⟩
      rw [← g241] at A241 D241 st241
      have F242 : Exa Z h241 oa "com/example/detectability/detectability/ProteinAbundance" := (F234.ext E241)
      have F243 : Fld Z h241 oa "com/example/detectability/detectability/ProteinAbundance" "name" "Ljava/lang/String;" (.ref s1) := (F235.ext E241)
      have F244 : Fld Z h241 oa "com/example/detectability/detectability/ProteinAbundance" "spectra" "J" (.long sa) := (F236.ext E241)
      have F245 : Fld Z h241 oa "com/example/detectability/detectability/ProteinAbundance" "abundance" "D" (.double da) := (F237.ext E241)
      have F246 : Exa Z h241 ob "com/example/detectability/detectability/ProteinAbundance" := (G233_0.ext E241)
      have F247 : Fld Z h241 ob "com/example/detectability/detectability/ProteinAbundance" "name" "Ljava/lang/String;" (.ref s2) := (G233_1.ext E241)
      have F248 : Fld Z h241 ob "com/example/detectability/detectability/ProteinAbundance" "spectra" "J" (.long sb) := (G233_2.ext E241)
      have F249 : Fld Z h241 ob "com/example/detectability/detectability/ProteinAbundance" "abundance" "D" (.double db) := (G233_3.ext E241)
      have F250 : Fld Z h241 oc "com/example/detectability/detectability/ComparedProtein" "name" "Ljava/lang/String;" .null := (D241 (Or.inr (hw _ (List.mem_of_getElem? (i := 33) rfl))) (ty := (.object "java/lang/String")) (by decide))
      have F251 : Fld Z h241 oc "com/example/detectability/detectability/ComparedProtein" "inA" "Lcom/example/detectability/detectability/ProteinAbundance;" .null := (D241 (Or.inr (hw _ (List.mem_of_getElem? (i := 35) rfl))) (ty := (.object "com/example/detectability/detectability/ProteinAbundance")) (by decide))
      have F252 : Fld Z h241 oc "com/example/detectability/detectability/ComparedProtein" "inB" "Lcom/example/detectability/detectability/ProteinAbundance;" .null := (D241 (Or.inr (hw _ (List.mem_of_getElem? (i := 37) rfl))) (ty := (.object "com/example/detectability/detectability/ProteinAbundance")) (by decide))
      have F253 : Fld Z h241 oc "com/example/detectability/detectability/ComparedProtein" "z" "D" (.double (0 : UInt64)) := (D241 (Or.inr (hw _ (List.mem_of_getElem? (i := 39) rfl))) (ty := .double) (by decide))
      have F254 : Fld Z h241 oc "com/example/detectability/detectability/ComparedProtein" "p" "D" (.double (0 : UInt64)) := (D241 (Or.inr (hw _ (List.mem_of_getElem? (i := 41) rfl))) (ty := .double) (by decide))
      have c255 : ∀ t, Steps p.tables e below (T241.setTop (mkF m 72 #[.val (.long sa), .second, .val (.long sb), .second, .val (.int fl), .val (.int p4), .val (.int (1 : Int32)), .val (.int (0 : Int32)), .val (.ref oa), .val (.ref ob), .unset, .unset, .unset] [(.ref oc)])) t → Steps p.tables e below (s₁.setTop (entryFrame m #[(.long sa), (.long sb), (.int fl), (.int p4)] maxLocals)) t := fun t k => c240 t (st241 _ k)
      have c256 : ∀ t, Steps p.tables e below (T241.setTop (mkF m 73 #[.val (.long sa), .second, .val (.long sb), .second, .val (.int fl), .val (.int p4), .val (.int (1 : Int32)), .val (.int (0 : Int32)), .val (.ref oa), .val (.ref ob), .unset, .unset, .unset] [(.ref oc), (.ref oc)])) t → Steps p.tables e below (s₁.setTop (entryFrame m #[(.long sa), (.long sb), (.int fl), (.int p4)] maxLocals)) t := fun t k => c255 t (by
        show Steps p.tables e below (T241.setTop (mkF m 72 #[.val (.long sa), .second, .val (.long sb), .second, .val (.int fl), .val (.int p4), .val (.int (1 : Int32)), .val (.int (0 : Int32)), .val (.ref oa), .val (.ref ob), .unset, .unset, .unset] [(.ref oc)])) _
        refine XS.dup X241.here hx rfl (hb hby at_72) rfl rfl ?_
        show Steps p.tables e below (T241.setTop (mkF m 73 #[.val (.long sa), .second, .val (.long sb), .second, .val (.int fl), .val (.int p4), .val (.int (1 : Int32)), .val (.int (0 : Int32)), .val (.ref oa), .val (.ref ob), .unset, .unset, .unset] [(.ref oc), (.ref oc)])) _
        exact k)
      obtain ⟨s3, T257, h257, q257, X257, e257, E257, S257, kk257, Zz257, Ow257, st257⟩ := ldcS (s := s) (vm0 := T222.vm) X241 hx hZ hown (hw _ (List.mem_of_getElem? (i := 27) rfl)) (fun d hd => hw d (strW d hd)) e241 S222 (Nat.le_trans (Nat.le_trans kk222 K233.1) E241.1) (g := (mkF m 73 #[.val (.long sa), .second, .val (.long sb), .second, .val (.int fl), .val (.int p4), .val (.int (1 : Int32)), .val (.int (0 : Int32)), .val (.ref oa), .val (.ref ob), .unset, .unset, .unset] [(.ref oc), (.ref oc)])) rfl (hb hby at_73) (n := 4) (by decide) (by decide) (by decide) (by decide)
      have hZ := Zz257
      have hown := Ow257
      have F258 : Exa Z h257 oa "com/example/detectability/detectability/ProteinAbundance" := (F242.ext E257)
      have F259 : Fld Z h257 oa "com/example/detectability/detectability/ProteinAbundance" "name" "Ljava/lang/String;" (.ref s1) := (F243.ext E257)
      have F260 : Fld Z h257 oa "com/example/detectability/detectability/ProteinAbundance" "spectra" "J" (.long sa) := (F244.ext E257)
      have F261 : Fld Z h257 oa "com/example/detectability/detectability/ProteinAbundance" "abundance" "D" (.double da) := (F245.ext E257)
      have F262 : Exa Z h257 ob "com/example/detectability/detectability/ProteinAbundance" := (F246.ext E257)
      have F263 : Fld Z h257 ob "com/example/detectability/detectability/ProteinAbundance" "name" "Ljava/lang/String;" (.ref s2) := (F247.ext E257)
      have F264 : Fld Z h257 ob "com/example/detectability/detectability/ProteinAbundance" "spectra" "J" (.long sb) := (F248.ext E257)
      have F265 : Fld Z h257 ob "com/example/detectability/detectability/ProteinAbundance" "abundance" "D" (.double db) := (F249.ext E257)
      have F266 : Exa Z h257 oc "com/example/detectability/detectability/ComparedProtein" := (A241.ext E257)
      have F267 : Fld Z h257 oc "com/example/detectability/detectability/ComparedProtein" "name" "Ljava/lang/String;" .null := (F250.ext E257)
      have F268 : Fld Z h257 oc "com/example/detectability/detectability/ComparedProtein" "inA" "Lcom/example/detectability/detectability/ProteinAbundance;" .null := (F251.ext E257)
      have F269 : Fld Z h257 oc "com/example/detectability/detectability/ComparedProtein" "inB" "Lcom/example/detectability/detectability/ProteinAbundance;" .null := (F252.ext E257)
      have F270 : Fld Z h257 oc "com/example/detectability/detectability/ComparedProtein" "z" "D" (.double (0 : UInt64)) := (F253.ext E257)
      have F271 : Fld Z h257 oc "com/example/detectability/detectability/ComparedProtein" "p" "D" (.double (0 : UInt64)) := (F254.ext E257)
      have c272 : ∀ t, Steps p.tables e below (T257.setTop (mkF m 75 #[.val (.long sa), .second, .val (.long sb), .second, .val (.int fl), .val (.int p4), .val (.int (1 : Int32)), .val (.int (0 : Int32)), .val (.ref oa), .val (.ref ob), .unset, .unset, .unset] [(.ref s3), (.ref oc), (.ref oc)])) t → Steps p.tables e below (s₁.setTop (entryFrame m #[(.long sa), (.long sb), (.int fl), (.int p4)] maxLocals)) t := fun t k => c256 t (st257 _ k)
      have c273 : ∀ t, Steps p.tables e below (T257.setTop (mkF m 99 #[.val (.long sa), .second, .val (.long sb), .second, .val (.int fl), .val (.int p4), .val (.int (1 : Int32)), .val (.int (0 : Int32)), .val (.ref oa), .val (.ref ob), .unset, .unset, .unset] [(.double FP.dconst0), (.double FP.dconst0), .null, (.ref oa), (.ref s3), (.ref oc), (.ref oc)])) t → Steps p.tables e below (s₁.setTop (entryFrame m #[(.long sa), (.long sb), (.int fl), (.int p4)] maxLocals)) t := fun t k => c272 t (by
        show Steps p.tables e below (T257.setTop (mkF m 75 #[.val (.long sa), .second, .val (.long sb), .second, .val (.int fl), .val (.int p4), .val (.int (1 : Int32)), .val (.int (0 : Int32)), .val (.ref oa), .val (.ref ob), .unset, .unset, .unset] [(.ref s3), (.ref oc), (.ref oc)])) _
        refine XS.iload X257.here hx rfl (hb hby at_75) rfl ?_
        show Steps p.tables e below (T257.setTop (mkF m 77 #[.val (.long sa), .second, .val (.long sb), .second, .val (.int fl), .val (.int p4), .val (.int (1 : Int32)), .val (.int (0 : Int32)), .val (.ref oa), .val (.ref ob), .unset, .unset, .unset] [(.int (1 : Int32)), (.ref s3), (.ref oc), (.ref oc)])) _
        refine XS.ifNo X257.here hx rfl (hb hby at_77) rfl (XT.i0_eq_f (by decide)) ?_
        show Steps p.tables e below (T257.setTop (mkF m 80 #[.val (.long sa), .second, .val (.long sb), .second, .val (.int fl), .val (.int p4), .val (.int (1 : Int32)), .val (.int (0 : Int32)), .val (.ref oa), .val (.ref ob), .unset, .unset, .unset] [(.ref s3), (.ref oc), (.ref oc)])) _
        refine XS.aload X257.here hx rfl (hb hby at_80) rfl rfl ?_
        show Steps p.tables e below (T257.setTop (mkF m 82 #[.val (.long sa), .second, .val (.long sb), .second, .val (.int fl), .val (.int p4), .val (.int (1 : Int32)), .val (.int (0 : Int32)), .val (.ref oa), .val (.ref ob), .unset, .unset, .unset] [(.ref oa), (.ref s3), (.ref oc), (.ref oc)])) _
        refine XS.goto X257.here hx rfl (pc0 := 82) (pc' := 86) rfl (hb hby at_82) (by decide) (by decide) ?_
        show Steps p.tables e below (T257.setTop (mkF m 86 #[.val (.long sa), .second, .val (.long sb), .second, .val (.int fl), .val (.int p4), .val (.int (1 : Int32)), .val (.int (0 : Int32)), .val (.ref oa), .val (.ref ob), .unset, .unset, .unset] [(.ref oa), (.ref s3), (.ref oc), (.ref oc)])) _
        refine XS.iload X257.here hx rfl (hb hby at_86) rfl ?_
        show Steps p.tables e below (T257.setTop (mkF m 88 #[.val (.long sa), .second, .val (.long sb), .second, .val (.int fl), .val (.int p4), .val (.int (1 : Int32)), .val (.int (0 : Int32)), .val (.ref oa), .val (.ref ob), .unset, .unset, .unset] [(.int (0 : Int32)), (.ref oa), (.ref s3), (.ref oc), (.ref oc)])) _
        refine XS.ifYes X257.here hx rfl (pc0 := 88) (pc' := 96) rfl (hb hby at_88) rfl (XT.i0_eq_t (by decide)) (by decide) (by decide) ?_
        show Steps p.tables e below (T257.setTop (mkF m 96 #[.val (.long sa), .second, .val (.long sb), .second, .val (.int fl), .val (.int p4), .val (.int (1 : Int32)), .val (.int (0 : Int32)), .val (.ref oa), .val (.ref ob), .unset, .unset, .unset] [(.ref oa), (.ref s3), (.ref oc), (.ref oc)])) _
        refine XS.aconstNull X257.here hx rfl (hb hby at_96) ?_
        show Steps p.tables e below (T257.setTop (mkF m 97 #[.val (.long sa), .second, .val (.long sb), .second, .val (.int fl), .val (.int p4), .val (.int (1 : Int32)), .val (.int (0 : Int32)), .val (.ref oa), .val (.ref ob), .unset, .unset, .unset] [.null, (.ref oa), (.ref s3), (.ref oc), (.ref oc)])) _
        refine XS.dconst0 X257.here hx rfl (hb hby at_97) rfl ?_
        show Steps p.tables e below (T257.setTop (mkF m 98 #[.val (.long sa), .second, .val (.long sb), .second, .val (.int fl), .val (.int p4), .val (.int (1 : Int32)), .val (.int (0 : Int32)), .val (.ref oa), .val (.ref ob), .unset, .unset, .unset] [(.double FP.dconst0), .null, (.ref oa), (.ref s3), (.ref oc), (.ref oc)])) _
        refine XS.dconst0 X257.here hx rfl (hb hby at_98) rfl ?_
        show Steps p.tables e below (T257.setTop (mkF m 99 #[.val (.long sa), .second, .val (.long sb), .second, .val (.int fl), .val (.int p4), .val (.int (1 : Int32)), .val (.int (0 : Int32)), .val (.ref oa), .val (.ref ob), .unset, .unset, .unset] [(.double FP.dconst0), (.double FP.dconst0), .null, (.ref oa), (.ref s3), (.ref oc), (.ref oc)])) _
        exact k)
      obtain ⟨_, _, ⟨T274, L274, k274', n274⟩, -, X274, ⟨Lc274, hQ274, l274, y274, z274⟩, st274⟩ := X257.specialBack hx (y := (⟨"com/example/detectability/detectability/ComparedProtein", "<init>", "(Ljava/lang/String;Lcom/example/detectability/detectability/ProteinAbundance;Lcom/example/detectability/detectability/ProteinAbundance;DD)V"⟩ : MethodName)) rfl hown (mvT hZ (hw _ (List.mem_of_getElem? (i := 28) rfl))) (mvT hZ (hw _ (List.mem_of_getElem? (i := 29) rfl))) (mvT hZ (hw _ (List.mem_of_getElem? (i := 30) rfl))) (by decide) (backOf (W := 1) (rm_ci10 l Z a0 hw [] oc s3 oa FP.dconst0 FP.dconst0 h257 n0 (Nat.le_trans (Nat.le_trans (Nat.le_trans (Nat.le_trans (Nat.le_trans (Nat.le_trans (Nat.le_trans (Nat.le_trans Z0 E195.1) E201.1) K208.1) E212.1) E222.1) K233.1) E241.1) E257.1) F266 F267 F268 F269 F270 F271 (Nat.le_trans (Nat.le_trans (Nat.le_trans (Nat.le_trans (Nat.le_trans (Nat.le_trans (Nat.le_trans Z0 E195.1) E201.1) K208.1) E212.1) E222.1) K233.1) (Nat.le_of_eq g241.symm))) hZ (hw _ (List.mem_of_getElem? (i := 30) rfl)) (hw _ (List.mem_of_getElem? (i := 26) rfl)) (by decide) (by decide)) (g := (mkF m 99 #[.val (.long sa), .second, .val (.long sb), .second, .val (.int fl), .val (.int p4), .val (.int (1 : Int32)), .val (.int (0 : Int32)), .val (.ref oa), .val (.ref ob), .unset, .unset, .unset] [(.double FP.dconst0), (.double FP.dconst0), .null, (.ref oa), (.ref s3), (.ref oc), (.ref oc)])) rfl (by rw [hml]; rfl) (Steps.refl _) (a := oc) (argsL := [(.ref s3), (.ref oa), .null, (.double FP.dconst0), (.double FP.dconst0)]) (rest := [(.ref oc)]) (lenOf pd__Ljava_lang_String_Lcom_example_detectability_detectability_ProteinAbundance_Lcom_example_detectability_detectability_ProteinAbundance_DD_V rfl) rfl (by show 2 * 0 + _ ≤ _; exact Nat.le_of_eq rfl) (hb hby at_99) (fun _ _ => ⟨rfl, e257, (by decide : 9 + 0 ≤ _), (by decide : 35 + 0 ≤ _)⟩)
      dsimp only [Pt.U, Pt.locs, Pt.cells, Pt.slots] at X274 l274 y274 z274 st274 hQ274
      subst l274 y274 z274
      obtain ⟨rfl, N274, K274, G274_0, G274_1, G274_2, G274_3, G274_4, G274_5⟩ := hQ274
      have M274 := Fr.app M233 N274
      have F275 : Exa Z T274.heap oa "com/example/detectability/detectability/ProteinAbundance" := (F258.keep K274)
      have F276 : Fld Z T274.heap oa "com/example/detectability/detectability/ProteinAbundance" "name" "Ljava/lang/String;" (.ref s1) := (F259.keep K274 (ninS (Nat.ne_of_lt (Nat.lt_of_lt_of_le F234.lt (Nat.le_of_eq g241.symm))) nin0))
      have F277 : Fld Z T274.heap oa "com/example/detectability/detectability/ProteinAbundance" "spectra" "J" (.long sa) := (F260.keep K274 (ninS (Nat.ne_of_lt (Nat.lt_of_lt_of_le F234.lt (Nat.le_of_eq g241.symm))) nin0))
      have F278 : Fld Z T274.heap oa "com/example/detectability/detectability/ProteinAbundance" "abundance" "D" (.double da) := (F261.keep K274 (ninS (Nat.ne_of_lt (Nat.lt_of_lt_of_le F234.lt (Nat.le_of_eq g241.symm))) nin0))
      have F279 : Exa Z T274.heap ob "com/example/detectability/detectability/ProteinAbundance" := (F262.keep K274)
      have F280 : Fld Z T274.heap ob "com/example/detectability/detectability/ProteinAbundance" "name" "Ljava/lang/String;" (.ref s2) := (F263.keep K274 (ninS (Nat.ne_of_lt (Nat.lt_of_lt_of_le G233_0.lt (Nat.le_of_eq g241.symm))) nin0))
      have F281 : Fld Z T274.heap ob "com/example/detectability/detectability/ProteinAbundance" "spectra" "J" (.long sb) := (F264.keep K274 (ninS (Nat.ne_of_lt (Nat.lt_of_lt_of_le G233_0.lt (Nat.le_of_eq g241.symm))) nin0))
      have F282 : Fld Z T274.heap ob "com/example/detectability/detectability/ProteinAbundance" "abundance" "D" (.double db) := (F265.keep K274 (ninS (Nat.ne_of_lt (Nat.lt_of_lt_of_le G233_0.lt (Nat.le_of_eq g241.symm))) nin0))
      have F283 : Exa Z T274.heap oc "com/example/detectability/detectability/ComparedProtein" := (F266.keep K274)
      have c284 : ∀ t, Steps p.tables e below (T274.setTop (mkF m 102 #[.val (.long sa), .second, .val (.long sb), .second, .val (.int fl), .val (.int p4), .val (.int (1 : Int32)), .val (.int (0 : Int32)), .val (.ref oa), .val (.ref ob), .unset, .unset, .unset] [(.ref oc)])) t → Steps p.tables e below (s₁.setTop (entryFrame m #[(.long sa), (.long sb), (.int fl), (.int p4)] maxLocals)) t := fun t k => c273 t (st274.trans k)
      have c285 : ∀ t, Steps p.tables e below (T274.setTop (mkF m 118 #[.val (.long sa), .second, .val (.long sb), .second, .val (.int fl), .val (.int p4), .val (.int (1 : Int32)), .val (.int (0 : Int32)), .val (.ref oa), .val (.ref ob), .val (.ref oc), .val (.long sa), .second] [(.ref oc)])) t → Steps p.tables e below (s₁.setTop (entryFrame m #[(.long sa), (.long sb), (.int fl), (.int p4)] maxLocals)) t := fun t k => c284 t (by
        show Steps p.tables e below (T274.setTop (mkF m 102 #[.val (.long sa), .second, .val (.long sb), .second, .val (.int fl), .val (.int p4), .val (.int (1 : Int32)), .val (.int (0 : Int32)), .val (.ref oa), .val (.ref ob), .unset, .unset, .unset] [(.ref oc)])) _
        refine XS.astore X274.here hx rfl (hb hby at_102) rfl rfl (l' := #[.val (.long sa), .second, .val (.long sb), .second, .val (.int fl), .val (.int p4), .val (.int (1 : Int32)), .val (.int (0 : Int32)), .val (.ref oa), .val (.ref ob), .val (.ref oc), .unset, .unset]) rfl ?_
        show Steps p.tables e below (T274.setTop (mkF m 104 #[.val (.long sa), .second, .val (.long sb), .second, .val (.int fl), .val (.int p4), .val (.int (1 : Int32)), .val (.int (0 : Int32)), .val (.ref oa), .val (.ref ob), .val (.ref oc), .unset, .unset] [])) _
        refine XS.iload X274.here hx rfl (hb hby at_104) rfl ?_
        show Steps p.tables e below (T274.setTop (mkF m 106 #[.val (.long sa), .second, .val (.long sb), .second, .val (.int fl), .val (.int p4), .val (.int (1 : Int32)), .val (.int (0 : Int32)), .val (.ref oa), .val (.ref ob), .val (.ref oc), .unset, .unset] [(.int (1 : Int32))])) _
        refine XS.ifNo X274.here hx rfl (hb hby at_106) rfl (XT.i0_eq_f (by decide)) ?_
        show Steps p.tables e below (T274.setTop (mkF m 109 #[.val (.long sa), .second, .val (.long sb), .second, .val (.int fl), .val (.int p4), .val (.int (1 : Int32)), .val (.int (0 : Int32)), .val (.ref oa), .val (.ref ob), .val (.ref oc), .unset, .unset] [])) _
        refine XT.lloadN X274.here hx rfl (hb hby at_109) rfl ?_
        show Steps p.tables e below (T274.setTop (mkF m 110 #[.val (.long sa), .second, .val (.long sb), .second, .val (.int fl), .val (.int p4), .val (.int (1 : Int32)), .val (.int (0 : Int32)), .val (.ref oa), .val (.ref ob), .val (.ref oc), .unset, .unset] [(.long sa)])) _
        refine XS.goto X274.here hx rfl (pc0 := 110) (pc' := 114) rfl (hb hby at_110) (by decide) (by decide) ?_
        show Steps p.tables e below (T274.setTop (mkF m 114 #[.val (.long sa), .second, .val (.long sb), .second, .val (.int fl), .val (.int p4), .val (.int (1 : Int32)), .val (.int (0 : Int32)), .val (.ref oa), .val (.ref ob), .val (.ref oc), .unset, .unset] [(.long sa)])) _
        refine XT.lstore X274.here hx rfl (hb hby at_114) rfl (l' := #[.val (.long sa), .second, .val (.long sb), .second, .val (.int fl), .val (.int p4), .val (.int (1 : Int32)), .val (.int (0 : Int32)), .val (.ref oa), .val (.ref ob), .val (.ref oc), .val (.long sa), .second]) rfl ?_
        show Steps p.tables e below (T274.setTop (mkF m 116 #[.val (.long sa), .second, .val (.long sb), .second, .val (.int fl), .val (.int p4), .val (.int (1 : Int32)), .val (.int (0 : Int32)), .val (.ref oa), .val (.ref ob), .val (.ref oc), .val (.long sa), .second] [])) _
        refine XS.aload X274.here hx rfl (hb hby at_116) rfl rfl ?_
        show Steps p.tables e below (T274.setTop (mkF m 118 #[.val (.long sa), .second, .val (.long sb), .second, .val (.int fl), .val (.int p4), .val (.int (1 : Int32)), .val (.int (0 : Int32)), .val (.ref oa), .val (.ref ob), .val (.ref oc), .val (.long sa), .second] [(.ref oc)])) _
        exact k)
      obtain ⟨cq286, kq286, q286a, q286b, q286c⟩ := isOf hZ rfl G274_0
      obtain ⟨_, _, ⟨T286, L286, k286', n286⟩, -, X286, ⟨Lc286, hQ286, l286, y286, z286⟩, st286⟩ := X274.virtualBack hx (y := (⟨"com/example/detectability/detectability/ComparedProtein", "getSpectraA", "()J"⟩ : MethodName)) (z := (⟨"com/example/detectability/detectability/ComparedProtein", "getSpectraA", "()J"⟩ : MethodName)) hown (mvT hZ (hw _ (List.mem_of_getElem? (i := 42) rfl))) (mvT hZ (hw _ (List.mem_of_getElem? (i := 43) rfl))) (notFace_of_selects (args := #[]) (mvT hZ (hw _ (List.mem_of_getElem? (i := 45) rfl)))) (mvT hZ (hw _ (List.mem_of_getElem? (i := 45) rfl))) (mvT hZ (hw _ (List.mem_of_getElem? (i := 44) rfl))) (by decide) (backOf (W := 0) (rm_cg1 l Z a0 hw [] oc oa sa T274.heap n0 (Nat.le_trans (Nat.le_trans (Nat.le_trans (Nat.le_trans (Nat.le_trans (Nat.le_trans (Nat.le_trans (Nat.le_trans (Nat.le_trans Z0 E195.1) E201.1) K208.1) E212.1) E222.1) K233.1) E241.1) E257.1) K274.1) G274_2 F275 F277) hZ (hw _ (List.mem_of_getElem? (i := 46) rfl)) (hw _ (List.mem_of_getElem? (i := 26) rfl)) (by decide) (by decide)) q286a q286c (g := (mkF m 118 #[.val (.long sa), .second, .val (.long sb), .second, .val (.int fl), .val (.int p4), .val (.int (1 : Int32)), .val (.int (0 : Int32)), .val (.ref oa), .val (.ref ob), .val (.ref oc), .val (.long sa), .second] [(.ref oc)])) rfl (by rw [hml]; rfl) (Steps.refl _) (argsL := []) (rest := []) (lenOf pd___J rfl) rfl (by show 2 * 0 + _ ≤ _; exact Nat.le_of_eq rfl) (hb hby at_118) (fun _ _ => ⟨rfl, rfl, (by decide : 9 + 0 ≤ _), (by decide : 35 + 0 ≤ _)⟩)
      dsimp only [Pt.U, Pt.locs, Pt.cells, Pt.slots] at X286 l286 y286 z286 st286 hQ286
      subst l286 y286 z286
      obtain ⟨rfl, N286, e286⟩ := hQ286
      have M286 := Fr.app M274 N286
      have c287 : ∀ t, Steps p.tables e below (T286.setTop (mkF m 121 #[.val (.long sa), .second, .val (.long sb), .second, .val (.int fl), .val (.int p4), .val (.int (1 : Int32)), .val (.int (0 : Int32)), .val (.ref oa), .val (.ref ob), .val (.ref oc), .val (.long sa), .second] [(.long sa)])) t → Steps p.tables e below (s₁.setTop (entryFrame m #[(.long sa), (.long sb), (.int fl), (.int p4)] maxLocals)) t := fun t k => c285 t (st286.trans k)
      have c288 : ∀ t, Steps p.tables e below (T286.setTop (mkF m 132 #[.val (.long sa), .second, .val (.long sb), .second, .val (.int fl), .val (.int p4), .val (.int (1 : Int32)), .val (.int (0 : Int32)), .val (.ref oa), .val (.ref ob), .val (.ref oc), .val (.long sa), .second] [(.int (1 : Int32))])) t → Steps p.tables e below (s₁.setTop (entryFrame m #[(.long sa), (.long sb), (.int fl), (.int p4)] maxLocals)) t := fun t k => c287 t (by
        show Steps p.tables e below (T286.setTop (mkF m 121 #[.val (.long sa), .second, .val (.long sb), .second, .val (.int fl), .val (.int p4), .val (.int (1 : Int32)), .val (.int (0 : Int32)), .val (.ref oa), .val (.ref ob), .val (.ref oc), .val (.long sa), .second] [(.long sa)])) _
        refine XT.lload X286.here hx rfl (hb hby at_121) rfl ?_
        show Steps p.tables e below (T286.setTop (mkF m 123 #[.val (.long sa), .second, .val (.long sb), .second, .val (.int fl), .val (.int p4), .val (.int (1 : Int32)), .val (.int (0 : Int32)), .val (.ref oa), .val (.ref ob), .val (.ref oc), .val (.long sa), .second] [(.long sa), (.long sa)])) _
        refine XT.lcmp X286.here hx rfl (hb hby at_123) rfl ?_
        show Steps p.tables e below (T286.setTop (mkF m 124 #[.val (.long sa), .second, .val (.long sb), .second, .val (.int fl), .val (.int p4), .val (.int (1 : Int32)), .val (.int (0 : Int32)), .val (.ref oa), .val (.ref ob), .val (.ref oc), .val (.long sa), .second] [(.int (XT.cmpL sa sa))])) _
        refine XS.ifNo X286.here hx rfl (hb hby at_124) rfl (XT.ll_ne_f (rfl)) ?_
        show Steps p.tables e below (T286.setTop (mkF m 127 #[.val (.long sa), .second, .val (.long sb), .second, .val (.int fl), .val (.int p4), .val (.int (1 : Int32)), .val (.int (0 : Int32)), .val (.ref oa), .val (.ref ob), .val (.ref oc), .val (.long sa), .second] [])) _
        refine XS.iconst X286.here hx rfl (hb hby at_127) ?_
        show Steps p.tables e below (T286.setTop (mkF m 128 #[.val (.long sa), .second, .val (.long sb), .second, .val (.int fl), .val (.int p4), .val (.int (1 : Int32)), .val (.int (0 : Int32)), .val (.ref oa), .val (.ref ob), .val (.ref oc), .val (.long sa), .second] [(.int (1 : Int32))])) _
        refine XS.goto X286.here hx rfl (pc0 := 128) (pc' := 132) rfl (hb hby at_128) (by decide) (by decide) ?_
        show Steps p.tables e below (T286.setTop (mkF m 132 #[.val (.long sa), .second, .val (.long sb), .second, .val (.int fl), .val (.int p4), .val (.int (1 : Int32)), .val (.int (0 : Int32)), .val (.ref oa), .val (.ref ob), .val (.ref oc), .val (.long sa), .second] [(.int (1 : Int32))])) _
        exact k)
      have hsz : q257 ≤ T286.heap.size := by rw [e286]; exact (Nat.le_trans kk257 K274.1)
      obtain ⟨fs, hr, hrun, hended, hRW⟩ := Jvm.Stand.leaveW (s := s) (vm₁ := T257.vm) X286 S257 hsz (v := (some (.int (1 : Int32)))) (fun h => by rw [Bd.returns] at h; cases h)
      refine ⟨_, _, pre0 _ (c288 _ (retN X286 hx (t := .boolean) Bd.returns (by simp) (hb hby at_132) hr)), hrun, hended, _, _, rfl, ?_, hRW.1, hRW.2.1, hRW.2.2.1, hRW.2.2.2.mono (by decide) (by decide)⟩
      show Q_0 Z sa sb fl p4 h0 n0 _ T286.heap _
      rw [e286]
      exact ⟨rfl, M286⟩
    · skip
      have c289 : ∀ t, Steps p.tables e below (s₁.setTop (mkF m 28 #[.val (.long sa), .second, .val (.long sb), .second, .val (.int fl), .val (.int p4), .val (.int (1 : Int32)), .val (.int (1 : Int32)), .unset, .unset, .unset, .unset, .unset] [])) t → Steps p.tables e below (s₁.setTop (entryFrame m #[(.long sa), (.long sb), (.int fl), (.int p4)] maxLocals)) t := fun t k => c193 t (by
        show Steps p.tables e below (s₁.setTop (mkF m 18 #[.val (.long sa), .second, .val (.long sb), .second, .val (.int fl), .val (.int p4), .val (.int (1 : Int32)), .unset, .unset, .unset, .unset, .unset, .unset] [(.int (fl &&& (2 : Int32)))])) _
        refine XS.ifNo X0.here hx rfl (hb hby at_18) rfl (XT.i0_eq_f qb) ?_
        show Steps p.tables e below (s₁.setTop (mkF m 21 #[.val (.long sa), .second, .val (.long sb), .second, .val (.int fl), .val (.int p4), .val (.int (1 : Int32)), .unset, .unset, .unset, .unset, .unset, .unset] [])) _
        refine XS.iconst X0.here hx rfl (hb hby at_21) ?_
        show Steps p.tables e below (s₁.setTop (mkF m 22 #[.val (.long sa), .second, .val (.long sb), .second, .val (.int fl), .val (.int p4), .val (.int (1 : Int32)), .unset, .unset, .unset, .unset, .unset, .unset] [(.int (1 : Int32))])) _
        refine XS.goto X0.here hx rfl (pc0 := 22) (pc' := 26) rfl (hb hby at_22) (by decide) (by decide) ?_
        show Steps p.tables e below (s₁.setTop (mkF m 26 #[.val (.long sa), .second, .val (.long sb), .second, .val (.int fl), .val (.int p4), .val (.int (1 : Int32)), .unset, .unset, .unset, .unset, .unset, .unset] [(.int (1 : Int32))])) _
        refine XS.istore X0.here hx rfl (hb hby at_26) rfl (l' := #[.val (.long sa), .second, .val (.long sb), .second, .val (.int fl), .val (.int p4), .val (.int (1 : Int32)), .val (.int (1 : Int32)), .unset, .unset, .unset, .unset, .unset]) rfl ?_
        show Steps p.tables e below (s₁.setTop (mkF m 28 #[.val (.long sa), .second, .val (.long sb), .second, .val (.int fl), .val (.int p4), .val (.int (1 : Int32)), .val (.int (1 : Int32)), .unset, .unset, .unset, .unset, .unset] [])) _
        exact k)
      obtain ⟨T290, h290, X290, e290, E290, A290, D290, -, st290⟩ := newO X0 hx hZ hown (hw _ (List.mem_of_getElem? (i := 0) rfl)) (hw _ (List.mem_of_getElem? (i := 1) rfl)) (hw _ (List.mem_of_getElem? (i := 2) rfl)) e0 (g := (mkF m 28 #[.val (.long sa), .second, .val (.long sb), .second, .val (.int fl), .val (.int p4), .val (.int (1 : Int32)), .val (.int (1 : Int32)), .unset, .unset, .unset, .unset, .unset] [])) rfl (hb hby at_28) (by decide) (by decide)
      obtain ⟨oa, g290⟩ : ∃ z, z = h0.size := ⟨_, rfl⟩
      rw [← g290] at A290 D290 st290
      have F291 : Fld Z h290 oa "com/example/detectability/detectability/ProteinAbundance" "name" "Ljava/lang/String;" .null := (D290 (Or.inr (hw _ (List.mem_of_getElem? (i := 18) rfl))) (ty := (.object "java/lang/String")) (by decide))
      have F292 : Fld Z h290 oa "com/example/detectability/detectability/ProteinAbundance" "spectra" "J" (.long (0 : Int64)) := (D290 (Or.inr (hw _ (List.mem_of_getElem? (i := 20) rfl))) (ty := .long) (by decide))
      have F293 : Fld Z h290 oa "com/example/detectability/detectability/ProteinAbundance" "abundance" "D" (.double (0 : UInt64)) := (D290 (Or.inr (hw _ (List.mem_of_getElem? (i := 22) rfl))) (ty := .double) (by decide))
      have c294 : ∀ t, Steps p.tables e below (T290.setTop (mkF m 31 #[.val (.long sa), .second, .val (.long sb), .second, .val (.int fl), .val (.int p4), .val (.int (1 : Int32)), .val (.int (1 : Int32)), .unset, .unset, .unset, .unset, .unset] [(.ref oa)])) t → Steps p.tables e below (s₁.setTop (entryFrame m #[(.long sa), (.long sb), (.int fl), (.int p4)] maxLocals)) t := fun t k => c289 t (st290 _ k)
      have c295 : ∀ t, Steps p.tables e below (T290.setTop (mkF m 32 #[.val (.long sa), .second, .val (.long sb), .second, .val (.int fl), .val (.int p4), .val (.int (1 : Int32)), .val (.int (1 : Int32)), .unset, .unset, .unset, .unset, .unset] [(.ref oa), (.ref oa)])) t → Steps p.tables e below (s₁.setTop (entryFrame m #[(.long sa), (.long sb), (.int fl), (.int p4)] maxLocals)) t := fun t k => c294 t (by
        show Steps p.tables e below (T290.setTop (mkF m 31 #[.val (.long sa), .second, .val (.long sb), .second, .val (.int fl), .val (.int p4), .val (.int (1 : Int32)), .val (.int (1 : Int32)), .unset, .unset, .unset, .unset, .unset] [(.ref oa)])) _
        refine XS.dup X290.here hx rfl (hb hby at_31) rfl rfl ?_
        show Steps p.tables e below (T290.setTop (mkF m 32 #[.val (.long sa), .second, .val (.long sb), .second, .val (.int fl), .val (.int p4), .val (.int (1 : Int32)), .val (.int (1 : Int32)), .unset, .unset, .unset, .unset, .unset] [(.ref oa), (.ref oa)])) _
        exact k)
      obtain ⟨s1, T296, h296, q296, X296, e296, E296, S296, kk296, Zz296, Ow296, st296⟩ := ldcS (s := s) (vm0 := s.vm) X290 hx hZ hown (hw _ (List.mem_of_getElem? (i := 3) rfl)) (fun d hd => hw d (strW d hd)) e290 ((State.WarmedH.refl s).since 0) (Nat.zero_le _) (g := (mkF m 32 #[.val (.long sa), .second, .val (.long sb), .second, .val (.int fl), .val (.int p4), .val (.int (1 : Int32)), .val (.int (1 : Int32)), .unset, .unset, .unset, .unset, .unset] [(.ref oa), (.ref oa)])) rfl (hb hby at_32) (n := 4) (by decide) (by decide) (by decide) (by decide)
      have hZ := Zz296
      have hown := Ow296
      have F297 : Exa Z h296 oa "com/example/detectability/detectability/ProteinAbundance" := (A290.ext E296)
      have F298 : Fld Z h296 oa "com/example/detectability/detectability/ProteinAbundance" "name" "Ljava/lang/String;" .null := (F291.ext E296)
      have F299 : Fld Z h296 oa "com/example/detectability/detectability/ProteinAbundance" "spectra" "J" (.long (0 : Int64)) := (F292.ext E296)
      have F300 : Fld Z h296 oa "com/example/detectability/detectability/ProteinAbundance" "abundance" "D" (.double (0 : UInt64)) := (F293.ext E296)
      have c301 : ∀ t, Steps p.tables e below (T296.setTop (mkF m 34 #[.val (.long sa), .second, .val (.long sb), .second, .val (.int fl), .val (.int p4), .val (.int (1 : Int32)), .val (.int (1 : Int32)), .unset, .unset, .unset, .unset, .unset] [(.ref s1), (.ref oa), (.ref oa)])) t → Steps p.tables e below (s₁.setTop (entryFrame m #[(.long sa), (.long sb), (.int fl), (.int p4)] maxLocals)) t := fun t k => c295 t (st296 _ k)
      obtain ⟨da, hda⟩ : ∃ v : UInt64, FP.i2d (p4 &&& (255 : Int32)) = v := ⟨_, rfl⟩
      have c302 : ∀ t, Steps p.tables e below (T296.setTop (mkF m 42 #[.val (.long sa), .second, .val (.long sb), .second, .val (.int fl), .val (.int p4), .val (.int (1 : Int32)), .val (.int (1 : Int32)), .unset, .unset, .unset, .unset, .unset] [(.double da), (.long sa), (.ref s1), (.ref oa), (.ref oa)])) t → Steps p.tables e below (s₁.setTop (entryFrame m #[(.long sa), (.long sb), (.int fl), (.int p4)] maxLocals)) t := fun t k => c301 t (by
        show Steps p.tables e below (T296.setTop (mkF m 34 #[.val (.long sa), .second, .val (.long sb), .second, .val (.int fl), .val (.int p4), .val (.int (1 : Int32)), .val (.int (1 : Int32)), .unset, .unset, .unset, .unset, .unset] [(.ref s1), (.ref oa), (.ref oa)])) _
        refine XT.lloadN X296.here hx rfl (hb hby at_34) rfl ?_
        show Steps p.tables e below (T296.setTop (mkF m 35 #[.val (.long sa), .second, .val (.long sb), .second, .val (.int fl), .val (.int p4), .val (.int (1 : Int32)), .val (.int (1 : Int32)), .unset, .unset, .unset, .unset, .unset] [(.long sa), (.ref s1), (.ref oa), (.ref oa)])) _
        refine XS.iload X296.here hx rfl (hb hby at_35) rfl ?_
        show Steps p.tables e below (T296.setTop (mkF m 37 #[.val (.long sa), .second, .val (.long sb), .second, .val (.int fl), .val (.int p4), .val (.int (1 : Int32)), .val (.int (1 : Int32)), .unset, .unset, .unset, .unset, .unset] [(.int p4), (.long sa), (.ref s1), (.ref oa), (.ref oa)])) _
        refine XS.sipush X296.here hx rfl (hb hby at_37) ?_
        show Steps p.tables e below (T296.setTop (mkF m 40 #[.val (.long sa), .second, .val (.long sb), .second, .val (.int fl), .val (.int p4), .val (.int (1 : Int32)), .val (.int (1 : Int32)), .unset, .unset, .unset, .unset, .unset] [(.int (255 : Int32)), (.int p4), (.long sa), (.ref s1), (.ref oa), (.ref oa)])) _
        refine XS.iand X296.here hx rfl (hb hby at_40) rfl ?_
        show Steps p.tables e below (T296.setTop (mkF m 41 #[.val (.long sa), .second, .val (.long sb), .second, .val (.int fl), .val (.int p4), .val (.int (1 : Int32)), .val (.int (1 : Int32)), .unset, .unset, .unset, .unset, .unset] [(.int (p4 &&& (255 : Int32))), (.long sa), (.ref s1), (.ref oa), (.ref oa)])) _
        refine XS.i2dS X296.here hx rfl (hb hby at_41) rfl hda ?_
        show Steps p.tables e below (T296.setTop (mkF m 42 #[.val (.long sa), .second, .val (.long sb), .second, .val (.int fl), .val (.int p4), .val (.int (1 : Int32)), .val (.int (1 : Int32)), .unset, .unset, .unset, .unset, .unset] [(.double da), (.long sa), (.ref s1), (.ref oa), (.ref oa)])) _
        exact k)
      obtain ⟨_, _, ⟨T303, L303, k303', n303⟩, -, X303, ⟨Lc303, hQ303, l303, y303, z303⟩, st303⟩ := X296.specialBack hx (y := (⟨"com/example/detectability/detectability/ProteinAbundance", "<init>", "(Ljava/lang/String;JD)V"⟩ : MethodName)) rfl hown (mvT hZ (hw _ (List.mem_of_getElem? (i := 11) rfl))) (mvT hZ (hw _ (List.mem_of_getElem? (i := 12) rfl))) (mvT hZ (hw _ (List.mem_of_getElem? (i := 13) rfl))) (by decide) (backOf (W := 1) (rm_pi l Z a0 hw [] oa s1 sa da h296 n0 (Nat.le_trans (Nat.le_trans Z0 E290.1) E296.1) F297 F298 F299 F300 (Nat.le_trans Z0 (Nat.le_of_eq g290.symm))) hZ (hw _ (List.mem_of_getElem? (i := 13) rfl)) (hw _ (List.mem_of_getElem? (i := 2) rfl)) (by decide) (by decide)) (g := (mkF m 42 #[.val (.long sa), .second, .val (.long sb), .second, .val (.int fl), .val (.int p4), .val (.int (1 : Int32)), .val (.int (1 : Int32)), .unset, .unset, .unset, .unset, .unset] [(.double da), (.long sa), (.ref s1), (.ref oa), (.ref oa)])) rfl (by rw [hml]; rfl) (Steps.refl _) (a := oa) (argsL := [(.ref s1), (.long sa), (.double da)]) (rest := [(.ref oa)]) (lenOf pd__Ljava_lang_String_JD_V rfl) rfl (by show 2 * 0 + _ ≤ _; exact Nat.le_of_eq rfl) (hb hby at_42) (fun _ _ => ⟨rfl, e296, (by decide : 3 + 0 ≤ _), (by decide : 11 + 0 ≤ _)⟩)
      dsimp only [Pt.U, Pt.locs, Pt.cells, Pt.slots] at X303 l303 y303 z303 st303 hQ303
      subst l303 y303 z303
      obtain ⟨rfl, N303, K303, G303_0, G303_1, G303_2, G303_3⟩ := hQ303
      have M303 := Fr.app N0 N303
      have F304 : Exa Z T303.heap oa "com/example/detectability/detectability/ProteinAbundance" := (F297.keep K303)
      have c305 : ∀ t, Steps p.tables e below (T303.setTop (mkF m 45 #[.val (.long sa), .second, .val (.long sb), .second, .val (.int fl), .val (.int p4), .val (.int (1 : Int32)), .val (.int (1 : Int32)), .unset, .unset, .unset, .unset, .unset] [(.ref oa)])) t → Steps p.tables e below (s₁.setTop (entryFrame m #[(.long sa), (.long sb), (.int fl), (.int p4)] maxLocals)) t := fun t k => c302 t (st303.trans k)
      have c306 : ∀ t, Steps p.tables e below (T303.setTop (mkF m 47 #[.val (.long sa), .second, .val (.long sb), .second, .val (.int fl), .val (.int p4), .val (.int (1 : Int32)), .val (.int (1 : Int32)), .val (.ref oa), .unset, .unset, .unset, .unset] [])) t → Steps p.tables e below (s₁.setTop (entryFrame m #[(.long sa), (.long sb), (.int fl), (.int p4)] maxLocals)) t := fun t k => c305 t (by
        show Steps p.tables e below (T303.setTop (mkF m 45 #[.val (.long sa), .second, .val (.long sb), .second, .val (.int fl), .val (.int p4), .val (.int (1 : Int32)), .val (.int (1 : Int32)), .unset, .unset, .unset, .unset, .unset] [(.ref oa)])) _
        refine XS.astore X303.here hx rfl (hb hby at_45) rfl rfl (l' := #[.val (.long sa), .second, .val (.long sb), .second, .val (.int fl), .val (.int p4), .val (.int (1 : Int32)), .val (.int (1 : Int32)), .val (.ref oa), .unset, .unset, .unset, .unset]) rfl ?_
        show Steps p.tables e below (T303.setTop (mkF m 47 #[.val (.long sa), .second, .val (.long sb), .second, .val (.int fl), .val (.int p4), .val (.int (1 : Int32)), .val (.int (1 : Int32)), .val (.ref oa), .unset, .unset, .unset, .unset] [])) _
        exact k)
      obtain ⟨T307, h307, X307, e307, E307, A307, D307, -, st307⟩ := newO X303 hx hZ hown (hw _ (List.mem_of_getElem? (i := 0) rfl)) (hw _ (List.mem_of_getElem? (i := 1) rfl)) (hw _ (List.mem_of_getElem? (i := 2) rfl)) rfl (g := (mkF m 47 #[.val (.long sa), .second, .val (.long sb), .second, .val (.int fl), .val (.int p4), .val (.int (1 : Int32)), .val (.int (1 : Int32)), .val (.ref oa), .unset, .unset, .unset, .unset] [])) rfl (hb hby at_47) (by decide) (by decide)
      obtain ⟨ob, g307⟩ : ∃ z, z = T303.heap.size := ⟨_, rfl⟩
      rw [← g307] at A307 D307 st307
      have F308 : Exa Z h307 oa "com/example/detectability/detectability/ProteinAbundance" := (G303_0.ext E307)
      have F309 : Fld Z h307 oa "com/example/detectability/detectability/ProteinAbundance" "name" "Ljava/lang/String;" (.ref s1) := (G303_1.ext E307)
      have F310 : Fld Z h307 oa "com/example/detectability/detectability/ProteinAbundance" "spectra" "J" (.long sa) := (G303_2.ext E307)
      have F311 : Fld Z h307 oa "com/example/detectability/detectability/ProteinAbundance" "abundance" "D" (.double da) := (G303_3.ext E307)
      have F312 : Fld Z h307 ob "com/example/detectability/detectability/ProteinAbundance" "name" "Ljava/lang/String;" .null := (D307 (Or.inr (hw _ (List.mem_of_getElem? (i := 18) rfl))) (ty := (.object "java/lang/String")) (by decide))
      have F313 : Fld Z h307 ob "com/example/detectability/detectability/ProteinAbundance" "spectra" "J" (.long (0 : Int64)) := (D307 (Or.inr (hw _ (List.mem_of_getElem? (i := 20) rfl))) (ty := .long) (by decide))
      have F314 : Fld Z h307 ob "com/example/detectability/detectability/ProteinAbundance" "abundance" "D" (.double (0 : UInt64)) := (D307 (Or.inr (hw _ (List.mem_of_getElem? (i := 22) rfl))) (ty := .double) (by decide))
      have c315 : ∀ t, Steps p.tables e below (T307.setTop (mkF m 50 #[.val (.long sa), .second, .val (.long sb), .second, .val (.int fl), .val (.int p4), .val (.int (1 : Int32)), .val (.int (1 : Int32)), .val (.ref oa), .unset, .unset, .unset, .unset] [(.ref ob)])) t → Steps p.tables e below (s₁.setTop (entryFrame m #[(.long sa), (.long sb), (.int fl), (.int p4)] maxLocals)) t := fun t k => c306 t (st307 _ k)
      have c316 : ∀ t, Steps p.tables e below (T307.setTop (mkF m 51 #[.val (.long sa), .second, .val (.long sb), .second, .val (.int fl), .val (.int p4), .val (.int (1 : Int32)), .val (.int (1 : Int32)), .val (.ref oa), .unset, .unset, .unset, .unset] [(.ref ob), (.ref ob)])) t → Steps p.tables e below (s₁.setTop (entryFrame m #[(.long sa), (.long sb), (.int fl), (.int p4)] maxLocals)) t := fun t k => c315 t (by
        show Steps p.tables e below (T307.setTop (mkF m 50 #[.val (.long sa), .second, .val (.long sb), .second, .val (.int fl), .val (.int p4), .val (.int (1 : Int32)), .val (.int (1 : Int32)), .val (.ref oa), .unset, .unset, .unset, .unset] [(.ref ob)])) _
        refine XS.dup X307.here hx rfl (hb hby at_50) rfl rfl ?_
        show Steps p.tables e below (T307.setTop (mkF m 51 #[.val (.long sa), .second, .val (.long sb), .second, .val (.int fl), .val (.int p4), .val (.int (1 : Int32)), .val (.int (1 : Int32)), .val (.ref oa), .unset, .unset, .unset, .unset] [(.ref ob), (.ref ob)])) _
        exact k)
      obtain ⟨s2, T317, h317, q317, X317, e317, E317, S317, kk317, Zz317, Ow317, st317⟩ := ldcS (s := s) (vm0 := T296.vm) X307 hx hZ hown (hw _ (List.mem_of_getElem? (i := 23) rfl)) (fun d hd => hw d (strW d hd)) e307 S296 (Nat.le_trans (Nat.le_trans kk296 K303.1) E307.1) (g := (mkF m 51 #[.val (.long sa), .second, .val (.long sb), .second, .val (.int fl), .val (.int p4), .val (.int (1 : Int32)), .val (.int (1 : Int32)), .val (.ref oa), .unset, .unset, .unset, .unset] [(.ref ob), (.ref ob)])) rfl (hb hby at_51) (n := 4) (by decide) (by decide) (by decide) (by decide)
      have hZ := Zz317
      have hown := Ow317
      have F318 : Exa Z h317 oa "com/example/detectability/detectability/ProteinAbundance" := (F308.ext E317)
      have F319 : Fld Z h317 oa "com/example/detectability/detectability/ProteinAbundance" "name" "Ljava/lang/String;" (.ref s1) := (F309.ext E317)
      have F320 : Fld Z h317 oa "com/example/detectability/detectability/ProteinAbundance" "spectra" "J" (.long sa) := (F310.ext E317)
      have F321 : Fld Z h317 oa "com/example/detectability/detectability/ProteinAbundance" "abundance" "D" (.double da) := (F311.ext E317)
      have F322 : Exa Z h317 ob "com/example/detectability/detectability/ProteinAbundance" := (A307.ext E317)
      have F323 : Fld Z h317 ob "com/example/detectability/detectability/ProteinAbundance" "name" "Ljava/lang/String;" .null := (F312.ext E317)
      have F324 : Fld Z h317 ob "com/example/detectability/detectability/ProteinAbundance" "spectra" "J" (.long (0 : Int64)) := (F313.ext E317)
      have F325 : Fld Z h317 ob "com/example/detectability/detectability/ProteinAbundance" "abundance" "D" (.double (0 : UInt64)) := (F314.ext E317)
      have c326 : ∀ t, Steps p.tables e below (T317.setTop (mkF m 53 #[.val (.long sa), .second, .val (.long sb), .second, .val (.int fl), .val (.int p4), .val (.int (1 : Int32)), .val (.int (1 : Int32)), .val (.ref oa), .unset, .unset, .unset, .unset] [(.ref s2), (.ref ob), (.ref ob)])) t → Steps p.tables e below (s₁.setTop (entryFrame m #[(.long sa), (.long sb), (.int fl), (.int p4)] maxLocals)) t := fun t k => c316 t (st317 _ k)
      obtain ⟨db, hdb⟩ : ∃ v : UInt64, FP.i2d ((p4 >>> ((8 : Int32) &&& 31)) &&& (255 : Int32)) = v := ⟨_, rfl⟩
      have c327 : ∀ t, Steps p.tables e below (T317.setTop (mkF m 64 #[.val (.long sa), .second, .val (.long sb), .second, .val (.int fl), .val (.int p4), .val (.int (1 : Int32)), .val (.int (1 : Int32)), .val (.ref oa), .unset, .unset, .unset, .unset] [(.double db), (.long sb), (.ref s2), (.ref ob), (.ref ob)])) t → Steps p.tables e below (s₁.setTop (entryFrame m #[(.long sa), (.long sb), (.int fl), (.int p4)] maxLocals)) t := fun t k => c326 t (by
        show Steps p.tables e below (T317.setTop (mkF m 53 #[.val (.long sa), .second, .val (.long sb), .second, .val (.int fl), .val (.int p4), .val (.int (1 : Int32)), .val (.int (1 : Int32)), .val (.ref oa), .unset, .unset, .unset, .unset] [(.ref s2), (.ref ob), (.ref ob)])) _
        refine XT.lloadN X317.here hx rfl (hb hby at_53) rfl ?_
        show Steps p.tables e below (T317.setTop (mkF m 54 #[.val (.long sa), .second, .val (.long sb), .second, .val (.int fl), .val (.int p4), .val (.int (1 : Int32)), .val (.int (1 : Int32)), .val (.ref oa), .unset, .unset, .unset, .unset] [(.long sb), (.ref s2), (.ref ob), (.ref ob)])) _
        refine XS.iload X317.here hx rfl (hb hby at_54) rfl ?_
        show Steps p.tables e below (T317.setTop (mkF m 56 #[.val (.long sa), .second, .val (.long sb), .second, .val (.int fl), .val (.int p4), .val (.int (1 : Int32)), .val (.int (1 : Int32)), .val (.ref oa), .unset, .unset, .unset, .unset] [(.int p4), (.long sb), (.ref s2), (.ref ob), (.ref ob)])) _
        refine XS.bipush X317.here hx rfl (hb hby at_56) ?_
        show Steps p.tables e below (T317.setTop (mkF m 58 #[.val (.long sa), .second, .val (.long sb), .second, .val (.int fl), .val (.int p4), .val (.int (1 : Int32)), .val (.int (1 : Int32)), .val (.ref oa), .unset, .unset, .unset, .unset] [(.int (8 : Int32)), (.int p4), (.long sb), (.ref s2), (.ref ob), (.ref ob)])) _
        refine XT.ishr X317.here hx rfl (hb hby at_58) rfl ?_
        show Steps p.tables e below (T317.setTop (mkF m 59 #[.val (.long sa), .second, .val (.long sb), .second, .val (.int fl), .val (.int p4), .val (.int (1 : Int32)), .val (.int (1 : Int32)), .val (.ref oa), .unset, .unset, .unset, .unset] [(.int (p4 >>> ((8 : Int32) &&& 31))), (.long sb), (.ref s2), (.ref ob), (.ref ob)])) _
        refine XS.sipush X317.here hx rfl (hb hby at_59) ?_
        show Steps p.tables e below (T317.setTop (mkF m 62 #[.val (.long sa), .second, .val (.long sb), .second, .val (.int fl), .val (.int p4), .val (.int (1 : Int32)), .val (.int (1 : Int32)), .val (.ref oa), .unset, .unset, .unset, .unset] [(.int (255 : Int32)), (.int (p4 >>> ((8 : Int32) &&& 31))), (.long sb), (.ref s2), (.ref ob), (.ref ob)])) _
        refine XS.iand X317.here hx rfl (hb hby at_62) rfl ?_
        show Steps p.tables e below (T317.setTop (mkF m 63 #[.val (.long sa), .second, .val (.long sb), .second, .val (.int fl), .val (.int p4), .val (.int (1 : Int32)), .val (.int (1 : Int32)), .val (.ref oa), .unset, .unset, .unset, .unset] [(.int ((p4 >>> ((8 : Int32) &&& 31)) &&& (255 : Int32))), (.long sb), (.ref s2), (.ref ob), (.ref ob)])) _
        refine XS.i2dS X317.here hx rfl (hb hby at_63) rfl hdb ?_
        show Steps p.tables e below (T317.setTop (mkF m 64 #[.val (.long sa), .second, .val (.long sb), .second, .val (.int fl), .val (.int p4), .val (.int (1 : Int32)), .val (.int (1 : Int32)), .val (.ref oa), .unset, .unset, .unset, .unset] [(.double db), (.long sb), (.ref s2), (.ref ob), (.ref ob)])) _
        exact k)
      obtain ⟨_, _, ⟨T328, L328, k328', n328⟩, -, X328, ⟨Lc328, hQ328, l328, y328, z328⟩, st328⟩ := X317.specialBack hx (y := (⟨"com/example/detectability/detectability/ProteinAbundance", "<init>", "(Ljava/lang/String;JD)V"⟩ : MethodName)) rfl hown (mvT hZ (hw _ (List.mem_of_getElem? (i := 11) rfl))) (mvT hZ (hw _ (List.mem_of_getElem? (i := 12) rfl))) (mvT hZ (hw _ (List.mem_of_getElem? (i := 13) rfl))) (by decide) (backOf (W := 1) (rm_pi l Z a0 hw [] ob s2 sb db h317 n0 (Nat.le_trans (Nat.le_trans (Nat.le_trans (Nat.le_trans (Nat.le_trans Z0 E290.1) E296.1) K303.1) E307.1) E317.1) F322 F323 F324 F325 (Nat.le_trans (Nat.le_trans (Nat.le_trans (Nat.le_trans Z0 E290.1) E296.1) K303.1) (Nat.le_of_eq g307.symm))) hZ (hw _ (List.mem_of_getElem? (i := 13) rfl)) (hw _ (List.mem_of_getElem? (i := 2) rfl)) (by decide) (by decide)) (g := (mkF m 64 #[.val (.long sa), .second, .val (.long sb), .second, .val (.int fl), .val (.int p4), .val (.int (1 : Int32)), .val (.int (1 : Int32)), .val (.ref oa), .unset, .unset, .unset, .unset] [(.double db), (.long sb), (.ref s2), (.ref ob), (.ref ob)])) rfl (by rw [hml]; rfl) (Steps.refl _) (a := ob) (argsL := [(.ref s2), (.long sb), (.double db)]) (rest := [(.ref ob)]) (lenOf pd__Ljava_lang_String_JD_V rfl) rfl (by show 2 * 0 + _ ≤ _; exact Nat.le_of_eq rfl) (hb hby at_64) (fun _ _ => ⟨rfl, e317, (by decide : 6 + 0 ≤ _), (by decide : 22 + 0 ≤ _)⟩)
      dsimp only [Pt.U, Pt.locs, Pt.cells, Pt.slots] at X328 l328 y328 z328 st328 hQ328
      subst l328 y328 z328
      obtain ⟨rfl, N328, K328, G328_0, G328_1, G328_2, G328_3⟩ := hQ328
      have M328 := Fr.app M303 N328
      have F329 : Exa Z T328.heap oa "com/example/detectability/detectability/ProteinAbundance" := (F318.keep K328)
      have F330 : Fld Z T328.heap oa "com/example/detectability/detectability/ProteinAbundance" "name" "Ljava/lang/String;" (.ref s1) := (F319.keep K328 (ninS (Nat.ne_of_lt (Nat.lt_of_lt_of_le G303_0.lt (Nat.le_of_eq g307.symm))) nin0))
      have F331 : Fld Z T328.heap oa "com/example/detectability/detectability/ProteinAbundance" "spectra" "J" (.long sa) := (F320.keep K328 (ninS (Nat.ne_of_lt (Nat.lt_of_lt_of_le G303_0.lt (Nat.le_of_eq g307.symm))) nin0))
      have F332 : Fld Z T328.heap oa "com/example/detectability/detectability/ProteinAbundance" "abundance" "D" (.double da) := (F321.keep K328 (ninS (Nat.ne_of_lt (Nat.lt_of_lt_of_le G303_0.lt (Nat.le_of_eq g307.symm))) nin0))
      have F333 : Exa Z T328.heap ob "com/example/detectability/detectability/ProteinAbundance" := (F322.keep K328)
      have c334 : ∀ t, Steps p.tables e below (T328.setTop (mkF m 67 #[.val (.long sa), .second, .val (.long sb), .second, .val (.int fl), .val (.int p4), .val (.int (1 : Int32)), .val (.int (1 : Int32)), .val (.ref oa), .unset, .unset, .unset, .unset] [(.ref ob)])) t → Steps p.tables e below (s₁.setTop (entryFrame m #[(.long sa), (.long sb), (.int fl), (.int p4)] maxLocals)) t := fun t k => c327 t (st328.trans k)
      have c335 : ∀ t, Steps p.tables e below (T328.setTop (mkF m 69 #[.val (.long sa), .second, .val (.long sb), .second, .val (.int fl), .val (.int p4), .val (.int (1 : Int32)), .val (.int (1 : Int32)), .val (.ref oa), .val (.ref ob), .unset, .unset, .unset] [])) t → Steps p.tables e below (s₁.setTop (entryFrame m #[(.long sa), (.long sb), (.int fl), (.int p4)] maxLocals)) t := fun t k => c334 t (by
        show Steps p.tables e below (T328.setTop (mkF m 67 #[.val (.long sa), .second, .val (.long sb), .second, .val (.int fl), .val (.int p4), .val (.int (1 : Int32)), .val (.int (1 : Int32)), .val (.ref oa), .unset, .unset, .unset, .unset] [(.ref ob)])) _
        refine XS.astore X328.here hx rfl (hb hby at_67) rfl rfl (l' := #[.val (.long sa), .second, .val (.long sb), .second, .val (.int fl), .val (.int p4), .val (.int (1 : Int32)), .val (.int (1 : Int32)), .val (.ref oa), .val (.ref ob), .unset, .unset, .unset]) rfl ?_
        show Steps p.tables e below (T328.setTop (mkF m 69 #[.val (.long sa), .second, .val (.long sb), .second, .val (.int fl), .val (.int p4), .val (.int (1 : Int32)), .val (.int (1 : Int32)), .val (.ref oa), .val (.ref ob), .unset, .unset, .unset] [])) _
        exact k)
      obtain ⟨T336, h336, X336, e336, E336, A336, D336, -, st336⟩ := newO X328 hx hZ hown (hw _ (List.mem_of_getElem? (i := 24) rfl)) (hw _ (List.mem_of_getElem? (i := 25) rfl)) (hw _ (List.mem_of_getElem? (i := 26) rfl)) rfl (g := (mkF m 69 #[.val (.long sa), .second, .val (.long sb), .second, .val (.int fl), .val (.int p4), .val (.int (1 : Int32)), .val (.int (1 : Int32)), .val (.ref oa), .val (.ref ob), .unset, .unset, .unset] [])) rfl (hb hby at_69) (by decide) (by decide)
      obtain ⟨oc, g336⟩ : ∃ z, z = T328.heap.size := ⟨_, rfl⟩
      rw [← g336] at A336 D336 st336
      have F337 : Exa Z h336 oa "com/example/detectability/detectability/ProteinAbundance" := (F329.ext E336)
      have F338 : Fld Z h336 oa "com/example/detectability/detectability/ProteinAbundance" "name" "Ljava/lang/String;" (.ref s1) := (F330.ext E336)
      have F339 : Fld Z h336 oa "com/example/detectability/detectability/ProteinAbundance" "spectra" "J" (.long sa) := (F331.ext E336)
      have F340 : Fld Z h336 oa "com/example/detectability/detectability/ProteinAbundance" "abundance" "D" (.double da) := (F332.ext E336)
      have F341 : Exa Z h336 ob "com/example/detectability/detectability/ProteinAbundance" := (G328_0.ext E336)
      have F342 : Fld Z h336 ob "com/example/detectability/detectability/ProteinAbundance" "name" "Ljava/lang/String;" (.ref s2) := (G328_1.ext E336)
      have F343 : Fld Z h336 ob "com/example/detectability/detectability/ProteinAbundance" "spectra" "J" (.long sb) := (G328_2.ext E336)
      have F344 : Fld Z h336 ob "com/example/detectability/detectability/ProteinAbundance" "abundance" "D" (.double db) := (G328_3.ext E336)
      have F345 : Fld Z h336 oc "com/example/detectability/detectability/ComparedProtein" "name" "Ljava/lang/String;" .null := (D336 (Or.inr (hw _ (List.mem_of_getElem? (i := 33) rfl))) (ty := (.object "java/lang/String")) (by decide))
      have F346 : Fld Z h336 oc "com/example/detectability/detectability/ComparedProtein" "inA" "Lcom/example/detectability/detectability/ProteinAbundance;" .null := (D336 (Or.inr (hw _ (List.mem_of_getElem? (i := 35) rfl))) (ty := (.object "com/example/detectability/detectability/ProteinAbundance")) (by decide))
      have F347 : Fld Z h336 oc "com/example/detectability/detectability/ComparedProtein" "inB" "Lcom/example/detectability/detectability/ProteinAbundance;" .null := (D336 (Or.inr (hw _ (List.mem_of_getElem? (i := 37) rfl))) (ty := (.object "com/example/detectability/detectability/ProteinAbundance")) (by decide))
      have F348 : Fld Z h336 oc "com/example/detectability/detectability/ComparedProtein" "z" "D" (.double (0 : UInt64)) := (D336 (Or.inr (hw _ (List.mem_of_getElem? (i := 39) rfl))) (ty := .double) (by decide))
      have F349 : Fld Z h336 oc "com/example/detectability/detectability/ComparedProtein" "p" "D" (.double (0 : UInt64)) := (D336 (Or.inr (hw _ (List.mem_of_getElem? (i := 41) rfl))) (ty := .double) (by decide))
      have c350 : ∀ t, Steps p.tables e below (T336.setTop (mkF m 72 #[.val (.long sa), .second, .val (.long sb), .second, .val (.int fl), .val (.int p4), .val (.int (1 : Int32)), .val (.int (1 : Int32)), .val (.ref oa), .val (.ref ob), .unset, .unset, .unset] [(.ref oc)])) t → Steps p.tables e below (s₁.setTop (entryFrame m #[(.long sa), (.long sb), (.int fl), (.int p4)] maxLocals)) t := fun t k => c335 t (st336 _ k)
      have c351 : ∀ t, Steps p.tables e below (T336.setTop (mkF m 73 #[.val (.long sa), .second, .val (.long sb), .second, .val (.int fl), .val (.int p4), .val (.int (1 : Int32)), .val (.int (1 : Int32)), .val (.ref oa), .val (.ref ob), .unset, .unset, .unset] [(.ref oc), (.ref oc)])) t → Steps p.tables e below (s₁.setTop (entryFrame m #[(.long sa), (.long sb), (.int fl), (.int p4)] maxLocals)) t := fun t k => c350 t (by
        show Steps p.tables e below (T336.setTop (mkF m 72 #[.val (.long sa), .second, .val (.long sb), .second, .val (.int fl), .val (.int p4), .val (.int (1 : Int32)), .val (.int (1 : Int32)), .val (.ref oa), .val (.ref ob), .unset, .unset, .unset] [(.ref oc)])) _
        refine XS.dup X336.here hx rfl (hb hby at_72) rfl rfl ?_
        show Steps p.tables e below (T336.setTop (mkF m 73 #[.val (.long sa), .second, .val (.long sb), .second, .val (.int fl), .val (.int p4), .val (.int (1 : Int32)), .val (.int (1 : Int32)), .val (.ref oa), .val (.ref ob), .unset, .unset, .unset] [(.ref oc), (.ref oc)])) _
        exact k)
      obtain ⟨s3, T352, h352, q352, X352, e352, E352, S352, kk352, Zz352, Ow352, st352⟩ := ldcS (s := s) (vm0 := T317.vm) X336 hx hZ hown (hw _ (List.mem_of_getElem? (i := 27) rfl)) (fun d hd => hw d (strW d hd)) e336 S317 (Nat.le_trans (Nat.le_trans kk317 K328.1) E336.1) (g := (mkF m 73 #[.val (.long sa), .second, .val (.long sb), .second, .val (.int fl), .val (.int p4), .val (.int (1 : Int32)), .val (.int (1 : Int32)), .val (.ref oa), .val (.ref ob), .unset, .unset, .unset] [(.ref oc), (.ref oc)])) rfl (hb hby at_73) (n := 4) (by decide) (by decide) (by decide) (by decide)
      have hZ := Zz352
      have hown := Ow352
      have F353 : Exa Z h352 oa "com/example/detectability/detectability/ProteinAbundance" := (F337.ext E352)
      have F354 : Fld Z h352 oa "com/example/detectability/detectability/ProteinAbundance" "name" "Ljava/lang/String;" (.ref s1) := (F338.ext E352)
      have F355 : Fld Z h352 oa "com/example/detectability/detectability/ProteinAbundance" "spectra" "J" (.long sa) := (F339.ext E352)
      have F356 : Fld Z h352 oa "com/example/detectability/detectability/ProteinAbundance" "abundance" "D" (.double da) := (F340.ext E352)
      have F357 : Exa Z h352 ob "com/example/detectability/detectability/ProteinAbundance" := (F341.ext E352)
      have F358 : Fld Z h352 ob "com/example/detectability/detectability/ProteinAbundance" "name" "Ljava/lang/String;" (.ref s2) := (F342.ext E352)
      have F359 : Fld Z h352 ob "com/example/detectability/detectability/ProteinAbundance" "spectra" "J" (.long sb) := (F343.ext E352)
      have F360 : Fld Z h352 ob "com/example/detectability/detectability/ProteinAbundance" "abundance" "D" (.double db) := (F344.ext E352)
      have F361 : Exa Z h352 oc "com/example/detectability/detectability/ComparedProtein" := (A336.ext E352)
      have F362 : Fld Z h352 oc "com/example/detectability/detectability/ComparedProtein" "name" "Ljava/lang/String;" .null := (F345.ext E352)
      have F363 : Fld Z h352 oc "com/example/detectability/detectability/ComparedProtein" "inA" "Lcom/example/detectability/detectability/ProteinAbundance;" .null := (F346.ext E352)
      have F364 : Fld Z h352 oc "com/example/detectability/detectability/ComparedProtein" "inB" "Lcom/example/detectability/detectability/ProteinAbundance;" .null := (F347.ext E352)
      have F365 : Fld Z h352 oc "com/example/detectability/detectability/ComparedProtein" "z" "D" (.double (0 : UInt64)) := (F348.ext E352)
      have F366 : Fld Z h352 oc "com/example/detectability/detectability/ComparedProtein" "p" "D" (.double (0 : UInt64)) := (F349.ext E352)
      have c367 : ∀ t, Steps p.tables e below (T352.setTop (mkF m 75 #[.val (.long sa), .second, .val (.long sb), .second, .val (.int fl), .val (.int p4), .val (.int (1 : Int32)), .val (.int (1 : Int32)), .val (.ref oa), .val (.ref ob), .unset, .unset, .unset] [(.ref s3), (.ref oc), (.ref oc)])) t → Steps p.tables e below (s₁.setTop (entryFrame m #[(.long sa), (.long sb), (.int fl), (.int p4)] maxLocals)) t := fun t k => c351 t (st352 _ k)
      have c368 : ∀ t, Steps p.tables e below (T352.setTop (mkF m 99 #[.val (.long sa), .second, .val (.long sb), .second, .val (.int fl), .val (.int p4), .val (.int (1 : Int32)), .val (.int (1 : Int32)), .val (.ref oa), .val (.ref ob), .unset, .unset, .unset] [(.double FP.dconst0), (.double FP.dconst0), (.ref ob), (.ref oa), (.ref s3), (.ref oc), (.ref oc)])) t → Steps p.tables e below (s₁.setTop (entryFrame m #[(.long sa), (.long sb), (.int fl), (.int p4)] maxLocals)) t := fun t k => c367 t (by
        show Steps p.tables e below (T352.setTop (mkF m 75 #[.val (.long sa), .second, .val (.long sb), .second, .val (.int fl), .val (.int p4), .val (.int (1 : Int32)), .val (.int (1 : Int32)), .val (.ref oa), .val (.ref ob), .unset, .unset, .unset] [(.ref s3), (.ref oc), (.ref oc)])) _
        refine XS.iload X352.here hx rfl (hb hby at_75) rfl ?_
        show Steps p.tables e below (T352.setTop (mkF m 77 #[.val (.long sa), .second, .val (.long sb), .second, .val (.int fl), .val (.int p4), .val (.int (1 : Int32)), .val (.int (1 : Int32)), .val (.ref oa), .val (.ref ob), .unset, .unset, .unset] [(.int (1 : Int32)), (.ref s3), (.ref oc), (.ref oc)])) _
        refine XS.ifNo X352.here hx rfl (hb hby at_77) rfl (XT.i0_eq_f (by decide)) ?_
        show Steps p.tables e below (T352.setTop (mkF m 80 #[.val (.long sa), .second, .val (.long sb), .second, .val (.int fl), .val (.int p4), .val (.int (1 : Int32)), .val (.int (1 : Int32)), .val (.ref oa), .val (.ref ob), .unset, .unset, .unset] [(.ref s3), (.ref oc), (.ref oc)])) _
        refine XS.aload X352.here hx rfl (hb hby at_80) rfl rfl ?_
        show Steps p.tables e below (T352.setTop (mkF m 82 #[.val (.long sa), .second, .val (.long sb), .second, .val (.int fl), .val (.int p4), .val (.int (1 : Int32)), .val (.int (1 : Int32)), .val (.ref oa), .val (.ref ob), .unset, .unset, .unset] [(.ref oa), (.ref s3), (.ref oc), (.ref oc)])) _
        refine XS.goto X352.here hx rfl (pc0 := 82) (pc' := 86) rfl (hb hby at_82) (by decide) (by decide) ?_
        show Steps p.tables e below (T352.setTop (mkF m 86 #[.val (.long sa), .second, .val (.long sb), .second, .val (.int fl), .val (.int p4), .val (.int (1 : Int32)), .val (.int (1 : Int32)), .val (.ref oa), .val (.ref ob), .unset, .unset, .unset] [(.ref oa), (.ref s3), (.ref oc), (.ref oc)])) _
        refine XS.iload X352.here hx rfl (hb hby at_86) rfl ?_
        show Steps p.tables e below (T352.setTop (mkF m 88 #[.val (.long sa), .second, .val (.long sb), .second, .val (.int fl), .val (.int p4), .val (.int (1 : Int32)), .val (.int (1 : Int32)), .val (.ref oa), .val (.ref ob), .unset, .unset, .unset] [(.int (1 : Int32)), (.ref oa), (.ref s3), (.ref oc), (.ref oc)])) _
        refine XS.ifNo X352.here hx rfl (hb hby at_88) rfl (XT.i0_eq_f (by decide)) ?_
        show Steps p.tables e below (T352.setTop (mkF m 91 #[.val (.long sa), .second, .val (.long sb), .second, .val (.int fl), .val (.int p4), .val (.int (1 : Int32)), .val (.int (1 : Int32)), .val (.ref oa), .val (.ref ob), .unset, .unset, .unset] [(.ref oa), (.ref s3), (.ref oc), (.ref oc)])) _
        refine XS.aload X352.here hx rfl (hb hby at_91) rfl rfl ?_
        show Steps p.tables e below (T352.setTop (mkF m 93 #[.val (.long sa), .second, .val (.long sb), .second, .val (.int fl), .val (.int p4), .val (.int (1 : Int32)), .val (.int (1 : Int32)), .val (.ref oa), .val (.ref ob), .unset, .unset, .unset] [(.ref ob), (.ref oa), (.ref s3), (.ref oc), (.ref oc)])) _
        refine XS.goto X352.here hx rfl (pc0 := 93) (pc' := 97) rfl (hb hby at_93) (by decide) (by decide) ?_
        show Steps p.tables e below (T352.setTop (mkF m 97 #[.val (.long sa), .second, .val (.long sb), .second, .val (.int fl), .val (.int p4), .val (.int (1 : Int32)), .val (.int (1 : Int32)), .val (.ref oa), .val (.ref ob), .unset, .unset, .unset] [(.ref ob), (.ref oa), (.ref s3), (.ref oc), (.ref oc)])) _
        refine XS.dconst0 X352.here hx rfl (hb hby at_97) rfl ?_
        show Steps p.tables e below (T352.setTop (mkF m 98 #[.val (.long sa), .second, .val (.long sb), .second, .val (.int fl), .val (.int p4), .val (.int (1 : Int32)), .val (.int (1 : Int32)), .val (.ref oa), .val (.ref ob), .unset, .unset, .unset] [(.double FP.dconst0), (.ref ob), (.ref oa), (.ref s3), (.ref oc), (.ref oc)])) _
        refine XS.dconst0 X352.here hx rfl (hb hby at_98) rfl ?_
        show Steps p.tables e below (T352.setTop (mkF m 99 #[.val (.long sa), .second, .val (.long sb), .second, .val (.int fl), .val (.int p4), .val (.int (1 : Int32)), .val (.int (1 : Int32)), .val (.ref oa), .val (.ref ob), .unset, .unset, .unset] [(.double FP.dconst0), (.double FP.dconst0), (.ref ob), (.ref oa), (.ref s3), (.ref oc), (.ref oc)])) _
        exact k)
      obtain ⟨_, _, ⟨T369, L369, k369', n369⟩, -, X369, ⟨Lc369, hQ369, l369, y369, z369⟩, st369⟩ := X352.specialBack hx (y := (⟨"com/example/detectability/detectability/ComparedProtein", "<init>", "(Ljava/lang/String;Lcom/example/detectability/detectability/ProteinAbundance;Lcom/example/detectability/detectability/ProteinAbundance;DD)V"⟩ : MethodName)) rfl hown (mvT hZ (hw _ (List.mem_of_getElem? (i := 28) rfl))) (mvT hZ (hw _ (List.mem_of_getElem? (i := 29) rfl))) (mvT hZ (hw _ (List.mem_of_getElem? (i := 30) rfl))) (by decide) (backOf (W := 1) (rm_ci11 l Z a0 hw [] oc s3 oa ob FP.dconst0 FP.dconst0 h352 n0 (Nat.le_trans (Nat.le_trans (Nat.le_trans (Nat.le_trans (Nat.le_trans (Nat.le_trans (Nat.le_trans (Nat.le_trans Z0 E290.1) E296.1) K303.1) E307.1) E317.1) K328.1) E336.1) E352.1) F361 F362 F363 F364 F365 F366 (Nat.le_trans (Nat.le_trans (Nat.le_trans (Nat.le_trans (Nat.le_trans (Nat.le_trans (Nat.le_trans Z0 E290.1) E296.1) K303.1) E307.1) E317.1) K328.1) (Nat.le_of_eq g336.symm))) hZ (hw _ (List.mem_of_getElem? (i := 30) rfl)) (hw _ (List.mem_of_getElem? (i := 26) rfl)) (by decide) (by decide)) (g := (mkF m 99 #[.val (.long sa), .second, .val (.long sb), .second, .val (.int fl), .val (.int p4), .val (.int (1 : Int32)), .val (.int (1 : Int32)), .val (.ref oa), .val (.ref ob), .unset, .unset, .unset] [(.double FP.dconst0), (.double FP.dconst0), (.ref ob), (.ref oa), (.ref s3), (.ref oc), (.ref oc)])) rfl (by rw [hml]; rfl) (Steps.refl _) (a := oc) (argsL := [(.ref s3), (.ref oa), (.ref ob), (.double FP.dconst0), (.double FP.dconst0)]) (rest := [(.ref oc)]) (lenOf pd__Ljava_lang_String_Lcom_example_detectability_detectability_ProteinAbundance_Lcom_example_detectability_detectability_ProteinAbundance_DD_V rfl) rfl (by show 2 * 0 + _ ≤ _; exact Nat.le_of_eq rfl) (hb hby at_99) (fun _ _ => ⟨rfl, e352, (by decide : 9 + 0 ≤ _), (by decide : 35 + 0 ≤ _)⟩)
      dsimp only [Pt.U, Pt.locs, Pt.cells, Pt.slots] at X369 l369 y369 z369 st369 hQ369
      subst l369 y369 z369
      obtain ⟨rfl, N369, K369, G369_0, G369_1, G369_2, G369_3, G369_4, G369_5⟩ := hQ369
      have M369 := Fr.app M328 N369
      have F370 : Exa Z T369.heap oa "com/example/detectability/detectability/ProteinAbundance" := (F353.keep K369)
      have F371 : Fld Z T369.heap oa "com/example/detectability/detectability/ProteinAbundance" "name" "Ljava/lang/String;" (.ref s1) := (F354.keep K369 (ninS (Nat.ne_of_lt (Nat.lt_of_lt_of_le F329.lt (Nat.le_of_eq g336.symm))) nin0))
      have F372 : Fld Z T369.heap oa "com/example/detectability/detectability/ProteinAbundance" "spectra" "J" (.long sa) := (F355.keep K369 (ninS (Nat.ne_of_lt (Nat.lt_of_lt_of_le F329.lt (Nat.le_of_eq g336.symm))) nin0))
      have F373 : Fld Z T369.heap oa "com/example/detectability/detectability/ProteinAbundance" "abundance" "D" (.double da) := (F356.keep K369 (ninS (Nat.ne_of_lt (Nat.lt_of_lt_of_le F329.lt (Nat.le_of_eq g336.symm))) nin0))
      have F374 : Exa Z T369.heap ob "com/example/detectability/detectability/ProteinAbundance" := (F357.keep K369)
      have F375 : Fld Z T369.heap ob "com/example/detectability/detectability/ProteinAbundance" "name" "Ljava/lang/String;" (.ref s2) := (F358.keep K369 (ninS (Nat.ne_of_lt (Nat.lt_of_lt_of_le G328_0.lt (Nat.le_of_eq g336.symm))) nin0))
      have F376 : Fld Z T369.heap ob "com/example/detectability/detectability/ProteinAbundance" "spectra" "J" (.long sb) := (F359.keep K369 (ninS (Nat.ne_of_lt (Nat.lt_of_lt_of_le G328_0.lt (Nat.le_of_eq g336.symm))) nin0))
      have F377 : Fld Z T369.heap ob "com/example/detectability/detectability/ProteinAbundance" "abundance" "D" (.double db) := (F360.keep K369 (ninS (Nat.ne_of_lt (Nat.lt_of_lt_of_le G328_0.lt (Nat.le_of_eq g336.symm))) nin0))
      have F378 : Exa Z T369.heap oc "com/example/detectability/detectability/ComparedProtein" := (F361.keep K369)
      have c379 : ∀ t, Steps p.tables e below (T369.setTop (mkF m 102 #[.val (.long sa), .second, .val (.long sb), .second, .val (.int fl), .val (.int p4), .val (.int (1 : Int32)), .val (.int (1 : Int32)), .val (.ref oa), .val (.ref ob), .unset, .unset, .unset] [(.ref oc)])) t → Steps p.tables e below (s₁.setTop (entryFrame m #[(.long sa), (.long sb), (.int fl), (.int p4)] maxLocals)) t := fun t k => c368 t (st369.trans k)
      have c380 : ∀ t, Steps p.tables e below (T369.setTop (mkF m 118 #[.val (.long sa), .second, .val (.long sb), .second, .val (.int fl), .val (.int p4), .val (.int (1 : Int32)), .val (.int (1 : Int32)), .val (.ref oa), .val (.ref ob), .val (.ref oc), .val (.long sa), .second] [(.ref oc)])) t → Steps p.tables e below (s₁.setTop (entryFrame m #[(.long sa), (.long sb), (.int fl), (.int p4)] maxLocals)) t := fun t k => c379 t (by
        show Steps p.tables e below (T369.setTop (mkF m 102 #[.val (.long sa), .second, .val (.long sb), .second, .val (.int fl), .val (.int p4), .val (.int (1 : Int32)), .val (.int (1 : Int32)), .val (.ref oa), .val (.ref ob), .unset, .unset, .unset] [(.ref oc)])) _
        refine XS.astore X369.here hx rfl (hb hby at_102) rfl rfl (l' := #[.val (.long sa), .second, .val (.long sb), .second, .val (.int fl), .val (.int p4), .val (.int (1 : Int32)), .val (.int (1 : Int32)), .val (.ref oa), .val (.ref ob), .val (.ref oc), .unset, .unset]) rfl ?_
        show Steps p.tables e below (T369.setTop (mkF m 104 #[.val (.long sa), .second, .val (.long sb), .second, .val (.int fl), .val (.int p4), .val (.int (1 : Int32)), .val (.int (1 : Int32)), .val (.ref oa), .val (.ref ob), .val (.ref oc), .unset, .unset] [])) _
        refine XS.iload X369.here hx rfl (hb hby at_104) rfl ?_
        show Steps p.tables e below (T369.setTop (mkF m 106 #[.val (.long sa), .second, .val (.long sb), .second, .val (.int fl), .val (.int p4), .val (.int (1 : Int32)), .val (.int (1 : Int32)), .val (.ref oa), .val (.ref ob), .val (.ref oc), .unset, .unset] [(.int (1 : Int32))])) _
        refine XS.ifNo X369.here hx rfl (hb hby at_106) rfl (XT.i0_eq_f (by decide)) ?_
        show Steps p.tables e below (T369.setTop (mkF m 109 #[.val (.long sa), .second, .val (.long sb), .second, .val (.int fl), .val (.int p4), .val (.int (1 : Int32)), .val (.int (1 : Int32)), .val (.ref oa), .val (.ref ob), .val (.ref oc), .unset, .unset] [])) _
        refine XT.lloadN X369.here hx rfl (hb hby at_109) rfl ?_
        show Steps p.tables e below (T369.setTop (mkF m 110 #[.val (.long sa), .second, .val (.long sb), .second, .val (.int fl), .val (.int p4), .val (.int (1 : Int32)), .val (.int (1 : Int32)), .val (.ref oa), .val (.ref ob), .val (.ref oc), .unset, .unset] [(.long sa)])) _
        refine XS.goto X369.here hx rfl (pc0 := 110) (pc' := 114) rfl (hb hby at_110) (by decide) (by decide) ?_
        show Steps p.tables e below (T369.setTop (mkF m 114 #[.val (.long sa), .second, .val (.long sb), .second, .val (.int fl), .val (.int p4), .val (.int (1 : Int32)), .val (.int (1 : Int32)), .val (.ref oa), .val (.ref ob), .val (.ref oc), .unset, .unset] [(.long sa)])) _
        refine XT.lstore X369.here hx rfl (hb hby at_114) rfl (l' := #[.val (.long sa), .second, .val (.long sb), .second, .val (.int fl), .val (.int p4), .val (.int (1 : Int32)), .val (.int (1 : Int32)), .val (.ref oa), .val (.ref ob), .val (.ref oc), .val (.long sa), .second]) rfl ?_
        show Steps p.tables e below (T369.setTop (mkF m 116 #[.val (.long sa), .second, .val (.long sb), .second, .val (.int fl), .val (.int p4), .val (.int (1 : Int32)), .val (.int (1 : Int32)), .val (.ref oa), .val (.ref ob), .val (.ref oc), .val (.long sa), .second] [])) _
        refine XS.aload X369.here hx rfl (hb hby at_116) rfl rfl ?_
        show Steps p.tables e below (T369.setTop (mkF m 118 #[.val (.long sa), .second, .val (.long sb), .second, .val (.int fl), .val (.int p4), .val (.int (1 : Int32)), .val (.int (1 : Int32)), .val (.ref oa), .val (.ref ob), .val (.ref oc), .val (.long sa), .second] [(.ref oc)])) _
        exact k)
      obtain ⟨cq381, kq381, q381a, q381b, q381c⟩ := isOf hZ rfl G369_0
      obtain ⟨_, _, ⟨T381, L381, k381', n381⟩, -, X381, ⟨Lc381, hQ381, l381, y381, z381⟩, st381⟩ := X369.virtualBack hx (y := (⟨"com/example/detectability/detectability/ComparedProtein", "getSpectraA", "()J"⟩ : MethodName)) (z := (⟨"com/example/detectability/detectability/ComparedProtein", "getSpectraA", "()J"⟩ : MethodName)) hown (mvT hZ (hw _ (List.mem_of_getElem? (i := 42) rfl))) (mvT hZ (hw _ (List.mem_of_getElem? (i := 43) rfl))) (notFace_of_selects (args := #[]) (mvT hZ (hw _ (List.mem_of_getElem? (i := 45) rfl)))) (mvT hZ (hw _ (List.mem_of_getElem? (i := 45) rfl))) (mvT hZ (hw _ (List.mem_of_getElem? (i := 44) rfl))) (by decide) (backOf (W := 0) (rm_cg1 l Z a0 hw [] oc oa sa T369.heap n0 (Nat.le_trans (Nat.le_trans (Nat.le_trans (Nat.le_trans (Nat.le_trans (Nat.le_trans (Nat.le_trans (Nat.le_trans (Nat.le_trans Z0 E290.1) E296.1) K303.1) E307.1) E317.1) K328.1) E336.1) E352.1) K369.1) G369_2 F370 F372) hZ (hw _ (List.mem_of_getElem? (i := 46) rfl)) (hw _ (List.mem_of_getElem? (i := 26) rfl)) (by decide) (by decide)) q381a q381c (g := (mkF m 118 #[.val (.long sa), .second, .val (.long sb), .second, .val (.int fl), .val (.int p4), .val (.int (1 : Int32)), .val (.int (1 : Int32)), .val (.ref oa), .val (.ref ob), .val (.ref oc), .val (.long sa), .second] [(.ref oc)])) rfl (by rw [hml]; rfl) (Steps.refl _) (argsL := []) (rest := []) (lenOf pd___J rfl) rfl (by show 2 * 0 + _ ≤ _; exact Nat.le_of_eq rfl) (hb hby at_118) (fun _ _ => ⟨rfl, rfl, (by decide : 9 + 0 ≤ _), (by decide : 35 + 0 ≤ _)⟩)
      dsimp only [Pt.U, Pt.locs, Pt.cells, Pt.slots] at X381 l381 y381 z381 st381 hQ381
      subst l381 y381 z381
      obtain ⟨rfl, N381, e381⟩ := hQ381
      have M381 := Fr.app M369 N381
      have c382 : ∀ t, Steps p.tables e below (T381.setTop (mkF m 121 #[.val (.long sa), .second, .val (.long sb), .second, .val (.int fl), .val (.int p4), .val (.int (1 : Int32)), .val (.int (1 : Int32)), .val (.ref oa), .val (.ref ob), .val (.ref oc), .val (.long sa), .second] [(.long sa)])) t → Steps p.tables e below (s₁.setTop (entryFrame m #[(.long sa), (.long sb), (.int fl), (.int p4)] maxLocals)) t := fun t k => c380 t (st381.trans k)
      have c383 : ∀ t, Steps p.tables e below (T381.setTop (mkF m 132 #[.val (.long sa), .second, .val (.long sb), .second, .val (.int fl), .val (.int p4), .val (.int (1 : Int32)), .val (.int (1 : Int32)), .val (.ref oa), .val (.ref ob), .val (.ref oc), .val (.long sa), .second] [(.int (1 : Int32))])) t → Steps p.tables e below (s₁.setTop (entryFrame m #[(.long sa), (.long sb), (.int fl), (.int p4)] maxLocals)) t := fun t k => c382 t (by
        show Steps p.tables e below (T381.setTop (mkF m 121 #[.val (.long sa), .second, .val (.long sb), .second, .val (.int fl), .val (.int p4), .val (.int (1 : Int32)), .val (.int (1 : Int32)), .val (.ref oa), .val (.ref ob), .val (.ref oc), .val (.long sa), .second] [(.long sa)])) _
        refine XT.lload X381.here hx rfl (hb hby at_121) rfl ?_
        show Steps p.tables e below (T381.setTop (mkF m 123 #[.val (.long sa), .second, .val (.long sb), .second, .val (.int fl), .val (.int p4), .val (.int (1 : Int32)), .val (.int (1 : Int32)), .val (.ref oa), .val (.ref ob), .val (.ref oc), .val (.long sa), .second] [(.long sa), (.long sa)])) _
        refine XT.lcmp X381.here hx rfl (hb hby at_123) rfl ?_
        show Steps p.tables e below (T381.setTop (mkF m 124 #[.val (.long sa), .second, .val (.long sb), .second, .val (.int fl), .val (.int p4), .val (.int (1 : Int32)), .val (.int (1 : Int32)), .val (.ref oa), .val (.ref ob), .val (.ref oc), .val (.long sa), .second] [(.int (XT.cmpL sa sa))])) _
        refine XS.ifNo X381.here hx rfl (hb hby at_124) rfl (XT.ll_ne_f (rfl)) ?_
        show Steps p.tables e below (T381.setTop (mkF m 127 #[.val (.long sa), .second, .val (.long sb), .second, .val (.int fl), .val (.int p4), .val (.int (1 : Int32)), .val (.int (1 : Int32)), .val (.ref oa), .val (.ref ob), .val (.ref oc), .val (.long sa), .second] [])) _
        refine XS.iconst X381.here hx rfl (hb hby at_127) ?_
        show Steps p.tables e below (T381.setTop (mkF m 128 #[.val (.long sa), .second, .val (.long sb), .second, .val (.int fl), .val (.int p4), .val (.int (1 : Int32)), .val (.int (1 : Int32)), .val (.ref oa), .val (.ref ob), .val (.ref oc), .val (.long sa), .second] [(.int (1 : Int32))])) _
        refine XS.goto X381.here hx rfl (pc0 := 128) (pc' := 132) rfl (hb hby at_128) (by decide) (by decide) ?_
        show Steps p.tables e below (T381.setTop (mkF m 132 #[.val (.long sa), .second, .val (.long sb), .second, .val (.int fl), .val (.int p4), .val (.int (1 : Int32)), .val (.int (1 : Int32)), .val (.ref oa), .val (.ref ob), .val (.ref oc), .val (.long sa), .second] [(.int (1 : Int32))])) _
        exact k)
      have hsz : q352 ≤ T381.heap.size := by rw [e381]; exact (Nat.le_trans kk352 K369.1)
      obtain ⟨fs, hr, hrun, hended, hRW⟩ := Jvm.Stand.leaveW (s := s) (vm₁ := T352.vm) X381 S352 hsz (v := (some (.int (1 : Int32)))) (fun h => by rw [Bd.returns] at h; cases h)
      refine ⟨_, _, pre0 _ (c383 _ (retN X381 hx (t := .boolean) Bd.returns (by simp) (hb hby at_132) hr)), hrun, hended, _, _, rfl, ?_, hRW.1, hRW.2.1, hRW.2.2.1, hRW.2.2.2.mono (by decide) (by decide)⟩
      show Q_0 Z sa sb fl p4 h0 n0 _ T381.heap _
      rw [e381]
      exact ⟨rfl, M381⟩
set_option maxRecDepth 65536 in
set_option maxHeartbeats 40000000 in
theorem comes_1 {Post : Tables → Env → Array Value → State → Outcome → State → Prop} (hpost : ∀ tb e args s v u, (limb_1_1.after args s (.returned v) u = true ∧ limb_1_2.after args s (.returned v) u = true ∧ True) → ReturnedEndW s (.returned v) u (Jvm.fieldLocs frame_1_writes args s ++ Jvm.arrayLocs frame_1_arrays args s ++ Jvm.staticLocs frame_1_statics s) 24 3200 → Post tb e args s (.returned v) u) :
    ArmFor flags0 classFile x code maxLocals ret World_1 tables_1 room_1 Calls_1 rest_1 Pre_1 Post := by
  intro l hfl _ _ p e ha hc hk s m args below hf hA hF happ hP
  obtain ⟨hcalls, hrest, hpre⟩ := hP
  obtain ⟨-, -, -, hnamed, -, -, -, hat⟩ := (Spec.applies_iff hf).mp happ
  obtain ⟨hg, hn⟩ := and_e (Cond.before_iff.mp (show (Jvm.Cond.and given_1 narrow_1).before args s = true from hpre))
  obtain ⟨g0, r0⟩ := and_e hg
  obtain ⟨g1, r1⟩ := and_e r0
  obtain ⟨g2, r2⟩ := and_e r1
  obtain ⟨g3, r3⟩ := and_e r2
  obtain ⟨w0, w1, w2, w3, rfl⟩ : ∃ w0 w1 w2 w3 : Value, args = #[w0, w1, w2, w3] := by
    have hs : args.size = 4 := by simpa [Cond.value, given_1] using g0
    obtain ⟨L⟩ := args
    match L, hs with
    | [w0, w1, w2, w3], _ => exact ⟨w0, w1, w2, w3, rfl⟩
  have hw := fun d (hd : d ∈ tables_1) => atoms_spec (ws := Jvm.Cond.code x code maxLocals ret :: tables_1) hat d (List.mem_cons_of_mem _ hd)
  obtain ⟨i0, e0⟩ := isL_v g1
  obtain rfl : w0 = (.long i0) := Option.some.inj e0
  obtain ⟨i1, e1⟩ := isL_v g2
  obtain rfl : w1 = (.long i1) := Option.some.inj e1
  obtain ⟨i2, e2⟩ := is_v g3
  obtain rfl : w2 = (.int i2) := Option.some.inj e2
  obtain ⟨i3, e3⟩ := is_v r3
  obtain rfl : w3 = (.int i3) := Option.some.inj e3
  obtain ⟨n, o, h1, h2, h3, _, L, rfl, ⟨rfl, N⟩, hq⟩ := rm_0 l s _ hw tables_1 i0 i1 i2 i3 s.heap s.heap.size (Nat.le_refl _)  p e ha hc hk s m _ below hf ((Spec.applies_iff_loose hf).mp happ).1 ⟨rfl, State.Warmed39.refl s, rfl⟩ trivial
  refine ⟨n, _, h1, h2, h3, hpost _ _ _ _ _ _ ⟨Cond.after_iff.mpr rfl, Cond.after_iff.mpr (eq_i res_at (Term.int_eval (1)) rfl), trivial⟩ ⟨hq.1, hq.2.1, hq.2.2.1, (hq.2.2.2.sift fun y hy => Or.inr (N y hy)).mono (by decide) (by decide)⟩⟩
theorem main_1_1 : Claimed_1_1 := comes_1 fun _ _ _ _ _ _ h hF => ⟨h.1, hF⟩
theorem main_1_2 : Claimed_1_2 := comes_1 fun _ _ _ _ _ _ h hF => ⟨h.2.1, hF⟩
end Jvm.Pilot.@@N@@
namespace Jvm.Pilot.@@N@@
open Jvm Jvm.ClassFile Sem Op Lib Jvm.Free Jvm.Stand Jvm.Pilot.@@N@@.Jvm.D
/-! MADE BY PROGRAM (witnessworld.py) out of the Statement's table words and the real class files: 15 classes; the members and pool entries that the words name. The judged class is class 1, her method 1. -/
namespace start1
open Jvm.ClassFile
def u (s : String) : CpInfo := .utf8 (stringToUtf16 s)
/-- a pool by its gaps: so many unusable entries, then the entry; so many at the end -/
def gap : Nat → List CpInfo → List CpInfo
  | 0, r => r
  | n + 1, r => .unusable :: gap n r
def poolList (es : List (Nat × CpInfo)) (last : Nat) : List CpInfo := es.foldr (fun e r => gap e.1 (e.2 :: r)) (gap last [])
def pool (es : List (Nat × CpInfo)) (last : Nat) : Array CpInfo := ⟨poolList es last⟩
def fileOf (pool : Array CpInfo) (this : Nat) (attrs : Array Attribute := #[]) (ms : Array MethodInfo := #[]) (fl : Nat := 33) (sup : Nat := 0) (ifs : Array Nat := #[]) (fds : Array FieldInfo := #[]) : ClassFile where
  minorVersion := 0
  majorVersion := 65
  constantPool := pool
  accessFlags := fl
  thisClass := this
  superClass := sup
  interfaces := ifs
  fields := fds
  methods := ms
  attributes := attrs
def plain (name : String) (sup : Option ClassId) : Class where
  name := name
  kind := .ordinary
  loader := none
  accessFlags := 33
  super := sup
  interfaces := #[]
  cf := none
  fields := #[]
  methods := #[]
  instanceTypes := #[]
  staticTypes := #[]
  resolved := #[]
  callSites := []
  init := .initialized
  statics := none
  mirror := none

def pool0 : Array CpInfo := pool [(5, u "<init>"), (0, u "()V"), (1, .class_ 10), (1, u "java/lang/Object")] 113

def k0c0 : Code := { maxStack := 0, maxLocals := 1, code := object_method_1_code, exceptionTable := #[], attributes := #[] }
def k0m0 : Method := { name := "<init>", desc := "()V", sig := { parameters := [], returnType := none }, accessFlags := 1, code := some k0c0 }
/-- java/lang/Object -/
def k0 : Class := { plain "java/lang/Object" none with
  accessFlags := 33
  interfaces := #[]
  cf := some (fileOf pool0 8 #[] #[{ accessFlags := 1, nameIndex := 5, descriptorIndex := 6, attributes := #[] }] 33 0 #[] #[])
  fields := #[]
  methods := #[k0m0]
  instanceTypes := #[]
  staticTypes := #[]
  resolved := Array.replicate 124 none
  statics := none }

def pool1 : Array CpInfo := pool [(2, .class_ 4), (1, u "java/lang/Object"), (0, u "<init>"), (0, u "()V"), (0, .class_ 8), (0, u "com/example/detectability/detectability/ProteinAbundance"), (0, .string 10), (0, u "a"), (0, .methodref 7 12), (0, .nameAndType 5 13), (0, u "(Ljava/lang/String;JD)V"), (0, .string 15), (0, u "b"), (0, .class_ 17), (0, u "com/example/detectability/detectability/ComparedProtein"), (0, .string 19), (0, u "p"), (0, .methodref 16 21), (0, .nameAndType 5 22), (0, u "(Ljava/lang/String;Lcom/example/detectability/detectability/ProteinAbundance;Lcom/example/detectability/detectability/ProteinAbundance;DD)V"), (0, .methodref 16 24), (0, .nameAndType 25 26), (0, u "getSpectraA"), (0, u "()J"), (0, .class_ 28), (0, u "com/example/detectability/detectability/ComparedProteinGetSpectraAPinLaw"), (2, u "law"), (0, u "(JJII)Z")] 5

def k1m0 : Method := { name := "<init>", desc := "()V", sig := { parameters := [], returnType := none }, accessFlags := 1, code := none }
def k1c1 : Code := { maxStack := 9, maxLocals := 13, code := code, exceptionTable := #[], attributes := #[] }
def k1m1 : Method := { name := "law", desc := "(JJII)Z", sig := { parameters := [.long, .long, .int, .int], returnType := some .boolean }, accessFlags := 9, code := some k1c1 }
/-- com/example/detectability/detectability/ComparedProteinGetSpectraAPinLaw -/
def k1 : Class := { plain "com/example/detectability/detectability/ComparedProteinGetSpectraAPinLaw" (some 0) with
  accessFlags := 49
  interfaces := #[]
  cf := some (fileOf pool1 27 #[] #[{ accessFlags := 1, nameIndex := 5, descriptorIndex := 6, attributes := #[] }, { accessFlags := 9, nameIndex := 31, descriptorIndex := 32, attributes := #[] }] 49 2 #[] #[])
  fields := #[]
  methods := #[k1m0, k1m1]
  instanceTypes := #[]
  staticTypes := #[]
  resolved := Array.replicate 38 none
  statics := none }

def pool2 : Array CpInfo := pool [(1, .methodref 2 3), (0, .class_ 4), (0, .nameAndType 5 6), (0, u "java/lang/Object"), (0, u "<init>"), (0, u "()V"), (0, .fieldref 8 9), (0, .class_ 10), (0, .nameAndType 11 12), (0, u "com/example/detectability/detectability/ProteinAbundance"), (0, u "name"), (0, u "Ljava/lang/String;"), (0, .fieldref 8 14), (0, .nameAndType 15 16), (0, u "spectra"), (0, u "J"), (0, .fieldref 8 18), (0, .nameAndType 19 20), (0, u "abundance"), (0, u "D"), (0, u "(Ljava/lang/String;JD)V"), (4, u "getSpectra"), (0, u "()J")] 4

def k2c0 : Code := { maxStack := 3, maxLocals := 6, code := prog_30_method_1_code, exceptionTable := #[], attributes := #[] }
def k2m0 : Method := { name := "<init>", desc := "(Ljava/lang/String;JD)V", sig := { parameters := [(.object "java/lang/String"), .long, .double], returnType := none }, accessFlags := 1, code := some k2c0 }
def k2c1 : Code := { maxStack := 2, maxLocals := 1, code := prog_30_method_3_code, exceptionTable := #[], attributes := #[] }
def k2m1 : Method := { name := "getSpectra", desc := "()J", sig := { parameters := [], returnType := some .long }, accessFlags := 1, code := some k2c1 }
/-- com/example/detectability/detectability/ProteinAbundance -/
def k2 : Class := { plain "com/example/detectability/detectability/ProteinAbundance" (some 0) with
  accessFlags := 33
  interfaces := #[]
  cf := some (fileOf pool2 8 #[] #[{ accessFlags := 1, nameIndex := 5, descriptorIndex := 21, attributes := #[] }, { accessFlags := 1, nameIndex := 26, descriptorIndex := 27, attributes := #[] }] 33 2 #[] #[{ accessFlags := 18, nameIndex := 11, descriptorIndex := 12, attributes := #[] }, { accessFlags := 18, nameIndex := 15, descriptorIndex := 16, attributes := #[] }, { accessFlags := 18, nameIndex := 19, descriptorIndex := 20, attributes := #[] }])
  fields := #[{ name := "name", type := (.object "java/lang/String"), accessFlags := 18, slot := 0, constantValue := 0 }, { name := "spectra", type := .long, accessFlags := 18, slot := 1, constantValue := 0 }, { name := "abundance", type := .double, accessFlags := 18, slot := 2, constantValue := 0 }]
  methods := #[k2m0, k2m1]
  instanceTypes := #[(.object "java/lang/String"), .long, .double]
  staticTypes := #[]
  resolved := Array.replicate 32 none
  statics := none }

def pool3 : Array CpInfo := pool [(1, .class_ 2), (0, u "java/io/Serializable"), (0, .class_ 4), (0, u "java/lang/Object")] 2

/-- java/io/Serializable -/
def k3 : Class := { plain "java/io/Serializable" (some 0) with
  accessFlags := 1537
  interfaces := #[]
  cf := some (fileOf pool3 1 #[] #[] 1537 3 #[] #[])
  fields := #[]
  methods := #[]
  instanceTypes := #[]
  staticTypes := #[]
  resolved := Array.replicate 7 none
  statics := none }

def pool4 : Array CpInfo := pool [(1, .class_ 2), (0, u "java/lang/Comparable"), (0, .class_ 4), (0, u "java/lang/Object")] 7

/-- java/lang/Comparable -/
def k4 : Class := { plain "java/lang/Comparable" (some 0) with
  accessFlags := 1537
  interfaces := #[]
  cf := some (fileOf pool4 1 #[] #[] 1537 3 #[] #[])
  fields := #[]
  methods := #[]
  instanceTypes := #[]
  staticTypes := #[]
  resolved := Array.replicate 12 none
  statics := none }

def pool5 : Array CpInfo := pool [(2, .class_ 4), (1, u "java/lang/CharSequence"), (42, .class_ 48), (0, u "java/lang/CharSequence$1CodePointIterator"), (10, .class_ 60), (0, u "java/lang/CharSequence$1CharIterator"), (5, .class_ 67), (0, u "java/lang/Object")] 63

/-- java/lang/CharSequence -/
def k5 : Class := { plain "java/lang/CharSequence" (some 0) with
  accessFlags := 1537
  interfaces := #[]
  cf := some (fileOf pool5 2 #[.nestMembers #[47, 59]] #[] 1537 66 #[] #[])
  fields := #[]
  methods := #[]
  instanceTypes := #[]
  staticTypes := #[]
  resolved := Array.replicate 131 none
  statics := none }

def pool6 : Array CpInfo := pool [(1, .class_ 2), (0, u "java/lang/constant/Constable"), (0, .class_ 4), (0, u "java/lang/Object")] 6

/-- java/lang/constant/Constable -/
def k6 : Class := { plain "java/lang/constant/Constable" (some 0) with
  accessFlags := 1537
  interfaces := #[]
  cf := some (fileOf pool6 1 #[] #[] 1537 3 #[] #[])
  fields := #[]
  methods := #[]
  instanceTypes := #[]
  staticTypes := #[]
  resolved := Array.replicate 11 none
  statics := none }

def pool7 : Array CpInfo := pool [(1, .class_ 2), (0, u "java/lang/constant/ConstantDesc"), (0, .class_ 4), (0, u "java/lang/Object")] 32

/-- java/lang/constant/ConstantDesc -/
def k7 : Class := { plain "java/lang/constant/ConstantDesc" (some 0) with
  accessFlags := 1537
  interfaces := #[]
  cf := some (fileOf pool7 1 #[] #[] 1537 3 #[] #[])
  fields := #[]
  methods := #[]
  instanceTypes := #[]
  staticTypes := #[]
  resolved := Array.replicate 37 none
  statics := none }

def pool8 : Array CpInfo := pool [(2, .class_ 4), (1, u "java/lang/Object"), (0, u "<init>"), (0, u "()V"), (3, .class_ 12), (1, u "java/lang/String"), (0, u "value"), (0, u "[B"), (2, u "coder"), (0, u "B"), (2, u "hash"), (0, u "I"), (2, u "hashIsZero"), (0, u "Z"), (13, u "COMPACT_STRINGS"), (534, .class_ 576), (0, u "java/lang/CharSequence"), (22, u "CASE_INSENSITIVE_ORDER"), (0, u "Ljava/util/Comparator;"), (500, u "serialPersistentFields"), (0, u "[Ljava/io/ObjectStreamField;"), (0, .class_ 1104), (0, u "java/lang/String$CaseInsensitiveComparator"), (1, .class_ 1107), (0, u "java/io/Serializable"), (0, .class_ 1109), (0, u "java/lang/Comparable"), (0, .class_ 1111), (0, u "java/lang/constant/Constable"), (0, .class_ 1113), (0, u "java/lang/constant/ConstantDesc"), (2, u "serialVersionUID"), (0, u "J"), (3, u "REPL"), (0, u "C"), (2, u "LATIN1"), (1, u "UTF16")] 323

def k8m0 : Method := { name := "<init>", desc := "()V", sig := { parameters := [], returnType := none }, accessFlags := 1, code := none }
/-- java/lang/String -/
def k8 : Class := { plain "java/lang/String" (some 0) with
  accessFlags := 49
  interfaces := #[3, 4, 5, 6, 7]
  cf := some (fileOf pool8 10 #[.nestMembers #[1103]] #[{ accessFlags := 1, nameIndex := 5, descriptorIndex := 6, attributes := #[] }] 49 2 #[1106, 1108, 575, 1110, 1112] #[{ accessFlags := 18, nameIndex := 13, descriptorIndex := 14, attributes := #[] }, { accessFlags := 18, nameIndex := 17, descriptorIndex := 18, attributes := #[] }, { accessFlags := 2, nameIndex := 21, descriptorIndex := 22, attributes := #[] }, { accessFlags := 2, nameIndex := 25, descriptorIndex := 26, attributes := #[] }, { accessFlags := 26, nameIndex := 1116, descriptorIndex := 1117, attributes := #[] }, { accessFlags := 24, nameIndex := 40, descriptorIndex := 26, attributes := #[] }, { accessFlags := 26, nameIndex := 1101, descriptorIndex := 1102, attributes := #[] }, { accessFlags := 26, nameIndex := 1121, descriptorIndex := 1122, attributes := #[] }, { accessFlags := 25, nameIndex := 599, descriptorIndex := 600, attributes := #[] }, { accessFlags := 24, nameIndex := 1125, descriptorIndex := 18, attributes := #[] }, { accessFlags := 24, nameIndex := 1127, descriptorIndex := 18, attributes := #[] }])
  fields := #[{ name := "value", type := (.array .byte), accessFlags := 18, slot := 0, constantValue := 0 }, { name := "coder", type := .byte, accessFlags := 18, slot := 1, constantValue := 0 }, { name := "hash", type := .int, accessFlags := 2, slot := 2, constantValue := 0 }, { name := "hashIsZero", type := .boolean, accessFlags := 2, slot := 3, constantValue := 0 }, { name := "serialVersionUID", type := .long, accessFlags := 26, slot := 0, constantValue := 0 }, { name := "COMPACT_STRINGS", type := .boolean, accessFlags := 24, slot := 1, constantValue := 0 }, { name := "serialPersistentFields", type := (.array (.object "java/io/ObjectStreamField")), accessFlags := 26, slot := 2, constantValue := 0 }, { name := "REPL", type := .char, accessFlags := 26, slot := 3, constantValue := 0 }, { name := "CASE_INSENSITIVE_ORDER", type := (.object "java/util/Comparator"), accessFlags := 25, slot := 4, constantValue := 0 }, { name := "LATIN1", type := .byte, accessFlags := 24, slot := 5, constantValue := 0 }, { name := "UTF16", type := .byte, accessFlags := 24, slot := 6, constantValue := 0 }]
  methods := #[k8m0]
  instanceTypes := #[(.array .byte), .byte, .int, .boolean]
  staticTypes := #[.long, .boolean, (.array (.object "java/io/ObjectStreamField")), .char, (.object "java/util/Comparator"), .byte, .byte]
  resolved := Array.replicate 1451 none
  statics := none }

def pool9 : Array CpInfo := pool [(1, .methodref 2 3), (0, .class_ 4), (0, .nameAndType 5 6), (0, u "java/lang/Object"), (0, u "<init>"), (0, u "()V"), (0, .fieldref 8 9), (0, .class_ 10), (0, .nameAndType 11 12), (0, u "com/example/detectability/detectability/ComparedProtein"), (0, u "name"), (0, u "Ljava/lang/String;"), (0, .fieldref 8 14), (0, .nameAndType 15 16), (0, u "inA"), (0, u "Lcom/example/detectability/detectability/ProteinAbundance;"), (0, .fieldref 8 18), (0, .nameAndType 19 16), (0, u "inB"), (0, .fieldref 8 21), (0, .nameAndType 22 23), (0, u "z"), (0, u "D"), (0, .fieldref 8 25), (0, .nameAndType 26 23), (0, u "p"), (0, .methodref 28 29), (0, .class_ 30), (0, .nameAndType 31 32), (0, u "com/example/detectability/detectability/ProteinAbundance"), (0, u "getSpectra"), (0, u "()J"), (20, u "(Ljava/lang/String;Lcom/example/detectability/detectability/ProteinAbundance;Lcom/example/detectability/detectability/ProteinAbundance;DD)V"), (4, u "getSpectraA")] 9

def k9c0 : Code := { maxStack := 3, maxLocals := 8, code := prog_4_method_1_code, exceptionTable := #[], attributes := #[] }
def k9m0 : Method := { name := "<init>", desc := "(Ljava/lang/String;Lcom/example/detectability/detectability/ProteinAbundance;Lcom/example/detectability/detectability/ProteinAbundance;DD)V", sig := { parameters := [(.object "java/lang/String"), (.object "com/example/detectability/detectability/ProteinAbundance"), (.object "com/example/detectability/detectability/ProteinAbundance"), .double, .double], returnType := none }, accessFlags := 0, code := some k9c0 }
def k9c1 : Code := { maxStack := 2, maxLocals := 1, code := prog_4_method_3_code, exceptionTable := #[], attributes := #[] }
def k9m1 : Method := { name := "getSpectraA", desc := "()J", sig := { parameters := [], returnType := some .long }, accessFlags := 1, code := some k9c1 }
/-- com/example/detectability/detectability/ComparedProtein -/
def k9 : Class := { plain "com/example/detectability/detectability/ComparedProtein" (some 0) with
  accessFlags := 33
  interfaces := #[]
  cf := some (fileOf pool9 8 #[] #[{ accessFlags := 0, nameIndex := 5, descriptorIndex := 53, attributes := #[] }, { accessFlags := 1, nameIndex := 58, descriptorIndex := 32, attributes := #[] }] 33 2 #[] #[{ accessFlags := 18, nameIndex := 11, descriptorIndex := 12, attributes := #[] }, { accessFlags := 18, nameIndex := 15, descriptorIndex := 16, attributes := #[] }, { accessFlags := 18, nameIndex := 19, descriptorIndex := 16, attributes := #[] }, { accessFlags := 18, nameIndex := 22, descriptorIndex := 23, attributes := #[] }, { accessFlags := 18, nameIndex := 26, descriptorIndex := 23, attributes := #[] }])
  fields := #[{ name := "name", type := (.object "java/lang/String"), accessFlags := 18, slot := 0, constantValue := 0 }, { name := "inA", type := (.object "com/example/detectability/detectability/ProteinAbundance"), accessFlags := 18, slot := 1, constantValue := 0 }, { name := "inB", type := (.object "com/example/detectability/detectability/ProteinAbundance"), accessFlags := 18, slot := 2, constantValue := 0 }, { name := "z", type := .double, accessFlags := 18, slot := 3, constantValue := 0 }, { name := "p", type := .double, accessFlags := 18, slot := 4, constantValue := 0 }]
  methods := #[k9m0, k9m1]
  instanceTypes := #[(.object "java/lang/String"), (.object "com/example/detectability/detectability/ProteinAbundance"), (.object "com/example/detectability/detectability/ProteinAbundance"), .double, .double]
  staticTypes := #[]
  resolved := Array.replicate 68 none
  statics := none }

def pool10 : Array CpInfo := pool [(1, u "java/lang/Cloneable"), (0, .class_ 1), (0, u "java/lang/Object"), (0, .class_ 3)] 3

/-- java/lang/Cloneable -/
def k10 : Class := { plain "java/lang/Cloneable" (some 0) with
  accessFlags := 1537
  interfaces := #[]
  cf := some (fileOf pool10 2 #[] #[] 1537 4 #[] #[])
  fields := #[]
  methods := #[]
  instanceTypes := #[]
  staticTypes := #[]
  resolved := Array.replicate 8 none
  statics := none }

/-- the primitive byte -/
def k11 : Class := { plain "byte" none with kind := .primitive 'B', accessFlags := 0x411 }
/-- [B -/
def k12 : Class := { plain "[B" (some 0) with kind := .array 11 .byte, interfaces := #[10, 3], accessFlags := 1041 }

/-- the primitive int -/
def k13 : Class := { plain "int" none with kind := .primitive 'I', accessFlags := 0x411 }
/-- [I -/
def k14 : Class := { plain "[I" (some 0) with kind := .array 13 .int, interfaces := #[10, 3], accessFlags := 1041 }

def heap : Heap := #[]
def classes : Array Class := #[k0, k1, k2, k3, k4, k5, k6, k7, k8, k9, k10, k11, k12, k13, k14]
def interned : List (Array UInt16 × Addr) := []
def slotsUsed : Nat := 0
def theMethod : MethodId := ⟨1, 1⟩
def args0 : Array Value := #[.long 5, .long 7, .int 3, .int 1]
def aboutOver (below : List Frame) : State where
  vm := { classes := classes, interned := interned.toArray }
  heap := heap
  slotsUsed := slotsUsed
  threads := #[{ frames := .invoking theMethod args0 :: below }]
def below0 : List Frame := [.native { method := ⟨0, 0⟩, args := #[] }]
def about1 : State := aboutOver below0
def p0 : Program := .bare "" "" ""
def e0 : Env := launch0.env 0 0 0
theorem w_frames : about1.frames = Frame.invoking theMethod args0 :: below0 := rfl
set_option maxRecDepth 65536 in
theorem w_args : argsFit about1.vm theMethod args0 = true := by decide +kernel
set_option maxRecDepth 65536 in
theorem w_heap : heapFits about1 = true := by decide +kernel
set_option maxRecDepth 65536 in
theorem w_runnable : about1.curStatus? = some .runnable := by decide +kernel
set_option maxRecDepth 65536 in
theorem w_alone : about1.alone = true := by decide +kernel
set_option maxRecDepth 65536 in
theorem w_named : about1.methodNamed? x = some theMethod := by decide +kernel
set_option maxRecDepth 65536 in
theorem w_hears : about1.hears theMethod below0 = true := by decide +kernel
set_option maxRecDepth 65536 in
theorem w_ripe : about1.ripe theMethod args0 below0 = true := by decide +kernel
theorem w_running : about1.status = .running := rfl
set_option maxRecDepth 65536 in
theorem w_room : about1.hasRoom e0.platform room_1 = true :=
  launch0.hasRoom_least _ room_1 (by decide +kernel) (by decide +kernel) (by decide +kernel) (by decide +kernel) (by decide +kernel) (by decide +kernel)
theorem allAtoms_all (ts : List Jvm.Cond) (a : Array Jvm.Value) (st : Jvm.State) : (allAtoms ts).before a st = ts.all (fun c => c.before a st) := by
  induction ts with
  | nil => rfl
  | cons c t ih =>
    show (Jvm.Cond.and c (allAtoms t)).before a st = _
    rw [Jvm.Cond.before_and, ih, List.all_cons]
def words1 : List Jvm.Cond := Jvm.Cond.code x code maxLocals ret :: tables_1
/-- a 'code' word, met by the world's own term for the bytes: nothing is compared byte by byte -/
theorem code_word {y : MethodName} {bytes : ByteArray} {mx : Nat} {rt : Option FieldType} {a : Array Value} {s : State} {m : MethodId} {meth : Method} {c : Code} (h1 : s.methodNamed? y = some m) (h2 : s.vm.method? m = some meth) (h3 : meth.code = some c) (h4 : c.code = bytes)
    (h5 : (c.maxLocals == mx && c.exceptionTable.isEmpty && decide (c.maxStack ≤ mostOperands) && decide (meth.sig.returnType = rt) && !meth.locks && decide (parseMethodDescriptor y.desc = some meth.sig)) = true) : (Jvm.Cond.code y bytes mx rt).before a s = true := by
  simp only [Bool.and_eq_true, beq_iff_eq, Bool.not_eq_true', decide_eq_true_eq] at h5
  obtain ⟨⟨⟨⟨⟨g1, g2⟩, g3⟩, g4⟩, g5⟩, g6⟩ := h5
  simp [Cond.before, Cond.holds, Cond.value, h1, h2, h3, h4, g1, g2, g3, g4, g5, g6]
def isCode : Jvm.Cond → Bool
  | .code _ _ _ _ => true
  | _ => false
theorem all_split {L : List Jvm.Cond} {P : Jvm.Cond → Bool} (h1 : L.all (fun c => isCode c || P c) = true) (h2 : ∀ c ∈ L.filter isCode, P c = true) : L.all P = true := by
  refine List.all_eq_true.mpr fun c hc => ?_
  have h := List.all_eq_true.mp h1 c hc
  rcases Bool.eq_false_or_eq_true (isCode c) with hi | hi
  · exact h2 c (List.mem_filter.mpr ⟨hc, hi⟩)
  · simpa [hi] using h
set_option maxRecDepth 65536 in
theorem w_c0 : (Jvm.Cond.code x code maxLocals ret).before args0 about1 = true := code_word (m := ⟨1, 1⟩) (meth := k1m1) (c := k1c1) (by decide +kernel) rfl rfl rfl (by decide +kernel)
set_option maxRecDepth 65536 in
theorem w_c1 : (Jvm.Cond.code ({ cls := "com/example/detectability/detectability/ProteinAbundance", name := "<init>", desc := "(Ljava/lang/String;JD)V" } : Jvm.MethodName) prog_30_method_1_code (6 : Nat) (Option.none : Option Jvm.ClassFile.FieldType)).before args0 about1 = true := code_word (m := ⟨2, 0⟩) (meth := k2m0) (c := k2c0) (by decide +kernel) rfl rfl rfl (by decide +kernel)
set_option maxRecDepth 65536 in
theorem w_c2 : (Jvm.Cond.code ({ cls := "java/lang/Object", name := "<init>", desc := "()V" } : Jvm.MethodName) object_method_1_code (1 : Nat) (Option.none : Option Jvm.ClassFile.FieldType)).before args0 about1 = true := code_word (m := ⟨0, 0⟩) (meth := k0m0) (c := k0c0) (by decide +kernel) rfl rfl rfl (by decide +kernel)
set_option maxRecDepth 65536 in
theorem w_c3 : (Jvm.Cond.code ({ cls := "com/example/detectability/detectability/ComparedProtein", name := "<init>", desc := "(Ljava/lang/String;Lcom/example/detectability/detectability/ProteinAbundance;Lcom/example/detectability/detectability/ProteinAbundance;DD)V" } : Jvm.MethodName) prog_4_method_1_code (8 : Nat) (Option.none : Option Jvm.ClassFile.FieldType)).before args0 about1 = true := code_word (m := ⟨9, 0⟩) (meth := k9m0) (c := k9c0) (by decide +kernel) rfl rfl rfl (by decide +kernel)
set_option maxRecDepth 65536 in
theorem w_c4 : (Jvm.Cond.code ({ cls := "com/example/detectability/detectability/ComparedProtein", name := "getSpectraA", desc := "()J" } : Jvm.MethodName) prog_4_method_3_code (1 : Nat) (Option.some Jvm.ClassFile.FieldType.long)).before args0 about1 = true := code_word (m := ⟨9, 1⟩) (meth := k9m1) (c := k9c1) (by decide +kernel) rfl rfl rfl (by decide +kernel)
set_option maxRecDepth 65536 in
theorem w_c5 : (Jvm.Cond.code ({ cls := "com/example/detectability/detectability/ProteinAbundance", name := "getSpectra", desc := "()J" } : Jvm.MethodName) prog_30_method_3_code (1 : Nat) (Option.some Jvm.ClassFile.FieldType.long)).before args0 about1 = true := code_word (m := ⟨2, 1⟩) (meth := k2m1) (c := k2c1) (by decide +kernel) rfl rfl rfl (by decide +kernel)
def codes1 : List Jvm.Cond := [Jvm.Cond.code x code maxLocals ret, Jvm.Cond.code ({ cls := "com/example/detectability/detectability/ProteinAbundance", name := "<init>", desc := "(Ljava/lang/String;JD)V" } : Jvm.MethodName) prog_30_method_1_code (6 : Nat) (Option.none : Option Jvm.ClassFile.FieldType), Jvm.Cond.code ({ cls := "java/lang/Object", name := "<init>", desc := "()V" } : Jvm.MethodName) object_method_1_code (1 : Nat) (Option.none : Option Jvm.ClassFile.FieldType), Jvm.Cond.code ({ cls := "com/example/detectability/detectability/ComparedProtein", name := "<init>", desc := "(Ljava/lang/String;Lcom/example/detectability/detectability/ProteinAbundance;Lcom/example/detectability/detectability/ProteinAbundance;DD)V" } : Jvm.MethodName) prog_4_method_1_code (8 : Nat) (Option.none : Option Jvm.ClassFile.FieldType), Jvm.Cond.code ({ cls := "com/example/detectability/detectability/ComparedProtein", name := "getSpectraA", desc := "()J" } : Jvm.MethodName) prog_4_method_3_code (1 : Nat) (Option.some Jvm.ClassFile.FieldType.long), Jvm.Cond.code ({ cls := "com/example/detectability/detectability/ProteinAbundance", name := "getSpectra", desc := "()J" } : Jvm.MethodName) prog_30_method_3_code (1 : Nat) (Option.some Jvm.ClassFile.FieldType.long)]
set_option maxRecDepth 65536 in
theorem codes_eq : words1.filter isCode = codes1 := rfl
theorem w_codes : ∀ c ∈ words1.filter isCode, c.before args0 about1 = true := by
  rw [codes_eq]
  intro c hc
  simp only [codes1, List.mem_cons, List.not_mem_nil, or_false] at hc
  rcases hc with rfl | rfl | rfl | rfl | rfl | rfl
  · exact w_c0
  · exact w_c1
  · exact w_c2
  · exact w_c3
  · exact w_c4
  · exact w_c5
set_option maxRecDepth 65536 in
theorem w_t1 : (words1.take 24).all (fun c => isCode c || c.before args0 about1) = true := by decide +kernel
set_option maxRecDepth 65536 in
theorem w_t2 : ((words1.drop 24).take 24).all (fun c => isCode c || c.before args0 about1) = true := by decide +kernel
set_option maxRecDepth 65536 in
theorem w_t3 : ((words1.drop 24).drop 24).all (fun c => isCode c || c.before args0 about1) = true := by decide +kernel
theorem w_tables : (allAtoms (Jvm.Cond.code x code maxLocals ret :: tables_1)).before args0 about1 = true := by
  rw [allAtoms_all]
  show words1.all (fun c => c.before args0 about1) = true
  refine all_split ?_ w_codes
  rw [← List.take_append_drop 24 words1, List.all_append, w_t1, ← List.take_append_drop 24 (words1.drop 24), List.all_append, w_t2, w_t3]
  rfl
set_option maxRecDepth 65536 in
theorem w_case : (Jvm.Cond.and given_1 narrow_1).before args0 about1 = true := by decide +kernel
theorem w_applies : (headSpec (Jvm.Cond.code x code maxLocals ret :: tables_1) room_1).applies x e0.platform about1 = true :=
  (Spec.applies_iff w_frames).mpr ⟨w_running, w_runnable, w_alone, w_named, w_hears, w_ripe, w_room, w_tables⟩
theorem atStart : AtStart classFile x code maxLocals ret World_1 tables_1 room_1 Calls_1 rest_1 Pre_1 launch0 p0 e0 about1 theMethod args0 below0 :=
  ⟨lists_1, trivial, launch0.admits_env _ _ _, launch0.least_env, fairChoices_fair.cas, fairChoices_fair.clock, w_frames, w_args, w_heap, w_applies, trivial, trivial, w_case⟩
end start1
theorem witness_1 : WitnessClaimed_1 := ⟨start1.p0, start1.e0, start1.about1, start1.theMethod, start1.args0, start1.below0, start1.atStart⟩
end Jvm.Pilot.@@N@@
