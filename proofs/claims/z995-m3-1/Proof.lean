import JvmDerived
import JvmDerived.Pilot.@@N@@Statement
import JvmDerived.Pilot.@@N@@Code
set_option linter.unusedVariables false
set_option linter.unusedSimpArgs false
@@BLOCK:NumsL.lean.txt@@
namespace Jvm.RoadKit
open Sem ClassFile Op Lib Jvm.Stand Jvm.Free Jvm.LawKit
section New
variable {p : Program} {l : Launch} {e : Env} {R : Room} {s : State} {m : MethodId} {args : Array Value} {below : List Frame} {meth : Method} {c : Code} {T : State} {locs : List Loc} {cells slots : Nat}
theorem retI (X : Stand p l e R s m args below meth c T locs cells slots) (hx : p.tables.exec = Jvm.exec) {pc : Nat} {Ls : Array Slot} {z : Int32} {rest : List Value} (hret : meth.sig.returnType = some .int) (hd : decode c.code pc = .ok (.ireturn, 1)) {fs : List Frame}
    (hl : ∀ (f : JFrame) (acts : List Action), f.method = m → f.locked = none → f.entered = [] → (doReturn e (T.setTop f) acts (some (.int z))).1 = T.setFrames fs) : Steps p.tables e below (T.setTop (mkF m pc Ls (.int z :: rest))) (T.setFrames fs) := by
  have hm' : T.vm.method? m = some meth := X.method'
  have hn : narrow .int (.int z) = .int z := rfl
  show Steps p.tables e below (T.setTop { method := m, pc := pc, locals := Ls, stack := _ :: rest, locked := none }) _
  jvm_step X.here [X.here.top, hx, hd, hm', hret, hn]
  first | (intro acts; rw [hl _ acts rfl rfl rfl]) | rw [hl _ _ rfl rfl rfl]
  exact Steps.refl _
end New
end Jvm.RoadKit
namespace Jvm.OwnFP
open Jvm.FP
/-- a double's value in units of 2^-1074 -/
def zv (a : UInt64) : Int := Core.zval Core.b64 (Core.val64 a)
/-- how many units make one -/
def U : Int := (Core.one64 : Int)
theorem U_pos : 0 < U := by have := Core.one64_pos; unfold U; omega
theorem U_pow (k : Nat) (h : k ≤ 1074) : U = 2 ^ (1074 - k) * 2 ^ k := by
  have e : (2 : Int) ^ (1074 - k) * 2 ^ k = 2 ^ 1074 := by rw [← Int.pow_add]; congr 1; omega
  rw [e]; unfold U Core.one64; rw [Int.natCast_pow]; rfl
theorem pow_pos (k : Nat) : (0 : Int) < 2 ^ k := Int.pow_pos (by decide)
theorem notNan {a : UInt64} (h : Core.DFin a) : Core.val64 a ≠ .nan := by obtain ⟨s, c, q, h⟩ := h; rw [h]; exact Core.Datum.noConfusion
theorem fin_parts {a : UInt64} (h : Core.DFin a) : ∃ (s : Bool) (c i : Nat), Core.val64 a = .fin s c ((i : Int) - 1074) ∧ Core.fits Core.b64 (.fin s c ((i : Int) - 1074)) ∧ zv a = Core.signed s (c * 2 ^ i) := by
  obtain ⟨s, c, q, h⟩ := h
  have hf := Core.val64_fits a
  rw [h] at hf
  have hq : -1074 ≤ q := by have := hf.2.1; rw [Core.qmin_b64] at this; exact this
  obtain ⟨i, hi⟩ : ∃ i : Nat, q = (i : Int) - 1074 := ⟨(q + 1074).toNat, by omega⟩
  subst hi
  refine ⟨s, c, i, h, hf, ?_⟩
  unfold zv Core.zval; rw [h]
  show Core.signed s (c * 2 ^ ((i : Int) - 1074 - Core.b64.qmin).toNat) = _
  rw [Core.qmin_b64, show ((i : Int) - 1074 - -1074).toNat = i by omega]
/-- rounding a quotient is monotone: at most a number of the format -/
theorem ratio_le {s : Bool} {A B : Nat} {e e0 : Int} {V : Core.Datum} (hB : 0 < B) (hV : Core.fits Core.b64 V) (hn : V ≠ .nan) (h0 : e0 ≤ Core.b64.qmin) (h0e : e0 ≤ e)
    (h : Core.signed s (Core.inUnits A e e0) ≤ Core.zval Core.b64 V * ((2 ^ (Core.b64.qmin - e0).toNat * B : Nat) : Int)) :
    Core.zval Core.b64 (Core.roundRatio Core.b64 s A B e) ≤ Core.zval Core.b64 V := by
  have hle := Core.zmag_roundRatio_le Core.good_b64 (s := s) (A := A) hB hV hn h0 h0e
  have hge := Core.zmag_roundRatio_ge Core.good_b64 (s := s) (A := A) hB hV h0 h0e
  have hP : 0 < 2 ^ (Core.b64.qmin - e0).toNat * B := Nat.mul_pos (Nat.two_pow_pos _) hB
  rw [Nat.mul_assoc] at hle hge
  unfold Core.zval at h ⊢
  rw [Core.sgn_roundRatio]
  rw [← Core.signed_mul] at h
  have hz : Core.zmag Core.b64 V * (2 ^ (Core.b64.qmin - e0).toNat * B) = 0 → Core.zmag Core.b64 V = 0 := fun q => by
    rcases Nat.mul_eq_zero.mp q with q | q
    · exact q
    · omega
  generalize Core.zmag Core.b64 V * (2 ^ (Core.b64.qmin - e0).toNat * B) = vP at *
  generalize Core.sgn V = t at *
  generalize Core.zmag Core.b64 V = z at *
  generalize Core.zmag Core.b64 (Core.roundRatio Core.b64 s A B e) = r at *
  generalize Core.inUnits A e e0 = x at *
  cases s <;> cases t <;> simp only [Core.signed, if_true, Bool.false_eq_true, if_false] at h ⊢
  · have := hle (by omega); omega
  · have := hle (by omega); have := hz (by omega); omega
  · omega
  · have := hge (by omega); omega
theorem ratio_ge {s : Bool} {A B : Nat} {e e0 : Int} {V : Core.Datum} (hB : 0 < B) (hV : Core.fits Core.b64 V) (hn : V ≠ .nan) (h0 : e0 ≤ Core.b64.qmin) (h0e : e0 ≤ e)
    (h : Core.zval Core.b64 V * ((2 ^ (Core.b64.qmin - e0).toNat * B : Nat) : Int) ≤ Core.signed s (Core.inUnits A e e0)) :
    Core.zval Core.b64 V ≤ Core.zval Core.b64 (Core.roundRatio Core.b64 s A B e) := by
  have h1 := ratio_le (s := !s) (V := Core.negate V) hB (Core.negate_fits hV) (Core.negate_ne_nan hn) h0 h0e (by
    rw [Core.zval_negate, Int.neg_mul, Core.signed_not]; exact Int.neg_le_neg h)
  rw [Core.zval_negate, ← Core.negate_roundRatio, Core.zval_negate] at h1
  omega
theorem signed_pos_parts {t : Bool} {n : Nat} (h : 0 < Core.signed t n) : t = false ∧ 0 < n := by
  cases t <;> simp [Core.signed] at h ⊢ <;> omega
/-- the quotient as a rounded ratio -/
theorem ddiv_parts {a b : UInt64} (ha : Core.DFin a) (hb : Core.DFin b) (pb : 0 < zv b) :
    ∃ (s : Bool) (c d i j : Nat), zv a = Core.signed s (c * 2 ^ i) ∧ zv b = ((d * 2 ^ j : Nat) : Int) ∧ 0 < d ∧ Core.val64 (FP.ddiv a b) = Core.roundRatio Core.b64 s c d ((i : Int) - (j : Int)) := by
  obtain ⟨s, c, i, h1, f1, z1⟩ := fin_parts ha
  obtain ⟨t, d, j, h2, f2, z2⟩ := fin_parts hb
  rw [z2] at pb
  obtain ⟨rfl, hd⟩ := signed_pos_parts pb
  have hd' : 0 < d := Nat.pos_of_mul_pos_right hd
  refine ⟨s, c, d, i, j, z1, z2, hd', ?_⟩
  show Core.val64 (Core.ddiv a b) = _
  rw [Core.val64_ddiv, h1, h2]
  show (if d = 0 then _ else Core.roundRatio Core.b64 (s != false) c d ((i : Int) - 1074 - ((j : Int) - 1074))) = _
  rw [if_neg (by omega), show ((i : Int) - 1074 - ((j : Int) - 1074)) = (i : Int) - j by omega]
  cases s <;> rfl
theorem div_key {s : Bool} {c d i j : Nat} : Core.signed s (Core.inUnits c ((i : Int) - j) (-1074 - (j : Int))) = Core.signed s (c * 2 ^ i) * U ∧ ((2 ^ (Core.b64.qmin - (-1074 - (j : Int))).toNat * d : Nat) : Int) = ((d * 2 ^ j : Nat) : Int) := by
  constructor
  · unfold Core.inUnits
    rw [show ((i : Int) - j - (-1074 - (j : Int))).toNat = i + 1074 by omega, Nat.pow_add, ← Nat.mul_assoc, Core.signed_mul]
    rfl
  · rw [Core.qmin_b64, show (-1074 - (-1074 - (j : Int))).toNat = j by omega, Nat.mul_comm]
theorem ddiv_le {a b V : UInt64} (ha : Core.DFin a) (hb : Core.DFin b) (pb : 0 < zv b) (hV : Core.val64 V ≠ .nan) (h : zv a * U ≤ zv V * zv b) : zv (FP.ddiv a b) ≤ zv V := by
  obtain ⟨s, c, d, i, j, z1, z2, hd, hr⟩ := ddiv_parts ha hb pb
  have e : zv (FP.ddiv a b) = Core.zval Core.b64 (Core.roundRatio Core.b64 s c d ((i : Int) - (j : Int))) := by unfold zv; rw [hr]
  rw [e]
  refine ratio_le (e0 := -1074 - (j : Int)) hd (Core.val64_fits V) hV (by rw [Core.qmin_b64]; omega) (by omega) ?_
  rw [(div_key (d := d)).1, (div_key (s := s) (c := c) (i := i)).2, ← z1, ← z2]; exact h
theorem ddiv_ge {a b V : UInt64} (ha : Core.DFin a) (hb : Core.DFin b) (pb : 0 < zv b) (hV : Core.val64 V ≠ .nan) (h : zv V * zv b ≤ zv a * U) : zv V ≤ zv (FP.ddiv a b) := by
  obtain ⟨s, c, d, i, j, z1, z2, hd, hr⟩ := ddiv_parts ha hb pb
  have e : zv (FP.ddiv a b) = Core.zval Core.b64 (Core.roundRatio Core.b64 s c d ((i : Int) - (j : Int))) := by unfold zv; rw [hr]
  rw [e]
  refine ratio_ge (e0 := -1074 - (j : Int)) hd (Core.val64_fits V) hV (by rw [Core.qmin_b64]; omega) (by omega) ?_
  rw [(div_key (d := d)).1, (div_key (s := s) (c := c) (i := i)).2, ← z1, ← z2]; exact h
theorem ddiv_nn {a b : UInt64} (ha : Core.DFin a) (hb : Core.DFin b) (pb : 0 < zv b) : Core.val64 (FP.ddiv a b) ≠ .nan := by
  obtain ⟨s, c, d, i, j, z1, z2, hd, hr⟩ := ddiv_parts ha hb pb
  rw [hr]; exact Core.roundRatio_ne_nan _ _ _ _ _
/-- two quotients of one value -/
theorem ddiv_congr {a b a' b' : UInt64} (ha : Core.DFin a) (hb : Core.DFin b) (pb : 0 < zv b) (ha' : Core.DFin a') (hb' : Core.DFin b') (pb' : 0 < zv b') (hs : Core.sgn (Core.val64 a) = Core.sgn (Core.val64 a')) (h : zv a * zv b' = zv a' * zv b) : FP.ddiv a b = FP.ddiv a' b' := by
  obtain ⟨s, c, i, h1, f1, z1⟩ := fin_parts ha
  obtain ⟨s', c', i', h1', f1', z1'⟩ := fin_parts ha'
  obtain ⟨t, d, j, h2, f2, z2⟩ := fin_parts hb
  obtain ⟨t', d', j', h2', f2', z2'⟩ := fin_parts hb'
  rw [z2] at pb; rw [z2'] at pb'
  obtain ⟨rfl, hd⟩ := signed_pos_parts pb
  obtain ⟨rfl, hd'⟩ := signed_pos_parts pb'
  have hd1 : 0 < d := Nat.pos_of_mul_pos_right hd
  have hd1' : 0 < d' := Nat.pos_of_mul_pos_right hd'
  have es : s = s' := by rw [h1, h1'] at hs; exact hs
  subst es
  show Core.of64 (Core.quotient Core.b64 (Core.val64 a) (Core.val64 b)) = Core.of64 (Core.quotient Core.b64 (Core.val64 a') (Core.val64 b'))
  congr 1
  rw [h1, h2, h1', h2']
  show (if d = 0 then _ else Core.roundRatio Core.b64 (s != false) c d ((i : Int) - 1074 - ((j : Int) - 1074))) = (if d' = 0 then _ else Core.roundRatio Core.b64 (s != false) c' d' ((i' : Int) - 1074 - ((j' : Int) - 1074)))
  rw [if_neg (by omega), if_neg (by omega)]
  apply Core.roundRatio_congr hd1 hd1'
  have hn : (c * 2 ^ i) * (d' * 2 ^ j') = (c' * 2 ^ i') * (d * 2 ^ j) := by
    rw [z1, z1', z2, z2'] at h
    have : ∀ n : Nat, Core.signed false n = (n : Int) := fun _ => rfl
    rw [this, this, ← Core.signed_mul, ← Core.signed_mul] at h
    have := congrArg Int.natAbs h
    rwa [Core.natAbs_signed, Core.natAbs_signed] at this
  generalize hE : (i : Int) - 1074 - ((j : Int) - 1074) = E
  generalize hE' : (i' : Int) - 1074 - ((j' : Int) - 1074) = E'
  have k1 : c * d' * 2 ^ (i + j') = c' * d * 2 ^ (i' + j) := by
    rw [Nat.pow_add, Nat.pow_add]
    calc c * d' * (2 ^ i * 2 ^ j') = (c * 2 ^ i) * (d' * 2 ^ j') := by ac_rfl
      _ = (c' * 2 ^ i') * (d * 2 ^ j) := hn
      _ = c' * d * (2 ^ i' * 2 ^ j) := by ac_rfl
  by_cases hle : i' + j ≤ i + j'
  · have e1 : (E - E').toNat = i + j' - (i' + j) := by omega
    have e2 : (E' - E).toNat = 0 := by omega
    rw [e1, e2]
    have : 2 ^ (i + j') = 2 ^ (i + j' - (i' + j)) * 2 ^ (i' + j) := by rw [← Nat.pow_add]; congr 1; omega
    rw [this, ← Nat.mul_assoc] at k1
    simpa using Nat.eq_of_mul_eq_mul_right (Nat.two_pow_pos _) k1
  · have e1 : (E - E').toNat = 0 := by omega
    have e2 : (E' - E).toNat = i' + j - (i + j') := by omega
    rw [e1, e2]
    have : 2 ^ (i' + j) = 2 ^ (i' + j - (i + j')) * 2 ^ (i + j') := by rw [← Nat.pow_add]; congr 1; omega
    rw [this, ← Nat.mul_assoc] at k1
    simpa using Nat.eq_of_mul_eq_mul_right (Nat.two_pow_pos _) k1
theorem dmul_parts {a b : UInt64} (ha : Core.DFin a) (hb : Core.DFin b) :
    ∃ (s : Bool) (n : Nat) (e : Int), Core.val64 (FP.dmul a b) = Core.round Core.b64 (.fin s n e) ∧ -2148 ≤ e ∧ Core.signed s (Core.inUnits n e (-2148)) = zv a * zv b := by
  obtain ⟨s, c, i, h1, f1, z1⟩ := fin_parts ha
  obtain ⟨t, d, j, h2, f2, z2⟩ := fin_parts hb
  obtain ⟨p1, p2, p3⟩ := Core.product_units f1 f2
  refine ⟨s != t, c * d, (i : Int) - 1074 + ((j : Int) - 1074), ?_, by omega, ?_⟩
  · show Core.val64 (Core.dmul a b) = _
    rw [Core.val64_dmul, h1, h2, p1]
  · rw [z1, z2]
    unfold Core.inUnits
    rw [show ((i : Int) - 1074 + ((j : Int) - 1074) - (-2148)).toNat = i + j by omega, Nat.pow_add,
      show c * d * (2 ^ i * 2 ^ j) = (c * 2 ^ i) * (d * 2 ^ j) by ac_rfl, Core.signed_xor]
theorem mul_key : ((2 ^ (Core.b64.qmin - (-2148 : Int)).toNat : Nat) : Int) = U := by
  rw [Core.qmin_b64]; rfl
theorem dmul_le {a b V : UInt64} (ha : Core.DFin a) (hb : Core.DFin b) (hV : Core.val64 V ≠ .nan) (h : zv a * zv b ≤ zv V * U) : zv (FP.dmul a b) ≤ zv V := by
  obtain ⟨s, n, e, h1, h2, h3⟩ := dmul_parts ha hb
  have e1 : zv (FP.dmul a b) = Core.zval Core.b64 (Core.round Core.b64 (.fin s n e)) := by unfold zv; rw [h1]
  rw [e1]
  refine Core.zval_round_le Core.good_b64 (e0 := -2148) (Core.val64_fits V) hV (by rw [Core.qmin_b64]; decide) h2 ?_
  rw [h3, mul_key]; exact h
theorem dmul_ge {a b V : UInt64} (ha : Core.DFin a) (hb : Core.DFin b) (hV : Core.val64 V ≠ .nan) (h : zv V * U ≤ zv a * zv b) : zv V ≤ zv (FP.dmul a b) := by
  obtain ⟨s, n, e, h1, h2, h3⟩ := dmul_parts ha hb
  have e1 : zv (FP.dmul a b) = Core.zval Core.b64 (Core.round Core.b64 (.fin s n e)) := by unfold zv; rw [h1]
  rw [e1]
  refine Core.zval_round_ge Core.good_b64 (e0 := -2148) (Core.val64_fits V) hV (by rw [Core.qmin_b64]; decide) h2 ?_
  rw [h3, mul_key]; exact h
theorem dmul_nn {a b : UInt64} (ha : Core.DFin a) (hb : Core.DFin b) : Core.val64 (FP.dmul a b) ≠ .nan := by
  obtain ⟨s, n, e, h1, h2, h3⟩ := dmul_parts ha hb
  rw [h1]; exact Core.roundRatio_ne_nan _ _ _ _ _
theorem dadd_le {a b V : UInt64} (ha : Core.DFin a) (hb : Core.DFin b) (hV : Core.val64 V ≠ .nan) (h : zv a + zv b ≤ zv V) : zv (FP.dadd a b) ≤ zv V := by
  have := Core.sum_le Core.good_b64 ha hb (Core.val64_fits a) (Core.val64_fits b) (Core.val64_fits V) hV h
  unfold zv; show Core.zval Core.b64 (Core.val64 (Core.dadd a b)) ≤ _
  rw [Core.val64_dadd]; exact this
theorem dadd_ge {a b V : UInt64} (ha : Core.DFin a) (hb : Core.DFin b) (hV : Core.val64 V ≠ .nan) (h : zv V ≤ zv a + zv b) : zv V ≤ zv (FP.dadd a b) := by
  have := Core.sum_ge Core.good_b64 ha hb (Core.val64_fits a) (Core.val64_fits b) (Core.val64_fits V) hV h
  unfold zv; show _ ≤ Core.zval Core.b64 (Core.val64 (Core.dadd a b))
  rw [Core.val64_dadd]; exact this
theorem dadd_nn {a b : UInt64} (ha : Core.DFin a) (hb : Core.DFin b) : Core.val64 (FP.dadd a b) ≠ .nan := by
  have := Core.dadd_out (notNaN_of ha) hb
  exact (Core.notNaN_iff _).mp this
where notNaN_of {a : UInt64} (h : Core.DFin a) : Core.dIsNaN a = false := (Core.notNaN_iff a).mpr (notNan h)
theorem zv_dneg (a : UInt64) : zv (FP.dneg a) = - zv a := by
  unfold zv; rw [FP.val64_dneg, Core.zval_negate]
theorem fin_dneg {a : UInt64} (h : Core.DFin a) : Core.DFin (FP.dneg a) := by
  obtain ⟨s, c, q, h⟩ := h
  refine ⟨!s, c, q, ?_⟩
  rw [FP.val64_dneg, h]; rfl
theorem dsub_dadd {a b : UInt64} (hb : Core.DFin b) : FP.dsub a b = FP.dadd a (FP.dneg b) := by
  have h1 : FP.dneg b = Core.dneg b := FP.dneg_core ((Core.notNaN_iff b).mpr (notNan hb))
  rw [h1]; exact Core.dsub_eq a b
theorem dsub_le {a b V : UInt64} (ha : Core.DFin a) (hb : Core.DFin b) (hV : Core.val64 V ≠ .nan) (h : zv a - zv b ≤ zv V) : zv (FP.dsub a b) ≤ zv V := by
  rw [dsub_dadd hb]; exact dadd_le ha (fin_dneg hb) hV (by rw [zv_dneg]; omega)
theorem dsub_ge {a b V : UInt64} (ha : Core.DFin a) (hb : Core.DFin b) (hV : Core.val64 V ≠ .nan) (h : zv V ≤ zv a - zv b) : zv V ≤ zv (FP.dsub a b) := by
  rw [dsub_dadd hb]; exact dadd_ge ha (fin_dneg hb) hV (by rw [zv_dneg]; omega)
theorem dsub_nn {a b : UInt64} (ha : Core.DFin a) (hb : Core.DFin b) : Core.val64 (FP.dsub a b) ≠ .nan := by
  rw [dsub_dadd hb]; exact dadd_nn ha (fin_dneg hb)
/-- finite, if it lies between two finite ones -/
theorem fin_between {a V W : UInt64} (n : Core.val64 a ≠ .nan) (hV : Core.DFin V) (hW : Core.DFin W) (h1 : zv V ≤ zv a) (h2 : zv a ≤ zv W) : Core.DFin a := by
  have hv := hV.zval_lt; have hw := hW.zval_lt
  unfold zv Core.zval at h1 h2
  cases e : Core.val64 a with
  | nan => exact absurd e n
  | fin s c q => exact ⟨s, c, q, e⟩
  | inf s =>
    exfalso
    rw [e] at h1 h2
    have t : Core.zmag Core.b64 (.inf s) = Core.b64.tails * 2 ^ (Core.b64.exps - 2) := rfl
    rw [t] at h1 h2
    generalize Core.b64.tails * 2 ^ (Core.b64.exps - 2) = top at *
    generalize Core.zmag Core.b64 (Core.val64 V) = v at *
    generalize Core.zmag Core.b64 (Core.val64 W) = w at *
    generalize Core.sgn (Core.val64 V) = sv at *
    generalize Core.sgn (Core.val64 W) = sw at *
    cases s <;> cases sv <;> cases sw <;> simp [Core.signed, Core.sgn] at h1 h2 <;> omega
theorem signed_of (n : Int) : Core.signed (decide (n < 0)) n.natAbs = n := by
  unfold Core.signed
  by_cases q : n < 0
  · simp [q]; omega
  · simp [q]; omega
/-- n * 2^E units are a double -/
theorem repE (n : Int) (E : Nat) (hn : n.natAbs < 2 ^ 53) (hE : E ≤ 2045) : ∃ V, Core.DFin V ∧ zv V = n * 2 ^ E := by
  have hq : Core.b64.qmax = 971 := by decide
  obtain ⟨c', q', h1, h2⟩ := Core.round_exact Core.good_b64 (decide (n < 0)) (c := n.natAbs) (q := (E : Int) - 1074) hn (by rw [Core.qmin_b64]; omega) (by rw [hq]; omega)
  have h3 : Core.val64 (Core.of64 (Core.round Core.b64 (.fin (decide (n < 0)) n.natAbs ((E : Int) - 1074)))) = .fin (decide (n < 0)) c' q' := by
    rw [Core.val64_of64 (Core.round_fits Core.good_b64 _), h1]
  refine ⟨_, ⟨_, _, _, h3⟩, ?_⟩
  unfold zv Core.zval
  rw [h3]
  show Core.signed (decide (n < 0)) (Core.inUnits c' q' Core.b64.qmin) = _
  rw [h2]
  unfold Core.inUnits
  rw [Core.qmin_b64, show ((E : Int) - 1074 - -1074).toNat = E by omega, Core.signed_mul, signed_of, Int.natCast_pow]
  rfl
/-- n / 2^k is a double -/
theorem rep (n : Int) (k : Nat) (hn : n.natAbs ≤ 2 ^ 53) (hk : k ≤ 1000) : ∃ V, Core.DFin V ∧ zv V * 2 ^ k = n * U := by
  by_cases h : n.natAbs < 2 ^ 53
  · obtain ⟨V, fV, zV⟩ := repE n (1074 - k) h (by omega)
    exact ⟨V, fV, by rw [zV, U_pow k (by omega), Int.mul_assoc]⟩
  · by_cases hs : n < 0
    · obtain ⟨V, fV, zV⟩ := repE (-1) (53 + (1074 - k)) (by decide) (by omega)
      exact ⟨V, fV, by rw [zV, U_pow k (by omega), show n = -1 * 2 ^ 53 by omega, Int.pow_add]; ac_rfl⟩
    · obtain ⟨V, fV, zV⟩ := repE 1 (53 + (1074 - k)) (by decide) (by omega)
      exact ⟨V, fV, by rw [zV, U_pow k (by omega), show n = 1 * 2 ^ 53 by omega, Int.pow_add]; ac_rfl⟩
/-- and so are, with the infinities, the numbers up to 2^53 * 2^E -/
theorem repI (n : Int) (E : Nat) (hn : n.natAbs ≤ 2 ^ 53) (hE : E ≤ 2045) : ∃ V, Core.val64 V ≠ .nan ∧ zv V = n * 2 ^ E := by
  by_cases h : n.natAbs < 2 ^ 53
  · obtain ⟨V, fV, zV⟩ := repE n E h hE; exact ⟨V, notNan fV, zV⟩
  · by_cases hE2 : E + 53 ≤ 2045
    · by_cases hs : n < 0
      · obtain ⟨V, fV, zV⟩ := repE (-1) (53 + E) (by decide) (by omega)
        exact ⟨V, notNan fV, by rw [zV, show n = -1 * 2 ^ 53 by omega, Int.pow_add, Int.mul_assoc]⟩
      · obtain ⟨V, fV, zV⟩ := repE 1 (53 + E) (by decide) (by omega)
        exact ⟨V, notNan fV, by rw [zV, show n = 1 * 2 ^ 53 by omega, Int.pow_add, Int.mul_assoc]⟩
    · by_cases hE3 : E = 2045
      · subst hE3
        have v1 : Core.val64 9218868437227405312 = .inf false := by decide +kernel
        have v2 : Core.val64 18442240474082181120 = .inf true := by decide +kernel
        have z1 : Core.zmag Core.b64 (.inf false) = 2 ^ 53 * 2 ^ 2045 := by decide +kernel
        by_cases hs : n < 0
        · refine ⟨18442240474082181120, by rw [v2]; exact Core.Datum.noConfusion, ?_⟩
          unfold zv Core.zval; rw [v2]
          show Core.signed true (Core.zmag Core.b64 (.inf false)) = _
          rw [z1, Core.signed_mul, show n = -2 ^ 53 by omega, Int.natCast_pow]; rfl
        · refine ⟨9218868437227405312, by rw [v1]; exact Core.Datum.noConfusion, ?_⟩
          unfold zv Core.zval; rw [v1]
          show Core.signed false (Core.zmag Core.b64 (.inf false)) = _
          rw [z1, Core.signed_mul, show n = 2 ^ 53 by omega, Int.natCast_pow]; rfl
      · by_cases hs : n < 0
        · obtain ⟨V, fV, zV⟩ := repE (-2 ^ 52) (1 + E) (by decide) (by omega)
          exact ⟨V, notNan fV, by rw [zV, show n = -2 ^ 52 * 2 ^ 1 by omega, Int.pow_add, Int.mul_assoc]⟩
        · obtain ⟨V, fV, zV⟩ := repE (2 ^ 52) (1 + E) (by decide) (by omega)
          exact ⟨V, notNan fV, by rw [zV, show n = 2 ^ 52 * 2 ^ 1 by omega, Int.pow_add, Int.mul_assoc]⟩
theorem dmul_eq {a b V : UInt64} (ha : Core.DFin a) (hb : Core.DFin b) (hV : Core.val64 V ≠ .nan) (h : zv a * zv b = zv V * U) : zv (FP.dmul a b) = zv V := by
  have := dmul_le ha hb hV (Int.le_of_eq h); have := dmul_ge ha hb hV (Int.le_of_eq h.symm); omega
/-! ## values n / 2^k -/
/-- finite, and worth n / 2^k -/
def DS (n : Int) (k : Nat) (a : UInt64) : Prop := Core.DFin a ∧ zv a * 2 ^ k = n * U
def Le (a : UInt64) (n : Int) (k : Nat) : Prop := zv a * 2 ^ k ≤ n * U
def Ge (a : UInt64) (n : Int) (k : Nat) : Prop := n * U ≤ zv a * 2 ^ k
theorem DS.le {n : Int} {k : Nat} {a : UInt64} (h : DS n k a) : Le a n k := Int.le_of_eq h.2
theorem DS.ge {n : Int} {k : Nat} {a : UInt64} (h : DS n k a) : Ge a n k := Int.le_of_eq h.2.symm
theorem DS.int {i : Int} {a : UInt64} (h : Core.DInt i a) : DS i 0 a := by
  refine ⟨?_, ?_⟩
  · unfold Core.DInt at h
    cases e : Core.val64 a with
    | nan => rw [e] at h; exact h.elim
    | inf => rw [e] at h; exact h.elim
    | fin s c q => exact ⟨s, c, q, e⟩
  · show zv a * 2 ^ 0 = i * U
    rw [Int.pow_zero, Int.mul_one]; exact Core.DInt_zval h
theorem DS.i2d (x : Int32) : DS x.toInt 0 (FP.i2d x) := DS.int (Core.i2d_int x)
theorem DS.l2d {x : Int64} (h : x.toInt.natAbs ≤ 2 ^ 53) : DS x.toInt 0 (FP.l2d x) := DS.int (Core.l2d_int h)
theorem mul_cancel {a b c : Int} (hc : 0 < c) (h : a * c = b * c) : a = b := Int.eq_of_mul_eq_mul_right (by omega) h
theorem le_cancel {a b c : Int} (hc : 0 < c) (h : a * c ≤ b * c) : a ≤ b := Int.le_of_mul_le_mul_right h hc
theorem DS.up {n : Int} {k : Nat} {a : UInt64} (h : DS n k a) (j : Nat) : DS (n * 2 ^ j) (k + j) a := ⟨h.1, by
  rw [Int.pow_add, ← Int.mul_assoc, h.2]; grind⟩
theorem Le.up {n : Int} {k : Nat} {a : UInt64} (h : Le a n k) (j : Nat) : Le a (n * 2 ^ j) (k + j) := by
  unfold Le at *
  have := Int.mul_le_mul_of_nonneg_right h (Int.le_of_lt (pow_pos j))
  rw [Int.pow_add]; grind
theorem Ge.up {n : Int} {k : Nat} {a : UInt64} (h : Ge a n k) (j : Nat) : Ge a (n * 2 ^ j) (k + j) := by
  unfold Ge at *
  have := Int.mul_le_mul_of_nonneg_right h (Int.le_of_lt (pow_pos j))
  rw [Int.pow_add]; grind
/-- what lies between two bounds n / 2^k is finite -/
theorem fin_of {a : UInt64} {n m : Int} {k j : Nat} (nn : Core.val64 a ≠ .nan) (h1 : Ge a n k) (h2 : Le a m j) (bn : n.natAbs ≤ 2 ^ 53) (bm : m.natAbs ≤ 2 ^ 53) (hk : k ≤ 1000) (hj : j ≤ 1000) : Core.DFin a := by
  obtain ⟨V, fV, zV⟩ := rep n k bn hk
  obtain ⟨W, fW, zW⟩ := rep m j bm hj
  refine fin_between nn fV fW ?_ ?_
  · exact le_cancel (pow_pos k) (by unfold Ge at h1; omega)
  · exact le_cancel (pow_pos j) (by unfold Le at h2; omega)
theorem DS.of {a : UInt64} {n : Int} {k : Nat} (nn : Core.val64 a ≠ .nan) (h1 : Ge a n k) (h2 : Le a n k) (bn : n.natAbs ≤ 2 ^ 53) (hk : k ≤ 1000) : DS n k a :=
  ⟨fin_of nn h1 h2 bn bn hk hk, by unfold Ge at h1; unfold Le at h2; omega⟩
/-! the operations against bounds -/
theorem add_Le {a b : UInt64} {n m q : Int} {k : Nat} (fa : Core.DFin a) (fb : Core.DFin b) (ha : Le a n k) (hb : Le b m k) (h : n + m ≤ q) (bq : q.natAbs ≤ 2 ^ 53) (hk : k ≤ 1000) : Le (FP.dadd a b) q k := by
  obtain ⟨V, fV, zV⟩ := rep q k bq hk
  have h1 : zv (FP.dadd a b) ≤ zv V := dadd_le fa fb (notNan fV) (le_cancel (pow_pos k) (by
    unfold Le at ha hb
    rw [Int.add_mul, zV]
    have := Int.mul_le_mul_of_nonneg_right h (Int.le_of_lt U_pos)
    rw [Int.add_mul] at this; omega))
  unfold Le; rw [← zV]; exact Int.mul_le_mul_of_nonneg_right h1 (Int.le_of_lt (pow_pos k))
theorem add_Ge {a b : UInt64} {n m q : Int} {k : Nat} (fa : Core.DFin a) (fb : Core.DFin b) (ha : Ge a n k) (hb : Ge b m k) (h : q ≤ n + m) (bq : q.natAbs ≤ 2 ^ 53) (hk : k ≤ 1000) : Ge (FP.dadd a b) q k := by
  obtain ⟨V, fV, zV⟩ := rep q k bq hk
  have h1 : zv V ≤ zv (FP.dadd a b) := dadd_ge fa fb (notNan fV) (le_cancel (pow_pos k) (by
    unfold Ge at ha hb
    rw [Int.add_mul, zV]
    have := Int.mul_le_mul_of_nonneg_right h (Int.le_of_lt U_pos)
    rw [Int.add_mul] at this; omega))
  unfold Ge; rw [← zV]; exact Int.mul_le_mul_of_nonneg_right h1 (Int.le_of_lt (pow_pos k))
theorem DS.add {a b : UInt64} {n m : Int} {k : Nat} (ha : DS n k a) (hb : DS m k b) (bq : (n + m).natAbs ≤ 2 ^ 53) (hk : k ≤ 1000) : DS (n + m) k (FP.dadd a b) :=
  DS.of (dadd_nn ha.1 hb.1) (add_Ge ha.1 hb.1 ha.ge hb.ge (Int.le_refl _) bq hk) (add_Le ha.1 hb.1 ha.le hb.le (Int.le_refl _) bq hk) bq hk
theorem DS.neg {a : UInt64} {n : Int} {k : Nat} (ha : DS n k a) : DS (-n) k (FP.dneg a) := ⟨fin_dneg ha.1, by rw [zv_dneg, Int.neg_mul, ha.2, Int.neg_mul]⟩
theorem DS.sub {a b : UInt64} {n m : Int} {k : Nat} (ha : DS n k a) (hb : DS m k b) (bq : (n - m).natAbs ≤ 2 ^ 53) (hk : k ≤ 1000) : DS (n - m) k (FP.dsub a b) := by
  rw [dsub_dadd hb.1, show n - m = n + -m by omega]; exact ha.add hb.neg (by rw [← Int.sub_eq_add_neg]; exact bq) hk
theorem DS.mul {a b : UInt64} {n m : Int} {k j : Nat} (ha : DS n k a) (hb : DS m j b) (bq : (n * m).natAbs ≤ 2 ^ 53) (hk : k + j ≤ 1000) : DS (n * m) (k + j) (FP.dmul a b) := by
  obtain ⟨V, fV, zV⟩ := rep (n * m) (k + j) bq hk
  have e : zv a * zv b = zv V * U := by
    have h1 := ha.2; have h2 := hb.2
    refine mul_cancel (pow_pos (k + j)) ?_
    calc zv a * zv b * 2 ^ (k + j) = (zv a * 2 ^ k) * (zv b * 2 ^ j) := by rw [Int.pow_add]; grind
      _ = (n * U) * (m * U) := by rw [h1, h2]
      _ = (n * m * U) * U := by grind
      _ = zv V * U * 2 ^ (k + j) := by rw [← zV]; grind
  have g1 := dmul_le ha.1 hb.1 (notNan fV) (Int.le_of_eq e)
  have g2 := dmul_ge ha.1 hb.1 (notNan fV) (Int.le_of_eq e.symm)
  have g : zv (FP.dmul a b) = zv V := by omega
  exact ⟨fin_between (dmul_nn ha.1 hb.1) fV fV (by omega) (by omega), by rw [g, zV]⟩
theorem DS.pos {b : UInt64} {m : Int} {j : Nat} (hb : DS m j b) (hm : 0 < m) : 0 < zv b := by
  have h1 : 0 < zv b * 2 ^ j := by rw [hb.2]; exact Int.mul_pos hm U_pos
  exact Int.pos_of_mul_pos_left h1 (pow_pos j)
/-- a quotient against a bound q / 2^l -/
theorem div_Le {a b : UInt64} {n m q : Int} {k j l : Nat} (ha : DS n k a) (hb : DS m j b) (hm : 0 < m) (h : n * 2 ^ j * 2 ^ l ≤ q * m * 2 ^ k) (bq : q.natAbs ≤ 2 ^ 53) (hl : l ≤ 1000) : Le (FP.ddiv a b) q l := by
  obtain ⟨V, fV, zV⟩ := rep q l bq hl
  have h1 : zv (FP.ddiv a b) ≤ zv V := ddiv_le ha.1 hb.1 (hb.pos hm) (notNan fV) (by
    refine le_cancel (pow_pos (k + j + l)) ?_
    have e1 : zv a * U * 2 ^ (k + j + l) = (n * 2 ^ j * 2 ^ l) * (U * U) := by
      calc zv a * U * 2 ^ (k + j + l) = (zv a * 2 ^ k) * U * 2 ^ j * 2 ^ l := by rw [Int.pow_add, Int.pow_add]; grind
        _ = _ := by rw [ha.2]; grind
    have e2 : zv V * zv b * 2 ^ (k + j + l) = (q * m * 2 ^ k) * (U * U) := by
      calc zv V * zv b * 2 ^ (k + j + l) = (zv V * 2 ^ l) * (zv b * 2 ^ j) * 2 ^ k := by rw [Int.pow_add, Int.pow_add]; grind
        _ = _ := by rw [zV, hb.2]; grind
    rw [e1, e2]
    exact Int.mul_le_mul_of_nonneg_right h (Int.le_of_lt (Int.mul_pos U_pos U_pos)))
  unfold Le; rw [← zV]; exact Int.mul_le_mul_of_nonneg_right h1 (Int.le_of_lt (pow_pos l))
theorem div_Ge {a b : UInt64} {n m q : Int} {k j l : Nat} (ha : DS n k a) (hb : DS m j b) (hm : 0 < m) (h : q * m * 2 ^ k ≤ n * 2 ^ j * 2 ^ l) (bq : q.natAbs ≤ 2 ^ 53) (hl : l ≤ 1000) : Ge (FP.ddiv a b) q l := by
  obtain ⟨V, fV, zV⟩ := rep q l bq hl
  have h1 : zv V ≤ zv (FP.ddiv a b) := ddiv_ge ha.1 hb.1 (hb.pos hm) (notNan fV) (by
    refine le_cancel (pow_pos (k + j + l)) ?_
    have e1 : zv a * U * 2 ^ (k + j + l) = (n * 2 ^ j * 2 ^ l) * (U * U) := by
      calc zv a * U * 2 ^ (k + j + l) = (zv a * 2 ^ k) * U * 2 ^ j * 2 ^ l := by rw [Int.pow_add, Int.pow_add]; grind
        _ = _ := by rw [ha.2]; grind
    have e2 : zv V * zv b * 2 ^ (k + j + l) = (q * m * 2 ^ k) * (U * U) := by
      calc zv V * zv b * 2 ^ (k + j + l) = (zv V * 2 ^ l) * (zv b * 2 ^ j) * 2 ^ k := by rw [Int.pow_add, Int.pow_add]; grind
        _ = _ := by rw [zV, hb.2]; grind
    rw [e1, e2]
    exact Int.mul_le_mul_of_nonneg_right h (Int.le_of_lt (Int.mul_pos U_pos U_pos)))
  unfold Ge; rw [← zV]; exact Int.mul_le_mul_of_nonneg_right h1 (Int.le_of_lt (pow_pos l))
theorem DS.div {a b : UInt64} {n m q : Int} {k j l : Nat} (ha : DS n k a) (hb : DS m j b) (hm : 0 < m) (h : n * 2 ^ j * 2 ^ l = q * m * 2 ^ k) (bq : q.natAbs ≤ 2 ^ 53) (hl : l ≤ 1000) : DS q l (FP.ddiv a b) :=
  DS.of (ddiv_nn ha.1 hb.1 (hb.pos hm)) (div_Ge ha hb hm (Int.le_of_eq h.symm) bq hl) (div_Le ha hb hm (Int.le_of_eq h) bq hl) bq hl
/-! comparisons -/
theorem cmp_zv {a b : UInt64} (ha : Core.val64 a ≠ .nan) (hb : Core.val64 b ≠ .nan) : FP.dcmp a b = some (compare (zv a) (zv b)) := Core.dcmp_zval ha hb
theorem cmpV_of {a b : UInt64} (ha : Core.val64 a ≠ .nan) (hb : Core.val64 b ≠ .nan) (o : ClassFile.CmpOp) : Op.cmpValue (FP.dcmp a b) o = if zv a < zv b then -1 else if zv a = zv b then 0 else 1 := by
  rw [cmp_zv ha hb, Core.compare_ite]
  split
  · rfl
  · split <;> rfl
theorem cmp_gt {a b : UInt64} (ha : Core.val64 a ≠ .nan) (hb : Core.val64 b ≠ .nan) (h : zv b < zv a) (o : ClassFile.CmpOp) : Op.cmpValue (FP.dcmp a b) o = 1 := by
  rw [cmpV_of ha hb, if_neg (by omega), if_neg (by omega)]
theorem cmp_lt {a b : UInt64} (ha : Core.val64 a ≠ .nan) (hb : Core.val64 b ≠ .nan) (h : zv a < zv b) (o : ClassFile.CmpOp) : Op.cmpValue (FP.dcmp a b) o = -1 := by
  rw [cmpV_of ha hb, if_pos h]
theorem cmp_eq {a b : UInt64} (ha : Core.val64 a ≠ .nan) (hb : Core.val64 b ≠ .nan) (h : zv a = zv b) (o : ClassFile.CmpOp) : Op.cmpValue (FP.dcmp a b) o = 0 := by
  rw [cmpV_of ha hb, if_neg (by omega), if_pos h]
theorem zv_zero : zv FP.dconst0 = 0 := Core.zval64_zero
theorem cmp_neg {a b : UInt64} {k : Int32} {o : ClassFile.CmpOp} (h : Op.cmpValue (FP.dcmp a b) o = k) (ha : Core.val64 a ≠ .nan) (hb : Core.val64 b ≠ .nan) : k < 0 ↔ zv a < zv b := by
  rw [← h, cmpV_of ha hb]; split
  · exact ⟨fun _ => by assumption, fun _ => by decide⟩
  · split
    · exact ⟨fun h => absurd h (by decide), fun h => absurd h (by assumption)⟩
    · exact ⟨fun h => absurd h (by decide), fun h => absurd h (by assumption)⟩
theorem cmp_pos {a b : UInt64} {k : Int32} {o : ClassFile.CmpOp} (h : Op.cmpValue (FP.dcmp a b) o = k) (ha : Core.val64 a ≠ .nan) (hb : Core.val64 b ≠ .nan) : 0 < k ↔ zv b < zv a := by
  rw [← h, cmpV_of ha hb]; split
  · exact ⟨fun h => absurd h (by decide), fun h => by omega⟩
  · split
    · exact ⟨fun h => absurd h (by decide), fun h => by omega⟩
    · exact ⟨fun h => by omega, fun _ => by decide⟩
theorem cmp_nul {a b : UInt64} {k : Int32} {o : ClassFile.CmpOp} (h : Op.cmpValue (FP.dcmp a b) o = k) (ha : Core.val64 a ≠ .nan) (hb : Core.val64 b ≠ .nan) : k = 0 ↔ zv a = zv b := by
  rw [← h, cmpV_of ha hb]; split
  · exact ⟨fun h => absurd h (by decide), fun h => by omega⟩
  · split
    · exact ⟨fun _ => by assumption, fun _ => rfl⟩
    · exact ⟨fun h => absurd h (by decide), fun h => by omega⟩
theorem lt_of {a b : UInt64} {n m : Int} {k : Nat} (h1 : Le a n k) (h2 : Ge b m k) (h : n < m) : zv a < zv b := by
  unfold Le at h1; unfold Ge at h2
  have : n * U < m * U := Int.mul_lt_mul_of_pos_right h U_pos
  exact Int.lt_of_mul_lt_mul_right (a := 2 ^ k) (by omega) (Int.le_of_lt (pow_pos k))
theorem le_of {a b : UInt64} {n m : Int} {k : Nat} (h1 : Le a n k) (h2 : Ge b m k) (h : n ≤ m) : zv a ≤ zv b := by
  unfold Le at h1; unfold Ge at h2
  have : n * U ≤ m * U := Int.mul_le_mul_of_nonneg_right h (Int.le_of_lt U_pos)
  exact Int.le_of_mul_le_mul_right (a := 2 ^ k) (by omega) (pow_pos k)
theorem DS.cmp {a b : UInt64} {n m : Int} {k : Nat} (ha : DS n k a) (hb : DS m k b) (o : ClassFile.CmpOp) : Op.cmpValue (FP.dcmp a b) o = if n < m then -1 else if n = m then 0 else 1 := by
  rw [cmpV_of (notNan ha.1) (notNan hb.1)]
  by_cases h1 : n < m
  · rw [if_pos h1, if_pos (lt_of ha.le hb.ge h1)]
  · by_cases h2 : n = m
    · have e : zv a = zv b := by
        subst h2; have := le_of ha.le hb.ge (Int.le_refl _); have := le_of hb.le ha.ge (Int.le_refl _); omega
      rw [if_neg h1, if_pos h2, if_neg (by omega), if_pos e]
    · have := lt_of hb.le ha.ge (show m < n by omega)
      rw [if_neg h1, if_neg h2, if_neg (by omega), if_neg (by omega)]
theorem DS.zero : DS 0 0 FP.dconst0 := ⟨⟨false, 0, _, Core.val64_dconst0⟩, by
  have : zv FP.dconst0 = 0 := Core.zval64_zero
  rw [this]; simp⟩
theorem DS.one : DS 1 0 FP.dconst1 := DS.int Core.dint_one
theorem zv_one : zv FP.dconst1 = U := by have := DS.one.2; rwa [Int.pow_zero, Int.mul_one, Int.one_mul] at this
theorem DS.noNaN {n : Int} {k : Nat} {a : UInt64} (h : DS n k a) : Jvm.Free.Fl.NoNaN64 a := (Jvm.Free.Fl.fin64_core.mpr h.1).noNaN
theorem noNaN_of {a : UInt64} (h : Core.val64 a ≠ .nan) : Jvm.Free.Fl.NoNaN64 a := Jvm.Free.Fl.noNaN64_no.mpr ((Core.notNaN_iff a).mpr h)
end Jvm.OwnFP
namespace Jvm.OwnFP
open Jvm.FP
theorem sgn_pos {a : UInt64} (h : 0 < zv a) : Core.sgn (Core.val64 a) = false := by
  unfold zv Core.zval at h
  cases e : Core.sgn (Core.val64 a) with
  | false => rfl
  | true => rw [e] at h; simp only [Core.signed, if_true] at h; omega
/-- one quotient by two roads -/
theorem DS.div_same {a a' b b' : UInt64} {n d : Int} {k j : Nat} (ha : DS n k a) (ha' : DS n k a') (hb : DS d j b) (hb' : DS d j b') (hn : 0 < n) (hd : 0 < d) : FP.ddiv a b = FP.ddiv a' b' := by
  have e1 : zv a = zv a' := mul_cancel (pow_pos k) (by rw [ha.2, ha'.2])
  have e2 : zv b = zv b' := mul_cancel (pow_pos j) (by rw [hb.2, hb'.2])
  refine ddiv_congr ha.1 hb.1 (hb.pos hd) ha'.1 hb'.1 (hb'.pos hd) ?_ (by rw [e1, e2])
  rw [sgn_pos (ha.pos hn), sgn_pos (ha'.pos hn)]
end Jvm.OwnFP
namespace Jvm.OwnFP
open Jvm.FP
theorem Le.neg {a : UInt64} {n : Int} {k : Nat} (h : Le a n k) : Ge (FP.dneg a) (-n) k := by unfold Le at h; unfold Ge; rw [zv_dneg, Int.neg_mul, Int.neg_mul]; omega
theorem Ge.neg {a : UInt64} {n : Int} {k : Nat} (h : Ge a n k) : Le (FP.dneg a) (-n) k := by unfold Ge at h; unfold Le; rw [zv_dneg, Int.neg_mul, Int.neg_mul]; omega
theorem sub_Le {a b : UInt64} {n m q : Int} {k : Nat} (fa : Core.DFin a) (fb : Core.DFin b) (ha : Le a n k) (hb : Ge b m k) (h : n - m ≤ q) (bq : q.natAbs ≤ 2 ^ 53) (hk : k ≤ 1000) : Le (FP.dsub a b) q k := by
  rw [dsub_dadd fb]; exact add_Le fa (fin_dneg fb) ha hb.neg (by omega) bq hk
theorem sub_Ge {a b : UInt64} {n m q : Int} {k : Nat} (fa : Core.DFin a) (fb : Core.DFin b) (ha : Ge a n k) (hb : Le b m k) (h : q ≤ n - m) (bq : q.natAbs ≤ 2 ^ 53) (hk : k ≤ 1000) : Ge (FP.dsub a b) q k := by
  rw [dsub_dadd fb]; exact add_Ge fa (fin_dneg fb) ha hb.neg (by omega) bq hk
/-- one quotient at two scales -/
theorem DS.div_scale {a a' b b' : UInt64} {n d : Int} {k k' : Nat} (ha : DS n k a) (ha' : DS n k' a') (hb : DS d k b) (hb' : DS d k' b') (hn : 0 < n) (hd : 0 < d) : FP.ddiv a b = FP.ddiv a' b' := by
  refine ddiv_congr ha.1 hb.1 (hb.pos hd) ha'.1 hb'.1 (hb'.pos hd) ?_ ?_
  · rw [sgn_pos (ha.pos hn), sgn_pos (ha'.pos hn)]
  · refine mul_cancel (pow_pos (k + k')) ?_
    calc zv a * zv b' * 2 ^ (k + k') = (zv a * 2 ^ k) * (zv b' * 2 ^ k') := by rw [Int.pow_add]; ac_rfl
      _ = (zv a' * 2 ^ k') * (zv b * 2 ^ k) := by rw [ha.2, hb'.2, ha'.2, hb.2]
      _ = zv a' * zv b * 2 ^ (k + k') := by rw [Int.pow_add]; ac_rfl
end Jvm.OwnFP
namespace Jvm.Pilot.@@N@@
open Jvm Jvm.ClassFile Sem Op Lib Jvm.Free Jvm.Stand Jvm.LawKit Jvm.RoadKit Bundle Jvm.Pilot.@@N@@.Jvm.D
open Jvm.OwnFP Jvm.FP
theorem pn_com_example_detectability_detectability_ComparedProteinGetSpectraBPinLaw : plainName "com/example/detectability/detectability/ComparedProteinGetSpectraBPinLaw" = true := by first | (simp [plainName, overriddenIn]; done) | decide +kernel
theorem pn_com_example_detectability_detectability_ComparedProtein : plainName "com/example/detectability/detectability/ComparedProtein" = true := by first | (simp [plainName, overriddenIn]; done) | decide +kernel
theorem pn_com_example_detectability_detectability_ProteinAbundance : plainName "com/example/detectability/detectability/ProteinAbundance" = true := by first | (simp [plainName, overriddenIn]; done) | decide +kernel
theorem pd___V : parseMethodDescriptor "()V" = some ⟨[], none⟩ := by decide +kernel
theorem pd__Ljava_lang_String_Lcom_example_detectability_detectability_ProteinAbundance_Lcom_example_detectability_detectability_ProteinAbundance_DD_V : parseMethodDescriptor "(Ljava/lang/String;Lcom/example/detectability/detectability/ProteinAbundance;Lcom/example/detectability/detectability/ProteinAbundance;DD)V" = some ⟨[(.object "java/lang/String"), (.object "com/example/detectability/detectability/ProteinAbundance"), (.object "com/example/detectability/detectability/ProteinAbundance"), .double, .double], none⟩ := by decide +kernel
theorem pd__Ljava_lang_String_JD_V : parseMethodDescriptor "(Ljava/lang/String;JD)V" = some ⟨[(.object "java/lang/String"), .long, .double], none⟩ := by decide +kernel
theorem pd___J : parseMethodDescriptor "()J" = some ⟨[], some .long⟩ := by decide +kernel
theorem strW : ∀ d ∈ Bundle.stringAtoms, d ∈ tables_1 := by
  intro d hd
  simp only [Bundle.stringAtoms, List.mem_cons, List.not_mem_nil, or_false] at hd
  rcases hd with rfl | rfl | rfl | rfl | rfl | rfl | rfl
  · exact List.mem_of_getElem? (i := 4) rfl
  · exact List.mem_of_getElem? (i := 5) rfl
  · exact List.mem_of_getElem? (i := 6) rfl
  · exact List.mem_of_getElem? (i := 7) rfl
  · exact List.mem_of_getElem? (i := 8) rfl
  · exact List.mem_of_getElem? (i := 9) rfl
  · exact List.mem_of_getElem? (i := 10) rfl
theorem d4_0 : decode prog_30_method_1_code 0 = .ok (.aload_n 0, 1) := by decide +kernel
theorem d4_1 : decode prog_30_method_1_code 1 = .ok (.invokespecial 1, 3) := by decide +kernel
theorem d4_4 : decode prog_30_method_1_code 4 = .ok (.aload_n 0, 1) := by decide +kernel
theorem d4_5 : decode prog_30_method_1_code 5 = .ok (.aload_n 1, 1) := by decide +kernel
theorem d4_6 : decode prog_30_method_1_code 6 = .ok (.putfield 7, 3) := by decide +kernel
theorem d4_9 : decode prog_30_method_1_code 9 = .ok (.aload_n 0, 1) := by decide +kernel
theorem d4_10 : decode prog_30_method_1_code 10 = .ok (.lload_n 2, 1) := by decide +kernel
theorem d4_11 : decode prog_30_method_1_code 11 = .ok (.putfield 13, 3) := by decide +kernel
theorem d4_14 : decode prog_30_method_1_code 14 = .ok (.aload_n 0, 1) := by decide +kernel
theorem d4_15 : decode prog_30_method_1_code 15 = .ok (.dload 4, 2) := by decide +kernel
theorem d4_17 : decode prog_30_method_1_code 17 = .ok (.putfield 17, 3) := by decide +kernel
theorem d4_20 : decode prog_30_method_1_code 20 = .ok (.return_, 1) := by decide +kernel
theorem ef_pi (m : MethodId) (a1 : Addr) (ps : Addr) (pj : Int64) (pd : UInt64) : entryFrame m #[(.ref a1), (.ref ps), (.long pj), (.double pd)] 6 = (mkF m 0 #[.val (.ref a1), .val (.ref ps), .val (.long pj), .second, .val (.double pd), .second] []) := by first | (simp [entryFrame, mkF, argsToLocals, Value.category]; done) | rfl
def Q_pi (Z : State) (a1 : Addr) (ps : Addr) (pj : Int64) (pd : UInt64) (h0 : Heap) (n0 : Nat) (v : Option Value) (h : Heap) (L : List Loc) : Prop := v = none ∧ Fr n0 L ∧ Keep h0 h [a1] ∧ Exa Z h a1 "com/example/detectability/detectability/ProteinAbundance" ∧ Fld Z h a1 "com/example/detectability/detectability/ProteinAbundance" "name" "Ljava/lang/String;" (.ref ps) ∧ Fld Z h a1 "com/example/detectability/detectability/ProteinAbundance" "spectra" "J" (.long pj) ∧ Fld Z h a1 "com/example/detectability/detectability/ProteinAbundance" "abundance" "D" (.double pd)
set_option maxRecDepth 65536 in
set_option maxHeartbeats 2000000 in
theorem rm_pi (l : Launch) (Z : State) (a0 : Array Value) (hw : ∀ d ∈ tables_1, d.before a0 Z = true) (ws : List Jvm.Cond) (a1 : Addr) (ps : Addr) (pj : Int64) (pd : UInt64) (h0 : Heap) (n0 : Nat) (Z0 : n0 ≤ h0.size) (E_a1 : Exa Z h0 a1 "com/example/detectability/detectability/ProteinAbundance") (F_0 : Fld Z h0 a1 "com/example/detectability/detectability/ProteinAbundance" "name" "Ljava/lang/String;" .null) (F_1 : Fld Z h0 a1 "com/example/detectability/detectability/ProteinAbundance" "spectra" "J" (.long (0 : Int64))) (F_2 : Fld Z h0 a1 "com/example/detectability/detectability/ProteinAbundance" "abundance" "D" (.double (0 : UInt64))) (g_a1 : n0 ≤ a1) :
    MetFree l (⟨"com/example/detectability/detectability/ProteinAbundance", "<init>", "(Ljava/lang/String;JD)V"⟩ : MethodName) (head1 (Jvm.Cond.code (⟨"com/example/detectability/detectability/ProteinAbundance", "<init>", "(Ljava/lang/String;JD)V"⟩ : MethodName) prog_30_method_1_code 6 none :: ws) ({ frames := 1, cells := 0, slots := 0, locals := 12 } : Room)) (fun aa UU => aa = #[(.ref a1), (.ref ps), (.long pj), (.double pd)] ∧ Z.Warmed39 UU.vm ∧ UU.heap = h0) (fun _ _ _ _ _ => True) (fun _ UU oo UU' => ∃ v L, oo = .returned v ∧ Q_pi Z a1 ps pj pd h0 n0 v UU'.heap L ∧ FrameEnd UU oo UU' L ({ frames := 1, cells := 0, slots := 0, locals := 12 } : Room).cells ({ frames := 1, cells := 0, slots := 0, locals := 12 } : Room).slots) := by
  refine MetFree.of_bodySF (plainFor_of_name pn_com_example_detectability_detectability_ProteinAbundance) hisR ?_
  intro p e s m args below meth c s₁ Bd hml0 hP hK
  obtain ⟨rfl, hZ, hh⟩ := hP
  have hx := Bd.exec
  have hby := Bd.bytes
  have hml : c.maxLocals = 6 := hml0
  have hown : s.vm.findClass "com/example/detectability/detectability/ProteinAbundance" = some m.cls := findClass_of_methodNamed Bd.named
  have hnaM := (name_of_methodNamed Bd.named Bd.method).1
  have X0 : Stand p l e ({ frames := 1, cells := 0, slots := 0, locals := 12 } : Room) s m #[(.ref a1), (.ref ps), (.long pj), (.double pd)] below meth c s₁ [] 0 0 := Stand.of_body Bd
  have e0 : s₁.heap = h0 := by rw [← hh, Bd.state]; rfl
  have N0 := Fr.nil n0
  have pre0 : ∀ t, Steps p.tables e below (s₁.setTop (entryFrame m #[(.ref a1), (.ref ps), (.long pj), (.double pd)] 6)) t → Steps p.tables e below (s₁.setTop (entryFrame m #[(.ref a1), (.ref ps), (.long pj), (.double pd)] 6)) t := fun t k => k
  have c0 : ∀ t, Steps p.tables e below (s₁.setTop (mkF m 0 #[.val (.ref a1), .val (.ref ps), .val (.long pj), .second, .val (.double pd), .second] [])) t → Steps p.tables e below (s₁.setTop (entryFrame m #[(.ref a1), (.ref ps), (.long pj), (.double pd)] 6)) t := fun t k => castTop (ef_pi m a1 ps pj pd) k
  have K0 := Keep.refl h0 [a1]
  have c1 : ∀ t, Steps p.tables e below (s₁.setTop (mkF m 1 #[.val (.ref a1), .val (.ref ps), .val (.long pj), .second, .val (.double pd), .second] [(.ref a1)])) t → Steps p.tables e below (s₁.setTop (entryFrame m #[(.ref a1), (.ref ps), (.long pj), (.double pd)] 6)) t := fun t k => c0 t (by
    show Steps p.tables e below (s₁.setTop (mkF m 0 #[.val (.ref a1), .val (.ref ps), .val (.long pj), .second, .val (.double pd), .second] [])) _
    refine XS.aloadN X0.here hx rfl (hb hby d4_0) rfl rfl ?_
    show Steps p.tables e below (s₁.setTop (mkF m 1 #[.val (.ref a1), .val (.ref ps), .val (.long pj), .second, .val (.double pd), .second] [(.ref a1)])) _
    exact k)
  obtain ⟨T2, X2, e2, st2⟩ := initO X0 hx hZ hown (hw _ (List.mem_of_getElem? (i := 38) rfl)) (hw _ (List.mem_of_getElem? (i := 15) rfl)) (hw _ (List.mem_of_getElem? (i := 16) rfl)) e0 (g := (mkF m 1 #[.val (.ref a1), .val (.ref ps), .val (.long pj), .second, .val (.double pd), .second] [(.ref a1)])) rfl (by rw [hml]; rfl) rfl (hb hby d4_1) (by decide) (W := 0) (by show 2 * 0 + _ ≤ _; exact Nat.le_of_eq rfl) (by decide)
  have c3 : ∀ t, Steps p.tables e below (T2.setTop (mkF m 4 #[.val (.ref a1), .val (.ref ps), .val (.long pj), .second, .val (.double pd), .second] [])) t → Steps p.tables e below (s₁.setTop (entryFrame m #[(.ref a1), (.ref ps), (.long pj), (.double pd)] 6)) t := fun t k => c1 t (st2 _ k)
  have c4 : ∀ t, Steps p.tables e below (T2.setTop (mkF m 6 #[.val (.ref a1), .val (.ref ps), .val (.long pj), .second, .val (.double pd), .second] [(.ref ps), (.ref a1)])) t → Steps p.tables e below (s₁.setTop (entryFrame m #[(.ref a1), (.ref ps), (.long pj), (.double pd)] 6)) t := fun t k => c3 t (by
    show Steps p.tables e below (T2.setTop (mkF m 4 #[.val (.ref a1), .val (.ref ps), .val (.long pj), .second, .val (.double pd), .second] [])) _
    refine XS.aloadN X2.here hx rfl (hb hby d4_4) rfl rfl ?_
    show Steps p.tables e below (T2.setTop (mkF m 5 #[.val (.ref a1), .val (.ref ps), .val (.long pj), .second, .val (.double pd), .second] [(.ref a1)])) _
    refine XS.aloadN X2.here hx rfl (hb hby d4_5) rfl rfl ?_
    show Steps p.tables e below (T2.setTop (mkF m 6 #[.val (.ref a1), .val (.ref ps), .val (.long pj), .second, .val (.double pd), .second] [(.ref ps), (.ref a1)])) _
    exact k)
  obtain ⟨T5, h5, X5, e5, W5, st5⟩ := putF X2 hx hZ hown (host := "") (Or.inl (hw _ (List.mem_of_getElem? (i := 39) rfl))) Via.refl e2 F_0 E_a1 (Or.inr ⟨(hw _ (List.mem_of_getElem? (i := 40) rfl)), rfl, hnaM⟩) (hw _ (List.mem_of_getElem? (i := 33) rfl)) (ty := (.object "java/lang/String")) (by decide) rfl rfl (g := (mkF m 6 #[.val (.ref a1), .val (.ref ps), .val (.long pj), .second, .val (.double pd), .second] [(.ref ps), (.ref a1)])) rfl rfl (hb hby d4_6)
  have F6 : Fld Z h5 a1 "com/example/detectability/detectability/ProteinAbundance" "name" "Ljava/lang/String;" (.ref ps) := F_0.same W5
  have F7 : Exa Z h5 a1 "com/example/detectability/detectability/ProteinAbundance" := (E_a1.wr W5)
  have F8 : Fld Z h5 a1 "com/example/detectability/detectability/ProteinAbundance" "spectra" "J" (.long (0 : Int64)) := (F_1.other W5 (Or.inr (slot_ne (Or.inr (hw _ (List.mem_of_getElem? (i := 42) rfl))) (Or.inr (hw _ (List.mem_of_getElem? (i := 40) rfl))) (by decide) (t := .long) (t' := (.object "java/lang/String")) (by decide) (by decide))))
  have F9 : Fld Z h5 a1 "com/example/detectability/detectability/ProteinAbundance" "abundance" "D" (.double (0 : UInt64)) := (F_2.other W5 (Or.inr (slot_ne (Or.inr (hw _ (List.mem_of_getElem? (i := 44) rfl))) (Or.inr (hw _ (List.mem_of_getElem? (i := 40) rfl))) (by decide) (t := .double) (t' := (.object "java/lang/String")) (by decide) (by decide))))
  have N5 := Fr.snoc X5 N0 g_a1
  have K10 : Keep h0 h5 [a1] := K0.wr W5 (Or.inl (List.mem_of_getElem? (i := 0) rfl))
  have c11 : ∀ t, Steps p.tables e below (T5.setTop (mkF m 9 #[.val (.ref a1), .val (.ref ps), .val (.long pj), .second, .val (.double pd), .second] [])) t → Steps p.tables e below (s₁.setTop (entryFrame m #[(.ref a1), (.ref ps), (.long pj), (.double pd)] 6)) t := fun t k => c4 t (st5 _ k)
  have c12 : ∀ t, Steps p.tables e below (T5.setTop (mkF m 11 #[.val (.ref a1), .val (.ref ps), .val (.long pj), .second, .val (.double pd), .second] [(.long pj), (.ref a1)])) t → Steps p.tables e below (s₁.setTop (entryFrame m #[(.ref a1), (.ref ps), (.long pj), (.double pd)] 6)) t := fun t k => c11 t (by
    show Steps p.tables e below (T5.setTop (mkF m 9 #[.val (.ref a1), .val (.ref ps), .val (.long pj), .second, .val (.double pd), .second] [])) _
    refine XS.aloadN X5.here hx rfl (hb hby d4_9) rfl rfl ?_
    show Steps p.tables e below (T5.setTop (mkF m 10 #[.val (.ref a1), .val (.ref ps), .val (.long pj), .second, .val (.double pd), .second] [(.ref a1)])) _
    refine XT.lloadN X5.here hx rfl (hb hby d4_10) rfl ?_
    show Steps p.tables e below (T5.setTop (mkF m 11 #[.val (.ref a1), .val (.ref ps), .val (.long pj), .second, .val (.double pd), .second] [(.long pj), (.ref a1)])) _
    exact k)
  obtain ⟨T13, h13, X13, e13, W13, st13⟩ := putF X5 hx hZ hown (host := "") (Or.inl (hw _ (List.mem_of_getElem? (i := 41) rfl))) Via.refl e5 F8 F7 (Or.inr ⟨(hw _ (List.mem_of_getElem? (i := 42) rfl)), rfl, hnaM⟩) (hw _ (List.mem_of_getElem? (i := 33) rfl)) (ty := .long) (by decide) rfl rfl (g := (mkF m 11 #[.val (.ref a1), .val (.ref ps), .val (.long pj), .second, .val (.double pd), .second] [(.long pj), (.ref a1)])) rfl rfl (hb hby d4_11)
  have F14 : Fld Z h13 a1 "com/example/detectability/detectability/ProteinAbundance" "spectra" "J" (.long pj) := F8.same W13
  have F15 : Exa Z h13 a1 "com/example/detectability/detectability/ProteinAbundance" := (F7.wr W13)
  have F16 : Fld Z h13 a1 "com/example/detectability/detectability/ProteinAbundance" "name" "Ljava/lang/String;" (.ref ps) := (F6.other W13 (Or.inr (slot_ne (Or.inr (hw _ (List.mem_of_getElem? (i := 40) rfl))) (Or.inr (hw _ (List.mem_of_getElem? (i := 42) rfl))) (by decide) (t := (.object "java/lang/String")) (t' := .long) (by decide) (by decide))))
  have F17 : Fld Z h13 a1 "com/example/detectability/detectability/ProteinAbundance" "abundance" "D" (.double (0 : UInt64)) := (F9.other W13 (Or.inr (slot_ne (Or.inr (hw _ (List.mem_of_getElem? (i := 44) rfl))) (Or.inr (hw _ (List.mem_of_getElem? (i := 42) rfl))) (by decide) (t := .double) (t' := .long) (by decide) (by decide))))
  have N13 := Fr.snoc X13 N5 g_a1
  have K18 : Keep h0 h13 [a1] := K10.wr W13 (Or.inl (List.mem_of_getElem? (i := 0) rfl))
  have c19 : ∀ t, Steps p.tables e below (T13.setTop (mkF m 14 #[.val (.ref a1), .val (.ref ps), .val (.long pj), .second, .val (.double pd), .second] [])) t → Steps p.tables e below (s₁.setTop (entryFrame m #[(.ref a1), (.ref ps), (.long pj), (.double pd)] 6)) t := fun t k => c12 t (st13 _ k)
  have c20 : ∀ t, Steps p.tables e below (T13.setTop (mkF m 17 #[.val (.ref a1), .val (.ref ps), .val (.long pj), .second, .val (.double pd), .second] [(.double pd), (.ref a1)])) t → Steps p.tables e below (s₁.setTop (entryFrame m #[(.ref a1), (.ref ps), (.long pj), (.double pd)] 6)) t := fun t k => c19 t (by
    show Steps p.tables e below (T13.setTop (mkF m 14 #[.val (.ref a1), .val (.ref ps), .val (.long pj), .second, .val (.double pd), .second] [])) _
    refine XS.aloadN X13.here hx rfl (hb hby d4_14) rfl rfl ?_
    show Steps p.tables e below (T13.setTop (mkF m 15 #[.val (.ref a1), .val (.ref ps), .val (.long pj), .second, .val (.double pd), .second] [(.ref a1)])) _
    refine XS.dload X13.here hx rfl (hb hby d4_15) rfl ?_
    show Steps p.tables e below (T13.setTop (mkF m 17 #[.val (.ref a1), .val (.ref ps), .val (.long pj), .second, .val (.double pd), .second] [(.double pd), (.ref a1)])) _
    exact k)
  obtain ⟨T21, h21, X21, e21, W21, st21⟩ := putF X13 hx hZ hown (host := "") (Or.inl (hw _ (List.mem_of_getElem? (i := 43) rfl))) Via.refl e13 F17 F15 (Or.inr ⟨(hw _ (List.mem_of_getElem? (i := 44) rfl)), rfl, hnaM⟩) (hw _ (List.mem_of_getElem? (i := 33) rfl)) (ty := .double) (by decide) rfl rfl (g := (mkF m 17 #[.val (.ref a1), .val (.ref ps), .val (.long pj), .second, .val (.double pd), .second] [(.double pd), (.ref a1)])) rfl rfl (hb hby d4_17)
  have F22 : Fld Z h21 a1 "com/example/detectability/detectability/ProteinAbundance" "abundance" "D" (.double pd) := F17.same W21
  have F23 : Exa Z h21 a1 "com/example/detectability/detectability/ProteinAbundance" := (F15.wr W21)
  have F24 : Fld Z h21 a1 "com/example/detectability/detectability/ProteinAbundance" "name" "Ljava/lang/String;" (.ref ps) := (F16.other W21 (Or.inr (slot_ne (Or.inr (hw _ (List.mem_of_getElem? (i := 40) rfl))) (Or.inr (hw _ (List.mem_of_getElem? (i := 44) rfl))) (by decide) (t := (.object "java/lang/String")) (t' := .double) (by decide) (by decide))))
  have F25 : Fld Z h21 a1 "com/example/detectability/detectability/ProteinAbundance" "spectra" "J" (.long pj) := (F14.other W21 (Or.inr (slot_ne (Or.inr (hw _ (List.mem_of_getElem? (i := 42) rfl))) (Or.inr (hw _ (List.mem_of_getElem? (i := 44) rfl))) (by decide) (t := .long) (t' := .double) (by decide) (by decide))))
  have N21 := Fr.snoc X21 N13 g_a1
  have K26 : Keep h0 h21 [a1] := K18.wr W21 (Or.inl (List.mem_of_getElem? (i := 0) rfl))
  have c27 : ∀ t, Steps p.tables e below (T21.setTop (mkF m 20 #[.val (.ref a1), .val (.ref ps), .val (.long pj), .second, .val (.double pd), .second] [])) t → Steps p.tables e below (s₁.setTop (entryFrame m #[(.ref a1), (.ref ps), (.long pj), (.double pd)] 6)) t := fun t k => c20 t (st21 _ k)
  obtain ⟨fs, hr, hrun, hended, hW, hsame⟩ := X21.leave (v := none) (fun _ => rfl)
  refine ⟨_, _, pre0 _ (c27 _ (X21.returnOut hx Bd.returns (hb hby d4_20) hr)), hrun, hended, _, _, rfl, ?_, ⟨_, rfl⟩, hW, hsame.mono (by decide) (by decide)⟩
  show Q_pi Z a1 ps pj pd h0 n0 _ T21.heap _
  rw [e21]
  exact ⟨rfl, N21, K26, F23, F24, F25, F22⟩
theorem d5_0 : decode prog_30_method_3_code 0 = .ok (.aload_n 0, 1) := by decide +kernel
theorem d5_1 : decode prog_30_method_3_code 1 = .ok (.getfield 13, 3) := by decide +kernel
theorem d5_4 : decode prog_30_method_3_code 4 = .ok (.lreturn, 1) := by decide +kernel
theorem ef_pg (m : MethodId) (a1 : Addr) (pj : Int64) : entryFrame m #[(.ref a1)] 1 = (mkF m 0 #[.val (.ref a1)] []) := by first | (simp [entryFrame, mkF, argsToLocals, Value.category]; done) | rfl
def Q_pg (Z : State) (a1 : Addr) (pj : Int64) (h0 : Heap) (n0 : Nat) (v : Option Value) (h : Heap) (L : List Loc) : Prop := v = some (.long pj) ∧ Fr n0 L ∧ h = h0
set_option maxRecDepth 65536 in
set_option maxHeartbeats 2000000 in
theorem rm_pg (l : Launch) (Z : State) (a0 : Array Value) (hw : ∀ d ∈ tables_1, d.before a0 Z = true) (ws : List Jvm.Cond) (a1 : Addr) (pj : Int64) (h0 : Heap) (n0 : Nat) (Z0 : n0 ≤ h0.size) (G_0 : Fld Z h0 a1 "com/example/detectability/detectability/ProteinAbundance" "spectra" "J" (.long pj)) :
    MetFree l (⟨"com/example/detectability/detectability/ProteinAbundance", "getSpectra", "()J"⟩ : MethodName) (head1 (Jvm.Cond.code (⟨"com/example/detectability/detectability/ProteinAbundance", "getSpectra", "()J"⟩ : MethodName) prog_30_method_3_code 1 (some .long) :: ws) ({ frames := 0, cells := 0, slots := 0, locals := 0 } : Room)) (fun aa UU => aa = #[(.ref a1)] ∧ Z.Warmed39 UU.vm ∧ UU.heap = h0) (fun _ _ _ _ _ => True) (fun _ UU oo UU' => ∃ v L, oo = .returned v ∧ Q_pg Z a1 pj h0 n0 v UU'.heap L ∧ FrameEnd UU oo UU' L ({ frames := 0, cells := 0, slots := 0, locals := 0 } : Room).cells ({ frames := 0, cells := 0, slots := 0, locals := 0 } : Room).slots) := by
  refine MetFree.of_bodySF (plainFor_of_name pn_com_example_detectability_detectability_ProteinAbundance) hisR ?_
  intro p e s m args below meth c s₁ Bd hml0 hP hK
  obtain ⟨rfl, hZ, hh⟩ := hP
  have hx := Bd.exec
  have hby := Bd.bytes
  have hml : c.maxLocals = 1 := hml0
  have hown : s.vm.findClass "com/example/detectability/detectability/ProteinAbundance" = some m.cls := findClass_of_methodNamed Bd.named
  have hnaM := (name_of_methodNamed Bd.named Bd.method).1
  have X0 : Stand p l e ({ frames := 0, cells := 0, slots := 0, locals := 0 } : Room) s m #[(.ref a1)] below meth c s₁ [] 0 0 := Stand.of_body Bd
  have e0 : s₁.heap = h0 := by rw [← hh, Bd.state]; rfl
  have N0 := Fr.nil n0
  have pre0 : ∀ t, Steps p.tables e below (s₁.setTop (entryFrame m #[(.ref a1)] 1)) t → Steps p.tables e below (s₁.setTop (entryFrame m #[(.ref a1)] 1)) t := fun t k => k
  have c0 : ∀ t, Steps p.tables e below (s₁.setTop (mkF m 0 #[.val (.ref a1)] [])) t → Steps p.tables e below (s₁.setTop (entryFrame m #[(.ref a1)] 1)) t := fun t k => castTop (ef_pg m a1 pj) k
  have c1 : ∀ t, Steps p.tables e below (s₁.setTop (mkF m 1 #[.val (.ref a1)] [(.ref a1)])) t → Steps p.tables e below (s₁.setTop (entryFrame m #[(.ref a1)] 1)) t := fun t k => c0 t (by
    show Steps p.tables e below (s₁.setTop (mkF m 0 #[.val (.ref a1)] [])) _
    refine XS.aloadN X0.here hx rfl (hb hby d5_0) rfl rfl ?_
    show Steps p.tables e below (s₁.setTop (mkF m 1 #[.val (.ref a1)] [(.ref a1)])) _
    exact k)
  obtain ⟨T2, X2, e2, st2⟩ := getF X0 hx hZ hown (host := "") (Or.inl (hw _ (List.mem_of_getElem? (i := 41) rfl))) Via.refl e0 G_0 (g := (mkF m 1 #[.val (.ref a1)] [(.ref a1)])) rfl rfl (hb hby d5_1)
  have c3 : ∀ t, Steps p.tables e below (T2.setTop (mkF m 4 #[.val (.ref a1)] [(.long pj)])) t → Steps p.tables e below (s₁.setTop (entryFrame m #[(.ref a1)] 1)) t := fun t k => c1 t (st2 _ k)
  obtain ⟨fs, hr, hrun, hended, hW, hsame⟩ := X2.leave (v := (some (.long pj))) (fun h => by rw [Bd.returns] at h; cases h)
  refine ⟨_, _, pre0 _ (c3 _ (retOut X2 hx (t := .long) (i := .lreturn) Bd.returns rfl (Or.inr (Or.inl ⟨rfl, rfl, _, rfl⟩)) (hb hby d5_4) hr)), hrun, hended, _, _, rfl, ?_, ⟨_, rfl⟩, hW, hsame.mono (by decide) (by decide)⟩
  show Q_pg Z a1 pj h0 n0 _ T2.heap _
  rw [e2]
  exact ⟨rfl, N0, rfl⟩
theorem d1_0 : decode prog_4_method_1_code 0 = .ok (.aload_n 0, 1) := by decide +kernel
theorem d1_1 : decode prog_4_method_1_code 1 = .ok (.invokespecial 1, 3) := by decide +kernel
theorem d1_4 : decode prog_4_method_1_code 4 = .ok (.aload_n 0, 1) := by decide +kernel
theorem d1_5 : decode prog_4_method_1_code 5 = .ok (.aload_n 1, 1) := by decide +kernel
theorem d1_6 : decode prog_4_method_1_code 6 = .ok (.putfield 7, 3) := by decide +kernel
theorem d1_9 : decode prog_4_method_1_code 9 = .ok (.aload_n 0, 1) := by decide +kernel
theorem d1_10 : decode prog_4_method_1_code 10 = .ok (.aload_n 2, 1) := by decide +kernel
theorem d1_11 : decode prog_4_method_1_code 11 = .ok (.putfield 13, 3) := by decide +kernel
theorem d1_14 : decode prog_4_method_1_code 14 = .ok (.aload_n 0, 1) := by decide +kernel
theorem d1_15 : decode prog_4_method_1_code 15 = .ok (.aload_n 3, 1) := by decide +kernel
theorem d1_16 : decode prog_4_method_1_code 16 = .ok (.putfield 17, 3) := by decide +kernel
theorem d1_19 : decode prog_4_method_1_code 19 = .ok (.aload_n 0, 1) := by decide +kernel
theorem d1_20 : decode prog_4_method_1_code 20 = .ok (.dload 4, 2) := by decide +kernel
theorem d1_22 : decode prog_4_method_1_code 22 = .ok (.putfield 20, 3) := by decide +kernel
theorem d1_25 : decode prog_4_method_1_code 25 = .ok (.aload_n 0, 1) := by decide +kernel
theorem d1_26 : decode prog_4_method_1_code 26 = .ok (.dload 6, 2) := by decide +kernel
theorem d1_28 : decode prog_4_method_1_code 28 = .ok (.putfield 24, 3) := by decide +kernel
theorem d1_31 : decode prog_4_method_1_code 31 = .ok (.return_, 1) := by decide +kernel
theorem ef_ci00 (m : MethodId) (a1 : Addr) (ps : Addr) (pz : UInt64) (pp : UInt64) : entryFrame m #[(.ref a1), (.ref ps), .null, .null, (.double pz), (.double pp)] 8 = (mkF m 0 #[.val (.ref a1), .val (.ref ps), .val .null, .val .null, .val (.double pz), .second, .val (.double pp), .second] []) := by first | (simp [entryFrame, mkF, argsToLocals, Value.category]; done) | rfl
def Q_ci00 (Z : State) (a1 : Addr) (ps : Addr) (pz : UInt64) (pp : UInt64) (h0 : Heap) (n0 : Nat) (v : Option Value) (h : Heap) (L : List Loc) : Prop := v = none ∧ Fr n0 L ∧ Keep h0 h [a1] ∧ Exa Z h a1 "com/example/detectability/detectability/ComparedProtein" ∧ Fld Z h a1 "com/example/detectability/detectability/ComparedProtein" "name" "Ljava/lang/String;" (.ref ps) ∧ Fld Z h a1 "com/example/detectability/detectability/ComparedProtein" "inA" "Lcom/example/detectability/detectability/ProteinAbundance;" .null ∧ Fld Z h a1 "com/example/detectability/detectability/ComparedProtein" "inB" "Lcom/example/detectability/detectability/ProteinAbundance;" .null ∧ Fld Z h a1 "com/example/detectability/detectability/ComparedProtein" "z" "D" (.double pz) ∧ Fld Z h a1 "com/example/detectability/detectability/ComparedProtein" "p" "D" (.double pp)
set_option maxRecDepth 65536 in
set_option maxHeartbeats 2000000 in
theorem rm_ci00 (l : Launch) (Z : State) (a0 : Array Value) (hw : ∀ d ∈ tables_1, d.before a0 Z = true) (ws : List Jvm.Cond) (a1 : Addr) (ps : Addr) (pz : UInt64) (pp : UInt64) (h0 : Heap) (n0 : Nat) (Z0 : n0 ≤ h0.size) (E_a1 : Exa Z h0 a1 "com/example/detectability/detectability/ComparedProtein") (F_0 : Fld Z h0 a1 "com/example/detectability/detectability/ComparedProtein" "name" "Ljava/lang/String;" .null) (F_1 : Fld Z h0 a1 "com/example/detectability/detectability/ComparedProtein" "inA" "Lcom/example/detectability/detectability/ProteinAbundance;" .null) (F_2 : Fld Z h0 a1 "com/example/detectability/detectability/ComparedProtein" "inB" "Lcom/example/detectability/detectability/ProteinAbundance;" .null) (F_3 : Fld Z h0 a1 "com/example/detectability/detectability/ComparedProtein" "z" "D" (.double (0 : UInt64))) (F_4 : Fld Z h0 a1 "com/example/detectability/detectability/ComparedProtein" "p" "D" (.double (0 : UInt64))) (g_a1 : n0 ≤ a1) :
    MetFree l (⟨"com/example/detectability/detectability/ComparedProtein", "<init>", "(Ljava/lang/String;Lcom/example/detectability/detectability/ProteinAbundance;Lcom/example/detectability/detectability/ProteinAbundance;DD)V"⟩ : MethodName) (head1 (Jvm.Cond.code (⟨"com/example/detectability/detectability/ComparedProtein", "<init>", "(Ljava/lang/String;Lcom/example/detectability/detectability/ProteinAbundance;Lcom/example/detectability/detectability/ProteinAbundance;DD)V"⟩ : MethodName) prog_4_method_1_code 8 none :: ws) ({ frames := 1, cells := 0, slots := 0, locals := 12 } : Room)) (fun aa UU => aa = #[(.ref a1), (.ref ps), .null, .null, (.double pz), (.double pp)] ∧ Z.Warmed39 UU.vm ∧ UU.heap = h0) (fun _ _ _ _ _ => True) (fun _ UU oo UU' => ∃ v L, oo = .returned v ∧ Q_ci00 Z a1 ps pz pp h0 n0 v UU'.heap L ∧ FrameEnd UU oo UU' L ({ frames := 1, cells := 0, slots := 0, locals := 12 } : Room).cells ({ frames := 1, cells := 0, slots := 0, locals := 12 } : Room).slots) := by
  refine MetFree.of_bodySF (plainFor_of_name pn_com_example_detectability_detectability_ComparedProtein) hisR ?_
  intro p e s m args below meth c s₁ Bd hml0 hP hK
  obtain ⟨rfl, hZ, hh⟩ := hP
  have hx := Bd.exec
  have hby := Bd.bytes
  have hml : c.maxLocals = 8 := hml0
  have hown : s.vm.findClass "com/example/detectability/detectability/ComparedProtein" = some m.cls := findClass_of_methodNamed Bd.named
  have hnaM := (name_of_methodNamed Bd.named Bd.method).1
  have X0 : Stand p l e ({ frames := 1, cells := 0, slots := 0, locals := 12 } : Room) s m #[(.ref a1), (.ref ps), .null, .null, (.double pz), (.double pp)] below meth c s₁ [] 0 0 := Stand.of_body Bd
  have e0 : s₁.heap = h0 := by rw [← hh, Bd.state]; rfl
  have N0 := Fr.nil n0
  have pre0 : ∀ t, Steps p.tables e below (s₁.setTop (entryFrame m #[(.ref a1), (.ref ps), .null, .null, (.double pz), (.double pp)] 8)) t → Steps p.tables e below (s₁.setTop (entryFrame m #[(.ref a1), (.ref ps), .null, .null, (.double pz), (.double pp)] 8)) t := fun t k => k
  have c0 : ∀ t, Steps p.tables e below (s₁.setTop (mkF m 0 #[.val (.ref a1), .val (.ref ps), .val .null, .val .null, .val (.double pz), .second, .val (.double pp), .second] [])) t → Steps p.tables e below (s₁.setTop (entryFrame m #[(.ref a1), (.ref ps), .null, .null, (.double pz), (.double pp)] 8)) t := fun t k => castTop (ef_ci00 m a1 ps pz pp) k
  have K0 := Keep.refl h0 [a1]
  have c1 : ∀ t, Steps p.tables e below (s₁.setTop (mkF m 1 #[.val (.ref a1), .val (.ref ps), .val .null, .val .null, .val (.double pz), .second, .val (.double pp), .second] [(.ref a1)])) t → Steps p.tables e below (s₁.setTop (entryFrame m #[(.ref a1), (.ref ps), .null, .null, (.double pz), (.double pp)] 8)) t := fun t k => c0 t (by
    show Steps p.tables e below (s₁.setTop (mkF m 0 #[.val (.ref a1), .val (.ref ps), .val .null, .val .null, .val (.double pz), .second, .val (.double pp), .second] [])) _
    refine XS.aloadN X0.here hx rfl (hb hby d1_0) rfl rfl ?_
    show Steps p.tables e below (s₁.setTop (mkF m 1 #[.val (.ref a1), .val (.ref ps), .val .null, .val .null, .val (.double pz), .second, .val (.double pp), .second] [(.ref a1)])) _
    exact k)
  obtain ⟨T2, X2, e2, st2⟩ := initO X0 hx hZ hown (hw _ (List.mem_of_getElem? (i := 14) rfl)) (hw _ (List.mem_of_getElem? (i := 15) rfl)) (hw _ (List.mem_of_getElem? (i := 16) rfl)) e0 (g := (mkF m 1 #[.val (.ref a1), .val (.ref ps), .val .null, .val .null, .val (.double pz), .second, .val (.double pp), .second] [(.ref a1)])) rfl (by rw [hml]; rfl) rfl (hb hby d1_1) (by decide) (W := 0) (by show 2 * 0 + _ ≤ _; exact Nat.le_of_eq rfl) (by decide)
  have c3 : ∀ t, Steps p.tables e below (T2.setTop (mkF m 4 #[.val (.ref a1), .val (.ref ps), .val .null, .val .null, .val (.double pz), .second, .val (.double pp), .second] [])) t → Steps p.tables e below (s₁.setTop (entryFrame m #[(.ref a1), (.ref ps), .null, .null, (.double pz), (.double pp)] 8)) t := fun t k => c1 t (st2 _ k)
  have c4 : ∀ t, Steps p.tables e below (T2.setTop (mkF m 6 #[.val (.ref a1), .val (.ref ps), .val .null, .val .null, .val (.double pz), .second, .val (.double pp), .second] [(.ref ps), (.ref a1)])) t → Steps p.tables e below (s₁.setTop (entryFrame m #[(.ref a1), (.ref ps), .null, .null, (.double pz), (.double pp)] 8)) t := fun t k => c3 t (by
    show Steps p.tables e below (T2.setTop (mkF m 4 #[.val (.ref a1), .val (.ref ps), .val .null, .val .null, .val (.double pz), .second, .val (.double pp), .second] [])) _
    refine XS.aloadN X2.here hx rfl (hb hby d1_4) rfl rfl ?_
    show Steps p.tables e below (T2.setTop (mkF m 5 #[.val (.ref a1), .val (.ref ps), .val .null, .val .null, .val (.double pz), .second, .val (.double pp), .second] [(.ref a1)])) _
    refine XS.aloadN X2.here hx rfl (hb hby d1_5) rfl rfl ?_
    show Steps p.tables e below (T2.setTop (mkF m 6 #[.val (.ref a1), .val (.ref ps), .val .null, .val .null, .val (.double pz), .second, .val (.double pp), .second] [(.ref ps), (.ref a1)])) _
    exact k)
  obtain ⟨T5, h5, X5, e5, W5, st5⟩ := putF X2 hx hZ hown (host := "") (Or.inl (hw _ (List.mem_of_getElem? (i := 17) rfl))) Via.refl e2 F_0 E_a1 (Or.inr ⟨(hw _ (List.mem_of_getElem? (i := 18) rfl)), rfl, hnaM⟩) (hw _ (List.mem_of_getElem? (i := 1) rfl)) (ty := (.object "java/lang/String")) (by decide) rfl rfl (g := (mkF m 6 #[.val (.ref a1), .val (.ref ps), .val .null, .val .null, .val (.double pz), .second, .val (.double pp), .second] [(.ref ps), (.ref a1)])) rfl rfl (hb hby d1_6)
  have F6 : Fld Z h5 a1 "com/example/detectability/detectability/ComparedProtein" "name" "Ljava/lang/String;" (.ref ps) := F_0.same W5
  have F7 : Exa Z h5 a1 "com/example/detectability/detectability/ComparedProtein" := (E_a1.wr W5)
  have F8 : Fld Z h5 a1 "com/example/detectability/detectability/ComparedProtein" "inA" "Lcom/example/detectability/detectability/ProteinAbundance;" .null := (F_1.other W5 (Or.inr (slot_ne (Or.inr (hw _ (List.mem_of_getElem? (i := 20) rfl))) (Or.inr (hw _ (List.mem_of_getElem? (i := 18) rfl))) (by decide) (t := (.object "com/example/detectability/detectability/ProteinAbundance")) (t' := (.object "java/lang/String")) (by decide) (by decide))))
  have F9 : Fld Z h5 a1 "com/example/detectability/detectability/ComparedProtein" "inB" "Lcom/example/detectability/detectability/ProteinAbundance;" .null := (F_2.other W5 (Or.inr (slot_ne (Or.inr (hw _ (List.mem_of_getElem? (i := 22) rfl))) (Or.inr (hw _ (List.mem_of_getElem? (i := 18) rfl))) (by decide) (t := (.object "com/example/detectability/detectability/ProteinAbundance")) (t' := (.object "java/lang/String")) (by decide) (by decide))))
  have F10 : Fld Z h5 a1 "com/example/detectability/detectability/ComparedProtein" "z" "D" (.double (0 : UInt64)) := (F_3.other W5 (Or.inr (slot_ne (Or.inr (hw _ (List.mem_of_getElem? (i := 24) rfl))) (Or.inr (hw _ (List.mem_of_getElem? (i := 18) rfl))) (by decide) (t := .double) (t' := (.object "java/lang/String")) (by decide) (by decide))))
  have F11 : Fld Z h5 a1 "com/example/detectability/detectability/ComparedProtein" "p" "D" (.double (0 : UInt64)) := (F_4.other W5 (Or.inr (slot_ne (Or.inr (hw _ (List.mem_of_getElem? (i := 26) rfl))) (Or.inr (hw _ (List.mem_of_getElem? (i := 18) rfl))) (by decide) (t := .double) (t' := (.object "java/lang/String")) (by decide) (by decide))))
  have N5 := Fr.snoc X5 N0 g_a1
  have K12 : Keep h0 h5 [a1] := K0.wr W5 (Or.inl (List.mem_of_getElem? (i := 0) rfl))
  have c13 : ∀ t, Steps p.tables e below (T5.setTop (mkF m 9 #[.val (.ref a1), .val (.ref ps), .val .null, .val .null, .val (.double pz), .second, .val (.double pp), .second] [])) t → Steps p.tables e below (s₁.setTop (entryFrame m #[(.ref a1), (.ref ps), .null, .null, (.double pz), (.double pp)] 8)) t := fun t k => c4 t (st5 _ k)
  have c14 : ∀ t, Steps p.tables e below (T5.setTop (mkF m 11 #[.val (.ref a1), .val (.ref ps), .val .null, .val .null, .val (.double pz), .second, .val (.double pp), .second] [.null, (.ref a1)])) t → Steps p.tables e below (s₁.setTop (entryFrame m #[(.ref a1), (.ref ps), .null, .null, (.double pz), (.double pp)] 8)) t := fun t k => c13 t (by
    show Steps p.tables e below (T5.setTop (mkF m 9 #[.val (.ref a1), .val (.ref ps), .val .null, .val .null, .val (.double pz), .second, .val (.double pp), .second] [])) _
    refine XS.aloadN X5.here hx rfl (hb hby d1_9) rfl rfl ?_
    show Steps p.tables e below (T5.setTop (mkF m 10 #[.val (.ref a1), .val (.ref ps), .val .null, .val .null, .val (.double pz), .second, .val (.double pp), .second] [(.ref a1)])) _
    refine XS.aloadN X5.here hx rfl (hb hby d1_10) rfl rfl ?_
    show Steps p.tables e below (T5.setTop (mkF m 11 #[.val (.ref a1), .val (.ref ps), .val .null, .val .null, .val (.double pz), .second, .val (.double pp), .second] [.null, (.ref a1)])) _
    exact k)
  obtain ⟨T15, h15, X15, e15, W15, st15⟩ := putF X5 hx hZ hown (host := "") (Or.inl (hw _ (List.mem_of_getElem? (i := 19) rfl))) Via.refl e5 F8 F7 (Or.inr ⟨(hw _ (List.mem_of_getElem? (i := 20) rfl)), rfl, hnaM⟩) (hw _ (List.mem_of_getElem? (i := 1) rfl)) (ty := (.object "com/example/detectability/detectability/ProteinAbundance")) (by decide) rfl rfl (g := (mkF m 11 #[.val (.ref a1), .val (.ref ps), .val .null, .val .null, .val (.double pz), .second, .val (.double pp), .second] [.null, (.ref a1)])) rfl rfl (hb hby d1_11)
  have F16 : Fld Z h15 a1 "com/example/detectability/detectability/ComparedProtein" "inA" "Lcom/example/detectability/detectability/ProteinAbundance;" .null := F8.same W15
  have F17 : Exa Z h15 a1 "com/example/detectability/detectability/ComparedProtein" := (F7.wr W15)
  have F18 : Fld Z h15 a1 "com/example/detectability/detectability/ComparedProtein" "name" "Ljava/lang/String;" (.ref ps) := (F6.other W15 (Or.inr (slot_ne (Or.inr (hw _ (List.mem_of_getElem? (i := 18) rfl))) (Or.inr (hw _ (List.mem_of_getElem? (i := 20) rfl))) (by decide) (t := (.object "java/lang/String")) (t' := (.object "com/example/detectability/detectability/ProteinAbundance")) (by decide) (by decide))))
  have F19 : Fld Z h15 a1 "com/example/detectability/detectability/ComparedProtein" "inB" "Lcom/example/detectability/detectability/ProteinAbundance;" .null := (F9.other W15 (Or.inr (slot_ne (Or.inr (hw _ (List.mem_of_getElem? (i := 22) rfl))) (Or.inr (hw _ (List.mem_of_getElem? (i := 20) rfl))) (by decide) (t := (.object "com/example/detectability/detectability/ProteinAbundance")) (t' := (.object "com/example/detectability/detectability/ProteinAbundance")) (by decide) (by decide))))
  have F20 : Fld Z h15 a1 "com/example/detectability/detectability/ComparedProtein" "z" "D" (.double (0 : UInt64)) := (F10.other W15 (Or.inr (slot_ne (Or.inr (hw _ (List.mem_of_getElem? (i := 24) rfl))) (Or.inr (hw _ (List.mem_of_getElem? (i := 20) rfl))) (by decide) (t := .double) (t' := (.object "com/example/detectability/detectability/ProteinAbundance")) (by decide) (by decide))))
  have F21 : Fld Z h15 a1 "com/example/detectability/detectability/ComparedProtein" "p" "D" (.double (0 : UInt64)) := (F11.other W15 (Or.inr (slot_ne (Or.inr (hw _ (List.mem_of_getElem? (i := 26) rfl))) (Or.inr (hw _ (List.mem_of_getElem? (i := 20) rfl))) (by decide) (t := .double) (t' := (.object "com/example/detectability/detectability/ProteinAbundance")) (by decide) (by decide))))
  have N15 := Fr.snoc X15 N5 g_a1
  have K22 : Keep h0 h15 [a1] := K12.wr W15 (Or.inl (List.mem_of_getElem? (i := 0) rfl))
  have c23 : ∀ t, Steps p.tables e below (T15.setTop (mkF m 14 #[.val (.ref a1), .val (.ref ps), .val .null, .val .null, .val (.double pz), .second, .val (.double pp), .second] [])) t → Steps p.tables e below (s₁.setTop (entryFrame m #[(.ref a1), (.ref ps), .null, .null, (.double pz), (.double pp)] 8)) t := fun t k => c14 t (st15 _ k)
  have c24 : ∀ t, Steps p.tables e below (T15.setTop (mkF m 16 #[.val (.ref a1), .val (.ref ps), .val .null, .val .null, .val (.double pz), .second, .val (.double pp), .second] [.null, (.ref a1)])) t → Steps p.tables e below (s₁.setTop (entryFrame m #[(.ref a1), (.ref ps), .null, .null, (.double pz), (.double pp)] 8)) t := fun t k => c23 t (by
    show Steps p.tables e below (T15.setTop (mkF m 14 #[.val (.ref a1), .val (.ref ps), .val .null, .val .null, .val (.double pz), .second, .val (.double pp), .second] [])) _
    refine XS.aloadN X15.here hx rfl (hb hby d1_14) rfl rfl ?_
    show Steps p.tables e below (T15.setTop (mkF m 15 #[.val (.ref a1), .val (.ref ps), .val .null, .val .null, .val (.double pz), .second, .val (.double pp), .second] [(.ref a1)])) _
    refine XS.aloadN X15.here hx rfl (hb hby d1_15) rfl rfl ?_
    show Steps p.tables e below (T15.setTop (mkF m 16 #[.val (.ref a1), .val (.ref ps), .val .null, .val .null, .val (.double pz), .second, .val (.double pp), .second] [.null, (.ref a1)])) _
    exact k)
  obtain ⟨T25, h25, X25, e25, W25, st25⟩ := putF X15 hx hZ hown (host := "") (Or.inl (hw _ (List.mem_of_getElem? (i := 21) rfl))) Via.refl e15 F19 F17 (Or.inr ⟨(hw _ (List.mem_of_getElem? (i := 22) rfl)), rfl, hnaM⟩) (hw _ (List.mem_of_getElem? (i := 1) rfl)) (ty := (.object "com/example/detectability/detectability/ProteinAbundance")) (by decide) rfl rfl (g := (mkF m 16 #[.val (.ref a1), .val (.ref ps), .val .null, .val .null, .val (.double pz), .second, .val (.double pp), .second] [.null, (.ref a1)])) rfl rfl (hb hby d1_16)
  have F26 : Fld Z h25 a1 "com/example/detectability/detectability/ComparedProtein" "inB" "Lcom/example/detectability/detectability/ProteinAbundance;" .null := F19.same W25
  have F27 : Exa Z h25 a1 "com/example/detectability/detectability/ComparedProtein" := (F17.wr W25)
  have F28 : Fld Z h25 a1 "com/example/detectability/detectability/ComparedProtein" "name" "Ljava/lang/String;" (.ref ps) := (F18.other W25 (Or.inr (slot_ne (Or.inr (hw _ (List.mem_of_getElem? (i := 18) rfl))) (Or.inr (hw _ (List.mem_of_getElem? (i := 22) rfl))) (by decide) (t := (.object "java/lang/String")) (t' := (.object "com/example/detectability/detectability/ProteinAbundance")) (by decide) (by decide))))
  have F29 : Fld Z h25 a1 "com/example/detectability/detectability/ComparedProtein" "inA" "Lcom/example/detectability/detectability/ProteinAbundance;" .null := (F16.other W25 (Or.inr (slot_ne (Or.inr (hw _ (List.mem_of_getElem? (i := 20) rfl))) (Or.inr (hw _ (List.mem_of_getElem? (i := 22) rfl))) (by decide) (t := (.object "com/example/detectability/detectability/ProteinAbundance")) (t' := (.object "com/example/detectability/detectability/ProteinAbundance")) (by decide) (by decide))))
  have F30 : Fld Z h25 a1 "com/example/detectability/detectability/ComparedProtein" "z" "D" (.double (0 : UInt64)) := (F20.other W25 (Or.inr (slot_ne (Or.inr (hw _ (List.mem_of_getElem? (i := 24) rfl))) (Or.inr (hw _ (List.mem_of_getElem? (i := 22) rfl))) (by decide) (t := .double) (t' := (.object "com/example/detectability/detectability/ProteinAbundance")) (by decide) (by decide))))
  have F31 : Fld Z h25 a1 "com/example/detectability/detectability/ComparedProtein" "p" "D" (.double (0 : UInt64)) := (F21.other W25 (Or.inr (slot_ne (Or.inr (hw _ (List.mem_of_getElem? (i := 26) rfl))) (Or.inr (hw _ (List.mem_of_getElem? (i := 22) rfl))) (by decide) (t := .double) (t' := (.object "com/example/detectability/detectability/ProteinAbundance")) (by decide) (by decide))))
  have N25 := Fr.snoc X25 N15 g_a1
  have K32 : Keep h0 h25 [a1] := K22.wr W25 (Or.inl (List.mem_of_getElem? (i := 0) rfl))
  have c33 : ∀ t, Steps p.tables e below (T25.setTop (mkF m 19 #[.val (.ref a1), .val (.ref ps), .val .null, .val .null, .val (.double pz), .second, .val (.double pp), .second] [])) t → Steps p.tables e below (s₁.setTop (entryFrame m #[(.ref a1), (.ref ps), .null, .null, (.double pz), (.double pp)] 8)) t := fun t k => c24 t (st25 _ k)
  have c34 : ∀ t, Steps p.tables e below (T25.setTop (mkF m 22 #[.val (.ref a1), .val (.ref ps), .val .null, .val .null, .val (.double pz), .second, .val (.double pp), .second] [(.double pz), (.ref a1)])) t → Steps p.tables e below (s₁.setTop (entryFrame m #[(.ref a1), (.ref ps), .null, .null, (.double pz), (.double pp)] 8)) t := fun t k => c33 t (by
    show Steps p.tables e below (T25.setTop (mkF m 19 #[.val (.ref a1), .val (.ref ps), .val .null, .val .null, .val (.double pz), .second, .val (.double pp), .second] [])) _
    refine XS.aloadN X25.here hx rfl (hb hby d1_19) rfl rfl ?_
    show Steps p.tables e below (T25.setTop (mkF m 20 #[.val (.ref a1), .val (.ref ps), .val .null, .val .null, .val (.double pz), .second, .val (.double pp), .second] [(.ref a1)])) _
    refine XS.dload X25.here hx rfl (hb hby d1_20) rfl ?_
    show Steps p.tables e below (T25.setTop (mkF m 22 #[.val (.ref a1), .val (.ref ps), .val .null, .val .null, .val (.double pz), .second, .val (.double pp), .second] [(.double pz), (.ref a1)])) _
    exact k)
  obtain ⟨T35, h35, X35, e35, W35, st35⟩ := putF X25 hx hZ hown (host := "") (Or.inl (hw _ (List.mem_of_getElem? (i := 23) rfl))) Via.refl e25 F30 F27 (Or.inr ⟨(hw _ (List.mem_of_getElem? (i := 24) rfl)), rfl, hnaM⟩) (hw _ (List.mem_of_getElem? (i := 1) rfl)) (ty := .double) (by decide) rfl rfl (g := (mkF m 22 #[.val (.ref a1), .val (.ref ps), .val .null, .val .null, .val (.double pz), .second, .val (.double pp), .second] [(.double pz), (.ref a1)])) rfl rfl (hb hby d1_22)
  have F36 : Fld Z h35 a1 "com/example/detectability/detectability/ComparedProtein" "z" "D" (.double pz) := F30.same W35
  have F37 : Exa Z h35 a1 "com/example/detectability/detectability/ComparedProtein" := (F27.wr W35)
  have F38 : Fld Z h35 a1 "com/example/detectability/detectability/ComparedProtein" "name" "Ljava/lang/String;" (.ref ps) := (F28.other W35 (Or.inr (slot_ne (Or.inr (hw _ (List.mem_of_getElem? (i := 18) rfl))) (Or.inr (hw _ (List.mem_of_getElem? (i := 24) rfl))) (by decide) (t := (.object "java/lang/String")) (t' := .double) (by decide) (by decide))))
  have F39 : Fld Z h35 a1 "com/example/detectability/detectability/ComparedProtein" "inA" "Lcom/example/detectability/detectability/ProteinAbundance;" .null := (F29.other W35 (Or.inr (slot_ne (Or.inr (hw _ (List.mem_of_getElem? (i := 20) rfl))) (Or.inr (hw _ (List.mem_of_getElem? (i := 24) rfl))) (by decide) (t := (.object "com/example/detectability/detectability/ProteinAbundance")) (t' := .double) (by decide) (by decide))))
  have F40 : Fld Z h35 a1 "com/example/detectability/detectability/ComparedProtein" "inB" "Lcom/example/detectability/detectability/ProteinAbundance;" .null := (F26.other W35 (Or.inr (slot_ne (Or.inr (hw _ (List.mem_of_getElem? (i := 22) rfl))) (Or.inr (hw _ (List.mem_of_getElem? (i := 24) rfl))) (by decide) (t := (.object "com/example/detectability/detectability/ProteinAbundance")) (t' := .double) (by decide) (by decide))))
  have F41 : Fld Z h35 a1 "com/example/detectability/detectability/ComparedProtein" "p" "D" (.double (0 : UInt64)) := (F31.other W35 (Or.inr (slot_ne (Or.inr (hw _ (List.mem_of_getElem? (i := 26) rfl))) (Or.inr (hw _ (List.mem_of_getElem? (i := 24) rfl))) (by decide) (t := .double) (t' := .double) (by decide) (by decide))))
  have N35 := Fr.snoc X35 N25 g_a1
  have K42 : Keep h0 h35 [a1] := K32.wr W35 (Or.inl (List.mem_of_getElem? (i := 0) rfl))
  have c43 : ∀ t, Steps p.tables e below (T35.setTop (mkF m 25 #[.val (.ref a1), .val (.ref ps), .val .null, .val .null, .val (.double pz), .second, .val (.double pp), .second] [])) t → Steps p.tables e below (s₁.setTop (entryFrame m #[(.ref a1), (.ref ps), .null, .null, (.double pz), (.double pp)] 8)) t := fun t k => c34 t (st35 _ k)
  have c44 : ∀ t, Steps p.tables e below (T35.setTop (mkF m 28 #[.val (.ref a1), .val (.ref ps), .val .null, .val .null, .val (.double pz), .second, .val (.double pp), .second] [(.double pp), (.ref a1)])) t → Steps p.tables e below (s₁.setTop (entryFrame m #[(.ref a1), (.ref ps), .null, .null, (.double pz), (.double pp)] 8)) t := fun t k => c43 t (by
    show Steps p.tables e below (T35.setTop (mkF m 25 #[.val (.ref a1), .val (.ref ps), .val .null, .val .null, .val (.double pz), .second, .val (.double pp), .second] [])) _
    refine XS.aloadN X35.here hx rfl (hb hby d1_25) rfl rfl ?_
    show Steps p.tables e below (T35.setTop (mkF m 26 #[.val (.ref a1), .val (.ref ps), .val .null, .val .null, .val (.double pz), .second, .val (.double pp), .second] [(.ref a1)])) _
    refine XS.dload X35.here hx rfl (hb hby d1_26) rfl ?_
    show Steps p.tables e below (T35.setTop (mkF m 28 #[.val (.ref a1), .val (.ref ps), .val .null, .val .null, .val (.double pz), .second, .val (.double pp), .second] [(.double pp), (.ref a1)])) _
    exact k)
  obtain ⟨T45, h45, X45, e45, W45, st45⟩ := putF X35 hx hZ hown (host := "") (Or.inl (hw _ (List.mem_of_getElem? (i := 25) rfl))) Via.refl e35 F41 F37 (Or.inr ⟨(hw _ (List.mem_of_getElem? (i := 26) rfl)), rfl, hnaM⟩) (hw _ (List.mem_of_getElem? (i := 1) rfl)) (ty := .double) (by decide) rfl rfl (g := (mkF m 28 #[.val (.ref a1), .val (.ref ps), .val .null, .val .null, .val (.double pz), .second, .val (.double pp), .second] [(.double pp), (.ref a1)])) rfl rfl (hb hby d1_28)
  have F46 : Fld Z h45 a1 "com/example/detectability/detectability/ComparedProtein" "p" "D" (.double pp) := F41.same W45
  have F47 : Exa Z h45 a1 "com/example/detectability/detectability/ComparedProtein" := (F37.wr W45)
  have F48 : Fld Z h45 a1 "com/example/detectability/detectability/ComparedProtein" "name" "Ljava/lang/String;" (.ref ps) := (F38.other W45 (Or.inr (slot_ne (Or.inr (hw _ (List.mem_of_getElem? (i := 18) rfl))) (Or.inr (hw _ (List.mem_of_getElem? (i := 26) rfl))) (by decide) (t := (.object "java/lang/String")) (t' := .double) (by decide) (by decide))))
  have F49 : Fld Z h45 a1 "com/example/detectability/detectability/ComparedProtein" "inA" "Lcom/example/detectability/detectability/ProteinAbundance;" .null := (F39.other W45 (Or.inr (slot_ne (Or.inr (hw _ (List.mem_of_getElem? (i := 20) rfl))) (Or.inr (hw _ (List.mem_of_getElem? (i := 26) rfl))) (by decide) (t := (.object "com/example/detectability/detectability/ProteinAbundance")) (t' := .double) (by decide) (by decide))))
  have F50 : Fld Z h45 a1 "com/example/detectability/detectability/ComparedProtein" "inB" "Lcom/example/detectability/detectability/ProteinAbundance;" .null := (F40.other W45 (Or.inr (slot_ne (Or.inr (hw _ (List.mem_of_getElem? (i := 22) rfl))) (Or.inr (hw _ (List.mem_of_getElem? (i := 26) rfl))) (by decide) (t := (.object "com/example/detectability/detectability/ProteinAbundance")) (t' := .double) (by decide) (by decide))))
  have F51 : Fld Z h45 a1 "com/example/detectability/detectability/ComparedProtein" "z" "D" (.double pz) := (F36.other W45 (Or.inr (slot_ne (Or.inr (hw _ (List.mem_of_getElem? (i := 24) rfl))) (Or.inr (hw _ (List.mem_of_getElem? (i := 26) rfl))) (by decide) (t := .double) (t' := .double) (by decide) (by decide))))
  have N45 := Fr.snoc X45 N35 g_a1
  have K52 : Keep h0 h45 [a1] := K42.wr W45 (Or.inl (List.mem_of_getElem? (i := 0) rfl))
  have c53 : ∀ t, Steps p.tables e below (T45.setTop (mkF m 31 #[.val (.ref a1), .val (.ref ps), .val .null, .val .null, .val (.double pz), .second, .val (.double pp), .second] [])) t → Steps p.tables e below (s₁.setTop (entryFrame m #[(.ref a1), (.ref ps), .null, .null, (.double pz), (.double pp)] 8)) t := fun t k => c44 t (st45 _ k)
  obtain ⟨fs, hr, hrun, hended, hW, hsame⟩ := X45.leave (v := none) (fun _ => rfl)
  refine ⟨_, _, pre0 _ (c53 _ (X45.returnOut hx Bd.returns (hb hby d1_31) hr)), hrun, hended, _, _, rfl, ?_, ⟨_, rfl⟩, hW, hsame.mono (by decide) (by decide)⟩
  show Q_ci00 Z a1 ps pz pp h0 n0 _ T45.heap _
  rw [e45]
  exact ⟨rfl, N45, K52, F47, F48, F49, F50, F51, F46⟩
theorem ef_ci01 (m : MethodId) (a1 : Addr) (ps : Addr) (pb : Addr) (pz : UInt64) (pp : UInt64) : entryFrame m #[(.ref a1), (.ref ps), .null, (.ref pb), (.double pz), (.double pp)] 8 = (mkF m 0 #[.val (.ref a1), .val (.ref ps), .val .null, .val (.ref pb), .val (.double pz), .second, .val (.double pp), .second] []) := by first | (simp [entryFrame, mkF, argsToLocals, Value.category]; done) | rfl
def Q_ci01 (Z : State) (a1 : Addr) (ps : Addr) (pb : Addr) (pz : UInt64) (pp : UInt64) (h0 : Heap) (n0 : Nat) (v : Option Value) (h : Heap) (L : List Loc) : Prop := v = none ∧ Fr n0 L ∧ Keep h0 h [a1] ∧ Exa Z h a1 "com/example/detectability/detectability/ComparedProtein" ∧ Fld Z h a1 "com/example/detectability/detectability/ComparedProtein" "name" "Ljava/lang/String;" (.ref ps) ∧ Fld Z h a1 "com/example/detectability/detectability/ComparedProtein" "inA" "Lcom/example/detectability/detectability/ProteinAbundance;" .null ∧ Fld Z h a1 "com/example/detectability/detectability/ComparedProtein" "inB" "Lcom/example/detectability/detectability/ProteinAbundance;" (.ref pb) ∧ Fld Z h a1 "com/example/detectability/detectability/ComparedProtein" "z" "D" (.double pz) ∧ Fld Z h a1 "com/example/detectability/detectability/ComparedProtein" "p" "D" (.double pp)
set_option maxRecDepth 65536 in
set_option maxHeartbeats 2000000 in
theorem rm_ci01 (l : Launch) (Z : State) (a0 : Array Value) (hw : ∀ d ∈ tables_1, d.before a0 Z = true) (ws : List Jvm.Cond) (a1 : Addr) (ps : Addr) (pb : Addr) (pz : UInt64) (pp : UInt64) (h0 : Heap) (n0 : Nat) (Z0 : n0 ≤ h0.size) (E_a1 : Exa Z h0 a1 "com/example/detectability/detectability/ComparedProtein") (F_0 : Fld Z h0 a1 "com/example/detectability/detectability/ComparedProtein" "name" "Ljava/lang/String;" .null) (F_1 : Fld Z h0 a1 "com/example/detectability/detectability/ComparedProtein" "inA" "Lcom/example/detectability/detectability/ProteinAbundance;" .null) (F_2 : Fld Z h0 a1 "com/example/detectability/detectability/ComparedProtein" "inB" "Lcom/example/detectability/detectability/ProteinAbundance;" .null) (F_3 : Fld Z h0 a1 "com/example/detectability/detectability/ComparedProtein" "z" "D" (.double (0 : UInt64))) (F_4 : Fld Z h0 a1 "com/example/detectability/detectability/ComparedProtein" "p" "D" (.double (0 : UInt64))) (g_a1 : n0 ≤ a1) :
    MetFree l (⟨"com/example/detectability/detectability/ComparedProtein", "<init>", "(Ljava/lang/String;Lcom/example/detectability/detectability/ProteinAbundance;Lcom/example/detectability/detectability/ProteinAbundance;DD)V"⟩ : MethodName) (head1 (Jvm.Cond.code (⟨"com/example/detectability/detectability/ComparedProtein", "<init>", "(Ljava/lang/String;Lcom/example/detectability/detectability/ProteinAbundance;Lcom/example/detectability/detectability/ProteinAbundance;DD)V"⟩ : MethodName) prog_4_method_1_code 8 none :: ws) ({ frames := 1, cells := 0, slots := 0, locals := 12 } : Room)) (fun aa UU => aa = #[(.ref a1), (.ref ps), .null, (.ref pb), (.double pz), (.double pp)] ∧ Z.Warmed39 UU.vm ∧ UU.heap = h0) (fun _ _ _ _ _ => True) (fun _ UU oo UU' => ∃ v L, oo = .returned v ∧ Q_ci01 Z a1 ps pb pz pp h0 n0 v UU'.heap L ∧ FrameEnd UU oo UU' L ({ frames := 1, cells := 0, slots := 0, locals := 12 } : Room).cells ({ frames := 1, cells := 0, slots := 0, locals := 12 } : Room).slots) := by
  refine MetFree.of_bodySF (plainFor_of_name pn_com_example_detectability_detectability_ComparedProtein) hisR ?_
  intro p e s m args below meth c s₁ Bd hml0 hP hK
  obtain ⟨rfl, hZ, hh⟩ := hP
  have hx := Bd.exec
  have hby := Bd.bytes
  have hml : c.maxLocals = 8 := hml0
  have hown : s.vm.findClass "com/example/detectability/detectability/ComparedProtein" = some m.cls := findClass_of_methodNamed Bd.named
  have hnaM := (name_of_methodNamed Bd.named Bd.method).1
  have X0 : Stand p l e ({ frames := 1, cells := 0, slots := 0, locals := 12 } : Room) s m #[(.ref a1), (.ref ps), .null, (.ref pb), (.double pz), (.double pp)] below meth c s₁ [] 0 0 := Stand.of_body Bd
  have e0 : s₁.heap = h0 := by rw [← hh, Bd.state]; rfl
  have N0 := Fr.nil n0
  have pre0 : ∀ t, Steps p.tables e below (s₁.setTop (entryFrame m #[(.ref a1), (.ref ps), .null, (.ref pb), (.double pz), (.double pp)] 8)) t → Steps p.tables e below (s₁.setTop (entryFrame m #[(.ref a1), (.ref ps), .null, (.ref pb), (.double pz), (.double pp)] 8)) t := fun t k => k
  have c0 : ∀ t, Steps p.tables e below (s₁.setTop (mkF m 0 #[.val (.ref a1), .val (.ref ps), .val .null, .val (.ref pb), .val (.double pz), .second, .val (.double pp), .second] [])) t → Steps p.tables e below (s₁.setTop (entryFrame m #[(.ref a1), (.ref ps), .null, (.ref pb), (.double pz), (.double pp)] 8)) t := fun t k => castTop (ef_ci01 m a1 ps pb pz pp) k
  have K0 := Keep.refl h0 [a1]
  have c1 : ∀ t, Steps p.tables e below (s₁.setTop (mkF m 1 #[.val (.ref a1), .val (.ref ps), .val .null, .val (.ref pb), .val (.double pz), .second, .val (.double pp), .second] [(.ref a1)])) t → Steps p.tables e below (s₁.setTop (entryFrame m #[(.ref a1), (.ref ps), .null, (.ref pb), (.double pz), (.double pp)] 8)) t := fun t k => c0 t (by
    show Steps p.tables e below (s₁.setTop (mkF m 0 #[.val (.ref a1), .val (.ref ps), .val .null, .val (.ref pb), .val (.double pz), .second, .val (.double pp), .second] [])) _
    refine XS.aloadN X0.here hx rfl (hb hby d1_0) rfl rfl ?_
    show Steps p.tables e below (s₁.setTop (mkF m 1 #[.val (.ref a1), .val (.ref ps), .val .null, .val (.ref pb), .val (.double pz), .second, .val (.double pp), .second] [(.ref a1)])) _
    exact k)
  obtain ⟨T2, X2, e2, st2⟩ := initO X0 hx hZ hown (hw _ (List.mem_of_getElem? (i := 14) rfl)) (hw _ (List.mem_of_getElem? (i := 15) rfl)) (hw _ (List.mem_of_getElem? (i := 16) rfl)) e0 (g := (mkF m 1 #[.val (.ref a1), .val (.ref ps), .val .null, .val (.ref pb), .val (.double pz), .second, .val (.double pp), .second] [(.ref a1)])) rfl (by rw [hml]; rfl) rfl (hb hby d1_1) (by decide) (W := 0) (by show 2 * 0 + _ ≤ _; exact Nat.le_of_eq rfl) (by decide)
  have c3 : ∀ t, Steps p.tables e below (T2.setTop (mkF m 4 #[.val (.ref a1), .val (.ref ps), .val .null, .val (.ref pb), .val (.double pz), .second, .val (.double pp), .second] [])) t → Steps p.tables e below (s₁.setTop (entryFrame m #[(.ref a1), (.ref ps), .null, (.ref pb), (.double pz), (.double pp)] 8)) t := fun t k => c1 t (st2 _ k)
  have c4 : ∀ t, Steps p.tables e below (T2.setTop (mkF m 6 #[.val (.ref a1), .val (.ref ps), .val .null, .val (.ref pb), .val (.double pz), .second, .val (.double pp), .second] [(.ref ps), (.ref a1)])) t → Steps p.tables e below (s₁.setTop (entryFrame m #[(.ref a1), (.ref ps), .null, (.ref pb), (.double pz), (.double pp)] 8)) t := fun t k => c3 t (by
    show Steps p.tables e below (T2.setTop (mkF m 4 #[.val (.ref a1), .val (.ref ps), .val .null, .val (.ref pb), .val (.double pz), .second, .val (.double pp), .second] [])) _
    refine XS.aloadN X2.here hx rfl (hb hby d1_4) rfl rfl ?_
    show Steps p.tables e below (T2.setTop (mkF m 5 #[.val (.ref a1), .val (.ref ps), .val .null, .val (.ref pb), .val (.double pz), .second, .val (.double pp), .second] [(.ref a1)])) _
    refine XS.aloadN X2.here hx rfl (hb hby d1_5) rfl rfl ?_
    show Steps p.tables e below (T2.setTop (mkF m 6 #[.val (.ref a1), .val (.ref ps), .val .null, .val (.ref pb), .val (.double pz), .second, .val (.double pp), .second] [(.ref ps), (.ref a1)])) _
    exact k)
  obtain ⟨T5, h5, X5, e5, W5, st5⟩ := putF X2 hx hZ hown (host := "") (Or.inl (hw _ (List.mem_of_getElem? (i := 17) rfl))) Via.refl e2 F_0 E_a1 (Or.inr ⟨(hw _ (List.mem_of_getElem? (i := 18) rfl)), rfl, hnaM⟩) (hw _ (List.mem_of_getElem? (i := 1) rfl)) (ty := (.object "java/lang/String")) (by decide) rfl rfl (g := (mkF m 6 #[.val (.ref a1), .val (.ref ps), .val .null, .val (.ref pb), .val (.double pz), .second, .val (.double pp), .second] [(.ref ps), (.ref a1)])) rfl rfl (hb hby d1_6)
  have F6 : Fld Z h5 a1 "com/example/detectability/detectability/ComparedProtein" "name" "Ljava/lang/String;" (.ref ps) := F_0.same W5
  have F7 : Exa Z h5 a1 "com/example/detectability/detectability/ComparedProtein" := (E_a1.wr W5)
  have F8 : Fld Z h5 a1 "com/example/detectability/detectability/ComparedProtein" "inA" "Lcom/example/detectability/detectability/ProteinAbundance;" .null := (F_1.other W5 (Or.inr (slot_ne (Or.inr (hw _ (List.mem_of_getElem? (i := 20) rfl))) (Or.inr (hw _ (List.mem_of_getElem? (i := 18) rfl))) (by decide) (t := (.object "com/example/detectability/detectability/ProteinAbundance")) (t' := (.object "java/lang/String")) (by decide) (by decide))))
  have F9 : Fld Z h5 a1 "com/example/detectability/detectability/ComparedProtein" "inB" "Lcom/example/detectability/detectability/ProteinAbundance;" .null := (F_2.other W5 (Or.inr (slot_ne (Or.inr (hw _ (List.mem_of_getElem? (i := 22) rfl))) (Or.inr (hw _ (List.mem_of_getElem? (i := 18) rfl))) (by decide) (t := (.object "com/example/detectability/detectability/ProteinAbundance")) (t' := (.object "java/lang/String")) (by decide) (by decide))))
  have F10 : Fld Z h5 a1 "com/example/detectability/detectability/ComparedProtein" "z" "D" (.double (0 : UInt64)) := (F_3.other W5 (Or.inr (slot_ne (Or.inr (hw _ (List.mem_of_getElem? (i := 24) rfl))) (Or.inr (hw _ (List.mem_of_getElem? (i := 18) rfl))) (by decide) (t := .double) (t' := (.object "java/lang/String")) (by decide) (by decide))))
  have F11 : Fld Z h5 a1 "com/example/detectability/detectability/ComparedProtein" "p" "D" (.double (0 : UInt64)) := (F_4.other W5 (Or.inr (slot_ne (Or.inr (hw _ (List.mem_of_getElem? (i := 26) rfl))) (Or.inr (hw _ (List.mem_of_getElem? (i := 18) rfl))) (by decide) (t := .double) (t' := (.object "java/lang/String")) (by decide) (by decide))))
  have N5 := Fr.snoc X5 N0 g_a1
  have K12 : Keep h0 h5 [a1] := K0.wr W5 (Or.inl (List.mem_of_getElem? (i := 0) rfl))
  have c13 : ∀ t, Steps p.tables e below (T5.setTop (mkF m 9 #[.val (.ref a1), .val (.ref ps), .val .null, .val (.ref pb), .val (.double pz), .second, .val (.double pp), .second] [])) t → Steps p.tables e below (s₁.setTop (entryFrame m #[(.ref a1), (.ref ps), .null, (.ref pb), (.double pz), (.double pp)] 8)) t := fun t k => c4 t (st5 _ k)
  have c14 : ∀ t, Steps p.tables e below (T5.setTop (mkF m 11 #[.val (.ref a1), .val (.ref ps), .val .null, .val (.ref pb), .val (.double pz), .second, .val (.double pp), .second] [.null, (.ref a1)])) t → Steps p.tables e below (s₁.setTop (entryFrame m #[(.ref a1), (.ref ps), .null, (.ref pb), (.double pz), (.double pp)] 8)) t := fun t k => c13 t (by
    show Steps p.tables e below (T5.setTop (mkF m 9 #[.val (.ref a1), .val (.ref ps), .val .null, .val (.ref pb), .val (.double pz), .second, .val (.double pp), .second] [])) _
    refine XS.aloadN X5.here hx rfl (hb hby d1_9) rfl rfl ?_
    show Steps p.tables e below (T5.setTop (mkF m 10 #[.val (.ref a1), .val (.ref ps), .val .null, .val (.ref pb), .val (.double pz), .second, .val (.double pp), .second] [(.ref a1)])) _
    refine XS.aloadN X5.here hx rfl (hb hby d1_10) rfl rfl ?_
    show Steps p.tables e below (T5.setTop (mkF m 11 #[.val (.ref a1), .val (.ref ps), .val .null, .val (.ref pb), .val (.double pz), .second, .val (.double pp), .second] [.null, (.ref a1)])) _
    exact k)
  obtain ⟨T15, h15, X15, e15, W15, st15⟩ := putF X5 hx hZ hown (host := "") (Or.inl (hw _ (List.mem_of_getElem? (i := 19) rfl))) Via.refl e5 F8 F7 (Or.inr ⟨(hw _ (List.mem_of_getElem? (i := 20) rfl)), rfl, hnaM⟩) (hw _ (List.mem_of_getElem? (i := 1) rfl)) (ty := (.object "com/example/detectability/detectability/ProteinAbundance")) (by decide) rfl rfl (g := (mkF m 11 #[.val (.ref a1), .val (.ref ps), .val .null, .val (.ref pb), .val (.double pz), .second, .val (.double pp), .second] [.null, (.ref a1)])) rfl rfl (hb hby d1_11)
  have F16 : Fld Z h15 a1 "com/example/detectability/detectability/ComparedProtein" "inA" "Lcom/example/detectability/detectability/ProteinAbundance;" .null := F8.same W15
  have F17 : Exa Z h15 a1 "com/example/detectability/detectability/ComparedProtein" := (F7.wr W15)
  have F18 : Fld Z h15 a1 "com/example/detectability/detectability/ComparedProtein" "name" "Ljava/lang/String;" (.ref ps) := (F6.other W15 (Or.inr (slot_ne (Or.inr (hw _ (List.mem_of_getElem? (i := 18) rfl))) (Or.inr (hw _ (List.mem_of_getElem? (i := 20) rfl))) (by decide) (t := (.object "java/lang/String")) (t' := (.object "com/example/detectability/detectability/ProteinAbundance")) (by decide) (by decide))))
  have F19 : Fld Z h15 a1 "com/example/detectability/detectability/ComparedProtein" "inB" "Lcom/example/detectability/detectability/ProteinAbundance;" .null := (F9.other W15 (Or.inr (slot_ne (Or.inr (hw _ (List.mem_of_getElem? (i := 22) rfl))) (Or.inr (hw _ (List.mem_of_getElem? (i := 20) rfl))) (by decide) (t := (.object "com/example/detectability/detectability/ProteinAbundance")) (t' := (.object "com/example/detectability/detectability/ProteinAbundance")) (by decide) (by decide))))
  have F20 : Fld Z h15 a1 "com/example/detectability/detectability/ComparedProtein" "z" "D" (.double (0 : UInt64)) := (F10.other W15 (Or.inr (slot_ne (Or.inr (hw _ (List.mem_of_getElem? (i := 24) rfl))) (Or.inr (hw _ (List.mem_of_getElem? (i := 20) rfl))) (by decide) (t := .double) (t' := (.object "com/example/detectability/detectability/ProteinAbundance")) (by decide) (by decide))))
  have F21 : Fld Z h15 a1 "com/example/detectability/detectability/ComparedProtein" "p" "D" (.double (0 : UInt64)) := (F11.other W15 (Or.inr (slot_ne (Or.inr (hw _ (List.mem_of_getElem? (i := 26) rfl))) (Or.inr (hw _ (List.mem_of_getElem? (i := 20) rfl))) (by decide) (t := .double) (t' := (.object "com/example/detectability/detectability/ProteinAbundance")) (by decide) (by decide))))
  have N15 := Fr.snoc X15 N5 g_a1
  have K22 : Keep h0 h15 [a1] := K12.wr W15 (Or.inl (List.mem_of_getElem? (i := 0) rfl))
  have c23 : ∀ t, Steps p.tables e below (T15.setTop (mkF m 14 #[.val (.ref a1), .val (.ref ps), .val .null, .val (.ref pb), .val (.double pz), .second, .val (.double pp), .second] [])) t → Steps p.tables e below (s₁.setTop (entryFrame m #[(.ref a1), (.ref ps), .null, (.ref pb), (.double pz), (.double pp)] 8)) t := fun t k => c14 t (st15 _ k)
  have c24 : ∀ t, Steps p.tables e below (T15.setTop (mkF m 16 #[.val (.ref a1), .val (.ref ps), .val .null, .val (.ref pb), .val (.double pz), .second, .val (.double pp), .second] [(.ref pb), (.ref a1)])) t → Steps p.tables e below (s₁.setTop (entryFrame m #[(.ref a1), (.ref ps), .null, (.ref pb), (.double pz), (.double pp)] 8)) t := fun t k => c23 t (by
    show Steps p.tables e below (T15.setTop (mkF m 14 #[.val (.ref a1), .val (.ref ps), .val .null, .val (.ref pb), .val (.double pz), .second, .val (.double pp), .second] [])) _
    refine XS.aloadN X15.here hx rfl (hb hby d1_14) rfl rfl ?_
    show Steps p.tables e below (T15.setTop (mkF m 15 #[.val (.ref a1), .val (.ref ps), .val .null, .val (.ref pb), .val (.double pz), .second, .val (.double pp), .second] [(.ref a1)])) _
    refine XS.aloadN X15.here hx rfl (hb hby d1_15) rfl rfl ?_
    show Steps p.tables e below (T15.setTop (mkF m 16 #[.val (.ref a1), .val (.ref ps), .val .null, .val (.ref pb), .val (.double pz), .second, .val (.double pp), .second] [(.ref pb), (.ref a1)])) _
    exact k)
  obtain ⟨T25, h25, X25, e25, W25, st25⟩ := putF X15 hx hZ hown (host := "") (Or.inl (hw _ (List.mem_of_getElem? (i := 21) rfl))) Via.refl e15 F19 F17 (Or.inr ⟨(hw _ (List.mem_of_getElem? (i := 22) rfl)), rfl, hnaM⟩) (hw _ (List.mem_of_getElem? (i := 1) rfl)) (ty := (.object "com/example/detectability/detectability/ProteinAbundance")) (by decide) rfl rfl (g := (mkF m 16 #[.val (.ref a1), .val (.ref ps), .val .null, .val (.ref pb), .val (.double pz), .second, .val (.double pp), .second] [(.ref pb), (.ref a1)])) rfl rfl (hb hby d1_16)
  have F26 : Fld Z h25 a1 "com/example/detectability/detectability/ComparedProtein" "inB" "Lcom/example/detectability/detectability/ProteinAbundance;" (.ref pb) := F19.same W25
  have F27 : Exa Z h25 a1 "com/example/detectability/detectability/ComparedProtein" := (F17.wr W25)
  have F28 : Fld Z h25 a1 "com/example/detectability/detectability/ComparedProtein" "name" "Ljava/lang/String;" (.ref ps) := (F18.other W25 (Or.inr (slot_ne (Or.inr (hw _ (List.mem_of_getElem? (i := 18) rfl))) (Or.inr (hw _ (List.mem_of_getElem? (i := 22) rfl))) (by decide) (t := (.object "java/lang/String")) (t' := (.object "com/example/detectability/detectability/ProteinAbundance")) (by decide) (by decide))))
  have F29 : Fld Z h25 a1 "com/example/detectability/detectability/ComparedProtein" "inA" "Lcom/example/detectability/detectability/ProteinAbundance;" .null := (F16.other W25 (Or.inr (slot_ne (Or.inr (hw _ (List.mem_of_getElem? (i := 20) rfl))) (Or.inr (hw _ (List.mem_of_getElem? (i := 22) rfl))) (by decide) (t := (.object "com/example/detectability/detectability/ProteinAbundance")) (t' := (.object "com/example/detectability/detectability/ProteinAbundance")) (by decide) (by decide))))
  have F30 : Fld Z h25 a1 "com/example/detectability/detectability/ComparedProtein" "z" "D" (.double (0 : UInt64)) := (F20.other W25 (Or.inr (slot_ne (Or.inr (hw _ (List.mem_of_getElem? (i := 24) rfl))) (Or.inr (hw _ (List.mem_of_getElem? (i := 22) rfl))) (by decide) (t := .double) (t' := (.object "com/example/detectability/detectability/ProteinAbundance")) (by decide) (by decide))))
  have F31 : Fld Z h25 a1 "com/example/detectability/detectability/ComparedProtein" "p" "D" (.double (0 : UInt64)) := (F21.other W25 (Or.inr (slot_ne (Or.inr (hw _ (List.mem_of_getElem? (i := 26) rfl))) (Or.inr (hw _ (List.mem_of_getElem? (i := 22) rfl))) (by decide) (t := .double) (t' := (.object "com/example/detectability/detectability/ProteinAbundance")) (by decide) (by decide))))
  have N25 := Fr.snoc X25 N15 g_a1
  have K32 : Keep h0 h25 [a1] := K22.wr W25 (Or.inl (List.mem_of_getElem? (i := 0) rfl))
  have c33 : ∀ t, Steps p.tables e below (T25.setTop (mkF m 19 #[.val (.ref a1), .val (.ref ps), .val .null, .val (.ref pb), .val (.double pz), .second, .val (.double pp), .second] [])) t → Steps p.tables e below (s₁.setTop (entryFrame m #[(.ref a1), (.ref ps), .null, (.ref pb), (.double pz), (.double pp)] 8)) t := fun t k => c24 t (st25 _ k)
  have c34 : ∀ t, Steps p.tables e below (T25.setTop (mkF m 22 #[.val (.ref a1), .val (.ref ps), .val .null, .val (.ref pb), .val (.double pz), .second, .val (.double pp), .second] [(.double pz), (.ref a1)])) t → Steps p.tables e below (s₁.setTop (entryFrame m #[(.ref a1), (.ref ps), .null, (.ref pb), (.double pz), (.double pp)] 8)) t := fun t k => c33 t (by
    show Steps p.tables e below (T25.setTop (mkF m 19 #[.val (.ref a1), .val (.ref ps), .val .null, .val (.ref pb), .val (.double pz), .second, .val (.double pp), .second] [])) _
    refine XS.aloadN X25.here hx rfl (hb hby d1_19) rfl rfl ?_
    show Steps p.tables e below (T25.setTop (mkF m 20 #[.val (.ref a1), .val (.ref ps), .val .null, .val (.ref pb), .val (.double pz), .second, .val (.double pp), .second] [(.ref a1)])) _
    refine XS.dload X25.here hx rfl (hb hby d1_20) rfl ?_
    show Steps p.tables e below (T25.setTop (mkF m 22 #[.val (.ref a1), .val (.ref ps), .val .null, .val (.ref pb), .val (.double pz), .second, .val (.double pp), .second] [(.double pz), (.ref a1)])) _
    exact k)
  obtain ⟨T35, h35, X35, e35, W35, st35⟩ := putF X25 hx hZ hown (host := "") (Or.inl (hw _ (List.mem_of_getElem? (i := 23) rfl))) Via.refl e25 F30 F27 (Or.inr ⟨(hw _ (List.mem_of_getElem? (i := 24) rfl)), rfl, hnaM⟩) (hw _ (List.mem_of_getElem? (i := 1) rfl)) (ty := .double) (by decide) rfl rfl (g := (mkF m 22 #[.val (.ref a1), .val (.ref ps), .val .null, .val (.ref pb), .val (.double pz), .second, .val (.double pp), .second] [(.double pz), (.ref a1)])) rfl rfl (hb hby d1_22)
  have F36 : Fld Z h35 a1 "com/example/detectability/detectability/ComparedProtein" "z" "D" (.double pz) := F30.same W35
  have F37 : Exa Z h35 a1 "com/example/detectability/detectability/ComparedProtein" := (F27.wr W35)
  have F38 : Fld Z h35 a1 "com/example/detectability/detectability/ComparedProtein" "name" "Ljava/lang/String;" (.ref ps) := (F28.other W35 (Or.inr (slot_ne (Or.inr (hw _ (List.mem_of_getElem? (i := 18) rfl))) (Or.inr (hw _ (List.mem_of_getElem? (i := 24) rfl))) (by decide) (t := (.object "java/lang/String")) (t' := .double) (by decide) (by decide))))
  have F39 : Fld Z h35 a1 "com/example/detectability/detectability/ComparedProtein" "inA" "Lcom/example/detectability/detectability/ProteinAbundance;" .null := (F29.other W35 (Or.inr (slot_ne (Or.inr (hw _ (List.mem_of_getElem? (i := 20) rfl))) (Or.inr (hw _ (List.mem_of_getElem? (i := 24) rfl))) (by decide) (t := (.object "com/example/detectability/detectability/ProteinAbundance")) (t' := .double) (by decide) (by decide))))
  have F40 : Fld Z h35 a1 "com/example/detectability/detectability/ComparedProtein" "inB" "Lcom/example/detectability/detectability/ProteinAbundance;" (.ref pb) := (F26.other W35 (Or.inr (slot_ne (Or.inr (hw _ (List.mem_of_getElem? (i := 22) rfl))) (Or.inr (hw _ (List.mem_of_getElem? (i := 24) rfl))) (by decide) (t := (.object "com/example/detectability/detectability/ProteinAbundance")) (t' := .double) (by decide) (by decide))))
  have F41 : Fld Z h35 a1 "com/example/detectability/detectability/ComparedProtein" "p" "D" (.double (0 : UInt64)) := (F31.other W35 (Or.inr (slot_ne (Or.inr (hw _ (List.mem_of_getElem? (i := 26) rfl))) (Or.inr (hw _ (List.mem_of_getElem? (i := 24) rfl))) (by decide) (t := .double) (t' := .double) (by decide) (by decide))))
  have N35 := Fr.snoc X35 N25 g_a1
  have K42 : Keep h0 h35 [a1] := K32.wr W35 (Or.inl (List.mem_of_getElem? (i := 0) rfl))
  have c43 : ∀ t, Steps p.tables e below (T35.setTop (mkF m 25 #[.val (.ref a1), .val (.ref ps), .val .null, .val (.ref pb), .val (.double pz), .second, .val (.double pp), .second] [])) t → Steps p.tables e below (s₁.setTop (entryFrame m #[(.ref a1), (.ref ps), .null, (.ref pb), (.double pz), (.double pp)] 8)) t := fun t k => c34 t (st35 _ k)
  have c44 : ∀ t, Steps p.tables e below (T35.setTop (mkF m 28 #[.val (.ref a1), .val (.ref ps), .val .null, .val (.ref pb), .val (.double pz), .second, .val (.double pp), .second] [(.double pp), (.ref a1)])) t → Steps p.tables e below (s₁.setTop (entryFrame m #[(.ref a1), (.ref ps), .null, (.ref pb), (.double pz), (.double pp)] 8)) t := fun t k => c43 t (by
    show Steps p.tables e below (T35.setTop (mkF m 25 #[.val (.ref a1), .val (.ref ps), .val .null, .val (.ref pb), .val (.double pz), .second, .val (.double pp), .second] [])) _
    refine XS.aloadN X35.here hx rfl (hb hby d1_25) rfl rfl ?_
    show Steps p.tables e below (T35.setTop (mkF m 26 #[.val (.ref a1), .val (.ref ps), .val .null, .val (.ref pb), .val (.double pz), .second, .val (.double pp), .second] [(.ref a1)])) _
    refine XS.dload X35.here hx rfl (hb hby d1_26) rfl ?_
    show Steps p.tables e below (T35.setTop (mkF m 28 #[.val (.ref a1), .val (.ref ps), .val .null, .val (.ref pb), .val (.double pz), .second, .val (.double pp), .second] [(.double pp), (.ref a1)])) _
    exact k)
  obtain ⟨T45, h45, X45, e45, W45, st45⟩ := putF X35 hx hZ hown (host := "") (Or.inl (hw _ (List.mem_of_getElem? (i := 25) rfl))) Via.refl e35 F41 F37 (Or.inr ⟨(hw _ (List.mem_of_getElem? (i := 26) rfl)), rfl, hnaM⟩) (hw _ (List.mem_of_getElem? (i := 1) rfl)) (ty := .double) (by decide) rfl rfl (g := (mkF m 28 #[.val (.ref a1), .val (.ref ps), .val .null, .val (.ref pb), .val (.double pz), .second, .val (.double pp), .second] [(.double pp), (.ref a1)])) rfl rfl (hb hby d1_28)
  have F46 : Fld Z h45 a1 "com/example/detectability/detectability/ComparedProtein" "p" "D" (.double pp) := F41.same W45
  have F47 : Exa Z h45 a1 "com/example/detectability/detectability/ComparedProtein" := (F37.wr W45)
  have F48 : Fld Z h45 a1 "com/example/detectability/detectability/ComparedProtein" "name" "Ljava/lang/String;" (.ref ps) := (F38.other W45 (Or.inr (slot_ne (Or.inr (hw _ (List.mem_of_getElem? (i := 18) rfl))) (Or.inr (hw _ (List.mem_of_getElem? (i := 26) rfl))) (by decide) (t := (.object "java/lang/String")) (t' := .double) (by decide) (by decide))))
  have F49 : Fld Z h45 a1 "com/example/detectability/detectability/ComparedProtein" "inA" "Lcom/example/detectability/detectability/ProteinAbundance;" .null := (F39.other W45 (Or.inr (slot_ne (Or.inr (hw _ (List.mem_of_getElem? (i := 20) rfl))) (Or.inr (hw _ (List.mem_of_getElem? (i := 26) rfl))) (by decide) (t := (.object "com/example/detectability/detectability/ProteinAbundance")) (t' := .double) (by decide) (by decide))))
  have F50 : Fld Z h45 a1 "com/example/detectability/detectability/ComparedProtein" "inB" "Lcom/example/detectability/detectability/ProteinAbundance;" (.ref pb) := (F40.other W45 (Or.inr (slot_ne (Or.inr (hw _ (List.mem_of_getElem? (i := 22) rfl))) (Or.inr (hw _ (List.mem_of_getElem? (i := 26) rfl))) (by decide) (t := (.object "com/example/detectability/detectability/ProteinAbundance")) (t' := .double) (by decide) (by decide))))
  have F51 : Fld Z h45 a1 "com/example/detectability/detectability/ComparedProtein" "z" "D" (.double pz) := (F36.other W45 (Or.inr (slot_ne (Or.inr (hw _ (List.mem_of_getElem? (i := 24) rfl))) (Or.inr (hw _ (List.mem_of_getElem? (i := 26) rfl))) (by decide) (t := .double) (t' := .double) (by decide) (by decide))))
  have N45 := Fr.snoc X45 N35 g_a1
  have K52 : Keep h0 h45 [a1] := K42.wr W45 (Or.inl (List.mem_of_getElem? (i := 0) rfl))
  have c53 : ∀ t, Steps p.tables e below (T45.setTop (mkF m 31 #[.val (.ref a1), .val (.ref ps), .val .null, .val (.ref pb), .val (.double pz), .second, .val (.double pp), .second] [])) t → Steps p.tables e below (s₁.setTop (entryFrame m #[(.ref a1), (.ref ps), .null, (.ref pb), (.double pz), (.double pp)] 8)) t := fun t k => c44 t (st45 _ k)
  obtain ⟨fs, hr, hrun, hended, hW, hsame⟩ := X45.leave (v := none) (fun _ => rfl)
  refine ⟨_, _, pre0 _ (c53 _ (X45.returnOut hx Bd.returns (hb hby d1_31) hr)), hrun, hended, _, _, rfl, ?_, ⟨_, rfl⟩, hW, hsame.mono (by decide) (by decide)⟩
  show Q_ci01 Z a1 ps pb pz pp h0 n0 _ T45.heap _
  rw [e45]
  exact ⟨rfl, N45, K52, F47, F48, F49, F50, F51, F46⟩
theorem ef_ci10 (m : MethodId) (a1 : Addr) (ps : Addr) (pa : Addr) (pz : UInt64) (pp : UInt64) : entryFrame m #[(.ref a1), (.ref ps), (.ref pa), .null, (.double pz), (.double pp)] 8 = (mkF m 0 #[.val (.ref a1), .val (.ref ps), .val (.ref pa), .val .null, .val (.double pz), .second, .val (.double pp), .second] []) := by first | (simp [entryFrame, mkF, argsToLocals, Value.category]; done) | rfl
def Q_ci10 (Z : State) (a1 : Addr) (ps : Addr) (pa : Addr) (pz : UInt64) (pp : UInt64) (h0 : Heap) (n0 : Nat) (v : Option Value) (h : Heap) (L : List Loc) : Prop := v = none ∧ Fr n0 L ∧ Keep h0 h [a1] ∧ Exa Z h a1 "com/example/detectability/detectability/ComparedProtein" ∧ Fld Z h a1 "com/example/detectability/detectability/ComparedProtein" "name" "Ljava/lang/String;" (.ref ps) ∧ Fld Z h a1 "com/example/detectability/detectability/ComparedProtein" "inA" "Lcom/example/detectability/detectability/ProteinAbundance;" (.ref pa) ∧ Fld Z h a1 "com/example/detectability/detectability/ComparedProtein" "inB" "Lcom/example/detectability/detectability/ProteinAbundance;" .null ∧ Fld Z h a1 "com/example/detectability/detectability/ComparedProtein" "z" "D" (.double pz) ∧ Fld Z h a1 "com/example/detectability/detectability/ComparedProtein" "p" "D" (.double pp)
set_option maxRecDepth 65536 in
set_option maxHeartbeats 2000000 in
theorem rm_ci10 (l : Launch) (Z : State) (a0 : Array Value) (hw : ∀ d ∈ tables_1, d.before a0 Z = true) (ws : List Jvm.Cond) (a1 : Addr) (ps : Addr) (pa : Addr) (pz : UInt64) (pp : UInt64) (h0 : Heap) (n0 : Nat) (Z0 : n0 ≤ h0.size) (E_a1 : Exa Z h0 a1 "com/example/detectability/detectability/ComparedProtein") (F_0 : Fld Z h0 a1 "com/example/detectability/detectability/ComparedProtein" "name" "Ljava/lang/String;" .null) (F_1 : Fld Z h0 a1 "com/example/detectability/detectability/ComparedProtein" "inA" "Lcom/example/detectability/detectability/ProteinAbundance;" .null) (F_2 : Fld Z h0 a1 "com/example/detectability/detectability/ComparedProtein" "inB" "Lcom/example/detectability/detectability/ProteinAbundance;" .null) (F_3 : Fld Z h0 a1 "com/example/detectability/detectability/ComparedProtein" "z" "D" (.double (0 : UInt64))) (F_4 : Fld Z h0 a1 "com/example/detectability/detectability/ComparedProtein" "p" "D" (.double (0 : UInt64))) (g_a1 : n0 ≤ a1) :
    MetFree l (⟨"com/example/detectability/detectability/ComparedProtein", "<init>", "(Ljava/lang/String;Lcom/example/detectability/detectability/ProteinAbundance;Lcom/example/detectability/detectability/ProteinAbundance;DD)V"⟩ : MethodName) (head1 (Jvm.Cond.code (⟨"com/example/detectability/detectability/ComparedProtein", "<init>", "(Ljava/lang/String;Lcom/example/detectability/detectability/ProteinAbundance;Lcom/example/detectability/detectability/ProteinAbundance;DD)V"⟩ : MethodName) prog_4_method_1_code 8 none :: ws) ({ frames := 1, cells := 0, slots := 0, locals := 12 } : Room)) (fun aa UU => aa = #[(.ref a1), (.ref ps), (.ref pa), .null, (.double pz), (.double pp)] ∧ Z.Warmed39 UU.vm ∧ UU.heap = h0) (fun _ _ _ _ _ => True) (fun _ UU oo UU' => ∃ v L, oo = .returned v ∧ Q_ci10 Z a1 ps pa pz pp h0 n0 v UU'.heap L ∧ FrameEnd UU oo UU' L ({ frames := 1, cells := 0, slots := 0, locals := 12 } : Room).cells ({ frames := 1, cells := 0, slots := 0, locals := 12 } : Room).slots) := by
  refine MetFree.of_bodySF (plainFor_of_name pn_com_example_detectability_detectability_ComparedProtein) hisR ?_
  intro p e s m args below meth c s₁ Bd hml0 hP hK
  obtain ⟨rfl, hZ, hh⟩ := hP
  have hx := Bd.exec
  have hby := Bd.bytes
  have hml : c.maxLocals = 8 := hml0
  have hown : s.vm.findClass "com/example/detectability/detectability/ComparedProtein" = some m.cls := findClass_of_methodNamed Bd.named
  have hnaM := (name_of_methodNamed Bd.named Bd.method).1
  have X0 : Stand p l e ({ frames := 1, cells := 0, slots := 0, locals := 12 } : Room) s m #[(.ref a1), (.ref ps), (.ref pa), .null, (.double pz), (.double pp)] below meth c s₁ [] 0 0 := Stand.of_body Bd
  have e0 : s₁.heap = h0 := by rw [← hh, Bd.state]; rfl
  have N0 := Fr.nil n0
  have pre0 : ∀ t, Steps p.tables e below (s₁.setTop (entryFrame m #[(.ref a1), (.ref ps), (.ref pa), .null, (.double pz), (.double pp)] 8)) t → Steps p.tables e below (s₁.setTop (entryFrame m #[(.ref a1), (.ref ps), (.ref pa), .null, (.double pz), (.double pp)] 8)) t := fun t k => k
  have c0 : ∀ t, Steps p.tables e below (s₁.setTop (mkF m 0 #[.val (.ref a1), .val (.ref ps), .val (.ref pa), .val .null, .val (.double pz), .second, .val (.double pp), .second] [])) t → Steps p.tables e below (s₁.setTop (entryFrame m #[(.ref a1), (.ref ps), (.ref pa), .null, (.double pz), (.double pp)] 8)) t := fun t k => castTop (ef_ci10 m a1 ps pa pz pp) k
  have K0 := Keep.refl h0 [a1]
  have c1 : ∀ t, Steps p.tables e below (s₁.setTop (mkF m 1 #[.val (.ref a1), .val (.ref ps), .val (.ref pa), .val .null, .val (.double pz), .second, .val (.double pp), .second] [(.ref a1)])) t → Steps p.tables e below (s₁.setTop (entryFrame m #[(.ref a1), (.ref ps), (.ref pa), .null, (.double pz), (.double pp)] 8)) t := fun t k => c0 t (by
    show Steps p.tables e below (s₁.setTop (mkF m 0 #[.val (.ref a1), .val (.ref ps), .val (.ref pa), .val .null, .val (.double pz), .second, .val (.double pp), .second] [])) _
    refine XS.aloadN X0.here hx rfl (hb hby d1_0) rfl rfl ?_
    show Steps p.tables e below (s₁.setTop (mkF m 1 #[.val (.ref a1), .val (.ref ps), .val (.ref pa), .val .null, .val (.double pz), .second, .val (.double pp), .second] [(.ref a1)])) _
    exact k)
  obtain ⟨T2, X2, e2, st2⟩ := initO X0 hx hZ hown (hw _ (List.mem_of_getElem? (i := 14) rfl)) (hw _ (List.mem_of_getElem? (i := 15) rfl)) (hw _ (List.mem_of_getElem? (i := 16) rfl)) e0 (g := (mkF m 1 #[.val (.ref a1), .val (.ref ps), .val (.ref pa), .val .null, .val (.double pz), .second, .val (.double pp), .second] [(.ref a1)])) rfl (by rw [hml]; rfl) rfl (hb hby d1_1) (by decide) (W := 0) (by show 2 * 0 + _ ≤ _; exact Nat.le_of_eq rfl) (by decide)
  have c3 : ∀ t, Steps p.tables e below (T2.setTop (mkF m 4 #[.val (.ref a1), .val (.ref ps), .val (.ref pa), .val .null, .val (.double pz), .second, .val (.double pp), .second] [])) t → Steps p.tables e below (s₁.setTop (entryFrame m #[(.ref a1), (.ref ps), (.ref pa), .null, (.double pz), (.double pp)] 8)) t := fun t k => c1 t (st2 _ k)
  have c4 : ∀ t, Steps p.tables e below (T2.setTop (mkF m 6 #[.val (.ref a1), .val (.ref ps), .val (.ref pa), .val .null, .val (.double pz), .second, .val (.double pp), .second] [(.ref ps), (.ref a1)])) t → Steps p.tables e below (s₁.setTop (entryFrame m #[(.ref a1), (.ref ps), (.ref pa), .null, (.double pz), (.double pp)] 8)) t := fun t k => c3 t (by
    show Steps p.tables e below (T2.setTop (mkF m 4 #[.val (.ref a1), .val (.ref ps), .val (.ref pa), .val .null, .val (.double pz), .second, .val (.double pp), .second] [])) _
    refine XS.aloadN X2.here hx rfl (hb hby d1_4) rfl rfl ?_
    show Steps p.tables e below (T2.setTop (mkF m 5 #[.val (.ref a1), .val (.ref ps), .val (.ref pa), .val .null, .val (.double pz), .second, .val (.double pp), .second] [(.ref a1)])) _
    refine XS.aloadN X2.here hx rfl (hb hby d1_5) rfl rfl ?_
    show Steps p.tables e below (T2.setTop (mkF m 6 #[.val (.ref a1), .val (.ref ps), .val (.ref pa), .val .null, .val (.double pz), .second, .val (.double pp), .second] [(.ref ps), (.ref a1)])) _
    exact k)
  obtain ⟨T5, h5, X5, e5, W5, st5⟩ := putF X2 hx hZ hown (host := "") (Or.inl (hw _ (List.mem_of_getElem? (i := 17) rfl))) Via.refl e2 F_0 E_a1 (Or.inr ⟨(hw _ (List.mem_of_getElem? (i := 18) rfl)), rfl, hnaM⟩) (hw _ (List.mem_of_getElem? (i := 1) rfl)) (ty := (.object "java/lang/String")) (by decide) rfl rfl (g := (mkF m 6 #[.val (.ref a1), .val (.ref ps), .val (.ref pa), .val .null, .val (.double pz), .second, .val (.double pp), .second] [(.ref ps), (.ref a1)])) rfl rfl (hb hby d1_6)
  have F6 : Fld Z h5 a1 "com/example/detectability/detectability/ComparedProtein" "name" "Ljava/lang/String;" (.ref ps) := F_0.same W5
  have F7 : Exa Z h5 a1 "com/example/detectability/detectability/ComparedProtein" := (E_a1.wr W5)
  have F8 : Fld Z h5 a1 "com/example/detectability/detectability/ComparedProtein" "inA" "Lcom/example/detectability/detectability/ProteinAbundance;" .null := (F_1.other W5 (Or.inr (slot_ne (Or.inr (hw _ (List.mem_of_getElem? (i := 20) rfl))) (Or.inr (hw _ (List.mem_of_getElem? (i := 18) rfl))) (by decide) (t := (.object "com/example/detectability/detectability/ProteinAbundance")) (t' := (.object "java/lang/String")) (by decide) (by decide))))
  have F9 : Fld Z h5 a1 "com/example/detectability/detectability/ComparedProtein" "inB" "Lcom/example/detectability/detectability/ProteinAbundance;" .null := (F_2.other W5 (Or.inr (slot_ne (Or.inr (hw _ (List.mem_of_getElem? (i := 22) rfl))) (Or.inr (hw _ (List.mem_of_getElem? (i := 18) rfl))) (by decide) (t := (.object "com/example/detectability/detectability/ProteinAbundance")) (t' := (.object "java/lang/String")) (by decide) (by decide))))
  have F10 : Fld Z h5 a1 "com/example/detectability/detectability/ComparedProtein" "z" "D" (.double (0 : UInt64)) := (F_3.other W5 (Or.inr (slot_ne (Or.inr (hw _ (List.mem_of_getElem? (i := 24) rfl))) (Or.inr (hw _ (List.mem_of_getElem? (i := 18) rfl))) (by decide) (t := .double) (t' := (.object "java/lang/String")) (by decide) (by decide))))
  have F11 : Fld Z h5 a1 "com/example/detectability/detectability/ComparedProtein" "p" "D" (.double (0 : UInt64)) := (F_4.other W5 (Or.inr (slot_ne (Or.inr (hw _ (List.mem_of_getElem? (i := 26) rfl))) (Or.inr (hw _ (List.mem_of_getElem? (i := 18) rfl))) (by decide) (t := .double) (t' := (.object "java/lang/String")) (by decide) (by decide))))
  have N5 := Fr.snoc X5 N0 g_a1
  have K12 : Keep h0 h5 [a1] := K0.wr W5 (Or.inl (List.mem_of_getElem? (i := 0) rfl))
  have c13 : ∀ t, Steps p.tables e below (T5.setTop (mkF m 9 #[.val (.ref a1), .val (.ref ps), .val (.ref pa), .val .null, .val (.double pz), .second, .val (.double pp), .second] [])) t → Steps p.tables e below (s₁.setTop (entryFrame m #[(.ref a1), (.ref ps), (.ref pa), .null, (.double pz), (.double pp)] 8)) t := fun t k => c4 t (st5 _ k)
  have c14 : ∀ t, Steps p.tables e below (T5.setTop (mkF m 11 #[.val (.ref a1), .val (.ref ps), .val (.ref pa), .val .null, .val (.double pz), .second, .val (.double pp), .second] [(.ref pa), (.ref a1)])) t → Steps p.tables e below (s₁.setTop (entryFrame m #[(.ref a1), (.ref ps), (.ref pa), .null, (.double pz), (.double pp)] 8)) t := fun t k => c13 t (by
    show Steps p.tables e below (T5.setTop (mkF m 9 #[.val (.ref a1), .val (.ref ps), .val (.ref pa), .val .null, .val (.double pz), .second, .val (.double pp), .second] [])) _
    refine XS.aloadN X5.here hx rfl (hb hby d1_9) rfl rfl ?_
    show Steps p.tables e below (T5.setTop (mkF m 10 #[.val (.ref a1), .val (.ref ps), .val (.ref pa), .val .null, .val (.double pz), .second, .val (.double pp), .second] [(.ref a1)])) _
    refine XS.aloadN X5.here hx rfl (hb hby d1_10) rfl rfl ?_
    show Steps p.tables e below (T5.setTop (mkF m 11 #[.val (.ref a1), .val (.ref ps), .val (.ref pa), .val .null, .val (.double pz), .second, .val (.double pp), .second] [(.ref pa), (.ref a1)])) _
    exact k)
  obtain ⟨T15, h15, X15, e15, W15, st15⟩ := putF X5 hx hZ hown (host := "") (Or.inl (hw _ (List.mem_of_getElem? (i := 19) rfl))) Via.refl e5 F8 F7 (Or.inr ⟨(hw _ (List.mem_of_getElem? (i := 20) rfl)), rfl, hnaM⟩) (hw _ (List.mem_of_getElem? (i := 1) rfl)) (ty := (.object "com/example/detectability/detectability/ProteinAbundance")) (by decide) rfl rfl (g := (mkF m 11 #[.val (.ref a1), .val (.ref ps), .val (.ref pa), .val .null, .val (.double pz), .second, .val (.double pp), .second] [(.ref pa), (.ref a1)])) rfl rfl (hb hby d1_11)
  have F16 : Fld Z h15 a1 "com/example/detectability/detectability/ComparedProtein" "inA" "Lcom/example/detectability/detectability/ProteinAbundance;" (.ref pa) := F8.same W15
  have F17 : Exa Z h15 a1 "com/example/detectability/detectability/ComparedProtein" := (F7.wr W15)
  have F18 : Fld Z h15 a1 "com/example/detectability/detectability/ComparedProtein" "name" "Ljava/lang/String;" (.ref ps) := (F6.other W15 (Or.inr (slot_ne (Or.inr (hw _ (List.mem_of_getElem? (i := 18) rfl))) (Or.inr (hw _ (List.mem_of_getElem? (i := 20) rfl))) (by decide) (t := (.object "java/lang/String")) (t' := (.object "com/example/detectability/detectability/ProteinAbundance")) (by decide) (by decide))))
  have F19 : Fld Z h15 a1 "com/example/detectability/detectability/ComparedProtein" "inB" "Lcom/example/detectability/detectability/ProteinAbundance;" .null := (F9.other W15 (Or.inr (slot_ne (Or.inr (hw _ (List.mem_of_getElem? (i := 22) rfl))) (Or.inr (hw _ (List.mem_of_getElem? (i := 20) rfl))) (by decide) (t := (.object "com/example/detectability/detectability/ProteinAbundance")) (t' := (.object "com/example/detectability/detectability/ProteinAbundance")) (by decide) (by decide))))
  have F20 : Fld Z h15 a1 "com/example/detectability/detectability/ComparedProtein" "z" "D" (.double (0 : UInt64)) := (F10.other W15 (Or.inr (slot_ne (Or.inr (hw _ (List.mem_of_getElem? (i := 24) rfl))) (Or.inr (hw _ (List.mem_of_getElem? (i := 20) rfl))) (by decide) (t := .double) (t' := (.object "com/example/detectability/detectability/ProteinAbundance")) (by decide) (by decide))))
  have F21 : Fld Z h15 a1 "com/example/detectability/detectability/ComparedProtein" "p" "D" (.double (0 : UInt64)) := (F11.other W15 (Or.inr (slot_ne (Or.inr (hw _ (List.mem_of_getElem? (i := 26) rfl))) (Or.inr (hw _ (List.mem_of_getElem? (i := 20) rfl))) (by decide) (t := .double) (t' := (.object "com/example/detectability/detectability/ProteinAbundance")) (by decide) (by decide))))
  have N15 := Fr.snoc X15 N5 g_a1
  have K22 : Keep h0 h15 [a1] := K12.wr W15 (Or.inl (List.mem_of_getElem? (i := 0) rfl))
  have c23 : ∀ t, Steps p.tables e below (T15.setTop (mkF m 14 #[.val (.ref a1), .val (.ref ps), .val (.ref pa), .val .null, .val (.double pz), .second, .val (.double pp), .second] [])) t → Steps p.tables e below (s₁.setTop (entryFrame m #[(.ref a1), (.ref ps), (.ref pa), .null, (.double pz), (.double pp)] 8)) t := fun t k => c14 t (st15 _ k)
  have c24 : ∀ t, Steps p.tables e below (T15.setTop (mkF m 16 #[.val (.ref a1), .val (.ref ps), .val (.ref pa), .val .null, .val (.double pz), .second, .val (.double pp), .second] [.null, (.ref a1)])) t → Steps p.tables e below (s₁.setTop (entryFrame m #[(.ref a1), (.ref ps), (.ref pa), .null, (.double pz), (.double pp)] 8)) t := fun t k => c23 t (by
    show Steps p.tables e below (T15.setTop (mkF m 14 #[.val (.ref a1), .val (.ref ps), .val (.ref pa), .val .null, .val (.double pz), .second, .val (.double pp), .second] [])) _
    refine XS.aloadN X15.here hx rfl (hb hby d1_14) rfl rfl ?_
    show Steps p.tables e below (T15.setTop (mkF m 15 #[.val (.ref a1), .val (.ref ps), .val (.ref pa), .val .null, .val (.double pz), .second, .val (.double pp), .second] [(.ref a1)])) _
    refine XS.aloadN X15.here hx rfl (hb hby d1_15) rfl rfl ?_
    show Steps p.tables e below (T15.setTop (mkF m 16 #[.val (.ref a1), .val (.ref ps), .val (.ref pa), .val .null, .val (.double pz), .second, .val (.double pp), .second] [.null, (.ref a1)])) _
    exact k)
  obtain ⟨T25, h25, X25, e25, W25, st25⟩ := putF X15 hx hZ hown (host := "") (Or.inl (hw _ (List.mem_of_getElem? (i := 21) rfl))) Via.refl e15 F19 F17 (Or.inr ⟨(hw _ (List.mem_of_getElem? (i := 22) rfl)), rfl, hnaM⟩) (hw _ (List.mem_of_getElem? (i := 1) rfl)) (ty := (.object "com/example/detectability/detectability/ProteinAbundance")) (by decide) rfl rfl (g := (mkF m 16 #[.val (.ref a1), .val (.ref ps), .val (.ref pa), .val .null, .val (.double pz), .second, .val (.double pp), .second] [.null, (.ref a1)])) rfl rfl (hb hby d1_16)
  have F26 : Fld Z h25 a1 "com/example/detectability/detectability/ComparedProtein" "inB" "Lcom/example/detectability/detectability/ProteinAbundance;" .null := F19.same W25
  have F27 : Exa Z h25 a1 "com/example/detectability/detectability/ComparedProtein" := (F17.wr W25)
  have F28 : Fld Z h25 a1 "com/example/detectability/detectability/ComparedProtein" "name" "Ljava/lang/String;" (.ref ps) := (F18.other W25 (Or.inr (slot_ne (Or.inr (hw _ (List.mem_of_getElem? (i := 18) rfl))) (Or.inr (hw _ (List.mem_of_getElem? (i := 22) rfl))) (by decide) (t := (.object "java/lang/String")) (t' := (.object "com/example/detectability/detectability/ProteinAbundance")) (by decide) (by decide))))
  have F29 : Fld Z h25 a1 "com/example/detectability/detectability/ComparedProtein" "inA" "Lcom/example/detectability/detectability/ProteinAbundance;" (.ref pa) := (F16.other W25 (Or.inr (slot_ne (Or.inr (hw _ (List.mem_of_getElem? (i := 20) rfl))) (Or.inr (hw _ (List.mem_of_getElem? (i := 22) rfl))) (by decide) (t := (.object "com/example/detectability/detectability/ProteinAbundance")) (t' := (.object "com/example/detectability/detectability/ProteinAbundance")) (by decide) (by decide))))
  have F30 : Fld Z h25 a1 "com/example/detectability/detectability/ComparedProtein" "z" "D" (.double (0 : UInt64)) := (F20.other W25 (Or.inr (slot_ne (Or.inr (hw _ (List.mem_of_getElem? (i := 24) rfl))) (Or.inr (hw _ (List.mem_of_getElem? (i := 22) rfl))) (by decide) (t := .double) (t' := (.object "com/example/detectability/detectability/ProteinAbundance")) (by decide) (by decide))))
  have F31 : Fld Z h25 a1 "com/example/detectability/detectability/ComparedProtein" "p" "D" (.double (0 : UInt64)) := (F21.other W25 (Or.inr (slot_ne (Or.inr (hw _ (List.mem_of_getElem? (i := 26) rfl))) (Or.inr (hw _ (List.mem_of_getElem? (i := 22) rfl))) (by decide) (t := .double) (t' := (.object "com/example/detectability/detectability/ProteinAbundance")) (by decide) (by decide))))
  have N25 := Fr.snoc X25 N15 g_a1
  have K32 : Keep h0 h25 [a1] := K22.wr W25 (Or.inl (List.mem_of_getElem? (i := 0) rfl))
  have c33 : ∀ t, Steps p.tables e below (T25.setTop (mkF m 19 #[.val (.ref a1), .val (.ref ps), .val (.ref pa), .val .null, .val (.double pz), .second, .val (.double pp), .second] [])) t → Steps p.tables e below (s₁.setTop (entryFrame m #[(.ref a1), (.ref ps), (.ref pa), .null, (.double pz), (.double pp)] 8)) t := fun t k => c24 t (st25 _ k)
  have c34 : ∀ t, Steps p.tables e below (T25.setTop (mkF m 22 #[.val (.ref a1), .val (.ref ps), .val (.ref pa), .val .null, .val (.double pz), .second, .val (.double pp), .second] [(.double pz), (.ref a1)])) t → Steps p.tables e below (s₁.setTop (entryFrame m #[(.ref a1), (.ref ps), (.ref pa), .null, (.double pz), (.double pp)] 8)) t := fun t k => c33 t (by
    show Steps p.tables e below (T25.setTop (mkF m 19 #[.val (.ref a1), .val (.ref ps), .val (.ref pa), .val .null, .val (.double pz), .second, .val (.double pp), .second] [])) _
    refine XS.aloadN X25.here hx rfl (hb hby d1_19) rfl rfl ?_
    show Steps p.tables e below (T25.setTop (mkF m 20 #[.val (.ref a1), .val (.ref ps), .val (.ref pa), .val .null, .val (.double pz), .second, .val (.double pp), .second] [(.ref a1)])) _
    refine XS.dload X25.here hx rfl (hb hby d1_20) rfl ?_
    show Steps p.tables e below (T25.setTop (mkF m 22 #[.val (.ref a1), .val (.ref ps), .val (.ref pa), .val .null, .val (.double pz), .second, .val (.double pp), .second] [(.double pz), (.ref a1)])) _
    exact k)
  obtain ⟨T35, h35, X35, e35, W35, st35⟩ := putF X25 hx hZ hown (host := "") (Or.inl (hw _ (List.mem_of_getElem? (i := 23) rfl))) Via.refl e25 F30 F27 (Or.inr ⟨(hw _ (List.mem_of_getElem? (i := 24) rfl)), rfl, hnaM⟩) (hw _ (List.mem_of_getElem? (i := 1) rfl)) (ty := .double) (by decide) rfl rfl (g := (mkF m 22 #[.val (.ref a1), .val (.ref ps), .val (.ref pa), .val .null, .val (.double pz), .second, .val (.double pp), .second] [(.double pz), (.ref a1)])) rfl rfl (hb hby d1_22)
  have F36 : Fld Z h35 a1 "com/example/detectability/detectability/ComparedProtein" "z" "D" (.double pz) := F30.same W35
  have F37 : Exa Z h35 a1 "com/example/detectability/detectability/ComparedProtein" := (F27.wr W35)
  have F38 : Fld Z h35 a1 "com/example/detectability/detectability/ComparedProtein" "name" "Ljava/lang/String;" (.ref ps) := (F28.other W35 (Or.inr (slot_ne (Or.inr (hw _ (List.mem_of_getElem? (i := 18) rfl))) (Or.inr (hw _ (List.mem_of_getElem? (i := 24) rfl))) (by decide) (t := (.object "java/lang/String")) (t' := .double) (by decide) (by decide))))
  have F39 : Fld Z h35 a1 "com/example/detectability/detectability/ComparedProtein" "inA" "Lcom/example/detectability/detectability/ProteinAbundance;" (.ref pa) := (F29.other W35 (Or.inr (slot_ne (Or.inr (hw _ (List.mem_of_getElem? (i := 20) rfl))) (Or.inr (hw _ (List.mem_of_getElem? (i := 24) rfl))) (by decide) (t := (.object "com/example/detectability/detectability/ProteinAbundance")) (t' := .double) (by decide) (by decide))))
  have F40 : Fld Z h35 a1 "com/example/detectability/detectability/ComparedProtein" "inB" "Lcom/example/detectability/detectability/ProteinAbundance;" .null := (F26.other W35 (Or.inr (slot_ne (Or.inr (hw _ (List.mem_of_getElem? (i := 22) rfl))) (Or.inr (hw _ (List.mem_of_getElem? (i := 24) rfl))) (by decide) (t := (.object "com/example/detectability/detectability/ProteinAbundance")) (t' := .double) (by decide) (by decide))))
  have F41 : Fld Z h35 a1 "com/example/detectability/detectability/ComparedProtein" "p" "D" (.double (0 : UInt64)) := (F31.other W35 (Or.inr (slot_ne (Or.inr (hw _ (List.mem_of_getElem? (i := 26) rfl))) (Or.inr (hw _ (List.mem_of_getElem? (i := 24) rfl))) (by decide) (t := .double) (t' := .double) (by decide) (by decide))))
  have N35 := Fr.snoc X35 N25 g_a1
  have K42 : Keep h0 h35 [a1] := K32.wr W35 (Or.inl (List.mem_of_getElem? (i := 0) rfl))
  have c43 : ∀ t, Steps p.tables e below (T35.setTop (mkF m 25 #[.val (.ref a1), .val (.ref ps), .val (.ref pa), .val .null, .val (.double pz), .second, .val (.double pp), .second] [])) t → Steps p.tables e below (s₁.setTop (entryFrame m #[(.ref a1), (.ref ps), (.ref pa), .null, (.double pz), (.double pp)] 8)) t := fun t k => c34 t (st35 _ k)
  have c44 : ∀ t, Steps p.tables e below (T35.setTop (mkF m 28 #[.val (.ref a1), .val (.ref ps), .val (.ref pa), .val .null, .val (.double pz), .second, .val (.double pp), .second] [(.double pp), (.ref a1)])) t → Steps p.tables e below (s₁.setTop (entryFrame m #[(.ref a1), (.ref ps), (.ref pa), .null, (.double pz), (.double pp)] 8)) t := fun t k => c43 t (by
    show Steps p.tables e below (T35.setTop (mkF m 25 #[.val (.ref a1), .val (.ref ps), .val (.ref pa), .val .null, .val (.double pz), .second, .val (.double pp), .second] [])) _
    refine XS.aloadN X35.here hx rfl (hb hby d1_25) rfl rfl ?_
    show Steps p.tables e below (T35.setTop (mkF m 26 #[.val (.ref a1), .val (.ref ps), .val (.ref pa), .val .null, .val (.double pz), .second, .val (.double pp), .second] [(.ref a1)])) _
    refine XS.dload X35.here hx rfl (hb hby d1_26) rfl ?_
    show Steps p.tables e below (T35.setTop (mkF m 28 #[.val (.ref a1), .val (.ref ps), .val (.ref pa), .val .null, .val (.double pz), .second, .val (.double pp), .second] [(.double pp), (.ref a1)])) _
    exact k)
  obtain ⟨T45, h45, X45, e45, W45, st45⟩ := putF X35 hx hZ hown (host := "") (Or.inl (hw _ (List.mem_of_getElem? (i := 25) rfl))) Via.refl e35 F41 F37 (Or.inr ⟨(hw _ (List.mem_of_getElem? (i := 26) rfl)), rfl, hnaM⟩) (hw _ (List.mem_of_getElem? (i := 1) rfl)) (ty := .double) (by decide) rfl rfl (g := (mkF m 28 #[.val (.ref a1), .val (.ref ps), .val (.ref pa), .val .null, .val (.double pz), .second, .val (.double pp), .second] [(.double pp), (.ref a1)])) rfl rfl (hb hby d1_28)
  have F46 : Fld Z h45 a1 "com/example/detectability/detectability/ComparedProtein" "p" "D" (.double pp) := F41.same W45
  have F47 : Exa Z h45 a1 "com/example/detectability/detectability/ComparedProtein" := (F37.wr W45)
  have F48 : Fld Z h45 a1 "com/example/detectability/detectability/ComparedProtein" "name" "Ljava/lang/String;" (.ref ps) := (F38.other W45 (Or.inr (slot_ne (Or.inr (hw _ (List.mem_of_getElem? (i := 18) rfl))) (Or.inr (hw _ (List.mem_of_getElem? (i := 26) rfl))) (by decide) (t := (.object "java/lang/String")) (t' := .double) (by decide) (by decide))))
  have F49 : Fld Z h45 a1 "com/example/detectability/detectability/ComparedProtein" "inA" "Lcom/example/detectability/detectability/ProteinAbundance;" (.ref pa) := (F39.other W45 (Or.inr (slot_ne (Or.inr (hw _ (List.mem_of_getElem? (i := 20) rfl))) (Or.inr (hw _ (List.mem_of_getElem? (i := 26) rfl))) (by decide) (t := (.object "com/example/detectability/detectability/ProteinAbundance")) (t' := .double) (by decide) (by decide))))
  have F50 : Fld Z h45 a1 "com/example/detectability/detectability/ComparedProtein" "inB" "Lcom/example/detectability/detectability/ProteinAbundance;" .null := (F40.other W45 (Or.inr (slot_ne (Or.inr (hw _ (List.mem_of_getElem? (i := 22) rfl))) (Or.inr (hw _ (List.mem_of_getElem? (i := 26) rfl))) (by decide) (t := (.object "com/example/detectability/detectability/ProteinAbundance")) (t' := .double) (by decide) (by decide))))
  have F51 : Fld Z h45 a1 "com/example/detectability/detectability/ComparedProtein" "z" "D" (.double pz) := (F36.other W45 (Or.inr (slot_ne (Or.inr (hw _ (List.mem_of_getElem? (i := 24) rfl))) (Or.inr (hw _ (List.mem_of_getElem? (i := 26) rfl))) (by decide) (t := .double) (t' := .double) (by decide) (by decide))))
  have N45 := Fr.snoc X45 N35 g_a1
  have K52 : Keep h0 h45 [a1] := K42.wr W45 (Or.inl (List.mem_of_getElem? (i := 0) rfl))
  have c53 : ∀ t, Steps p.tables e below (T45.setTop (mkF m 31 #[.val (.ref a1), .val (.ref ps), .val (.ref pa), .val .null, .val (.double pz), .second, .val (.double pp), .second] [])) t → Steps p.tables e below (s₁.setTop (entryFrame m #[(.ref a1), (.ref ps), (.ref pa), .null, (.double pz), (.double pp)] 8)) t := fun t k => c44 t (st45 _ k)
  obtain ⟨fs, hr, hrun, hended, hW, hsame⟩ := X45.leave (v := none) (fun _ => rfl)
  refine ⟨_, _, pre0 _ (c53 _ (X45.returnOut hx Bd.returns (hb hby d1_31) hr)), hrun, hended, _, _, rfl, ?_, ⟨_, rfl⟩, hW, hsame.mono (by decide) (by decide)⟩
  show Q_ci10 Z a1 ps pa pz pp h0 n0 _ T45.heap _
  rw [e45]
  exact ⟨rfl, N45, K52, F47, F48, F49, F50, F51, F46⟩
theorem ef_ci11 (m : MethodId) (a1 : Addr) (ps : Addr) (pa : Addr) (pb : Addr) (pz : UInt64) (pp : UInt64) : entryFrame m #[(.ref a1), (.ref ps), (.ref pa), (.ref pb), (.double pz), (.double pp)] 8 = (mkF m 0 #[.val (.ref a1), .val (.ref ps), .val (.ref pa), .val (.ref pb), .val (.double pz), .second, .val (.double pp), .second] []) := by first | (simp [entryFrame, mkF, argsToLocals, Value.category]; done) | rfl
def Q_ci11 (Z : State) (a1 : Addr) (ps : Addr) (pa : Addr) (pb : Addr) (pz : UInt64) (pp : UInt64) (h0 : Heap) (n0 : Nat) (v : Option Value) (h : Heap) (L : List Loc) : Prop := v = none ∧ Fr n0 L ∧ Keep h0 h [a1] ∧ Exa Z h a1 "com/example/detectability/detectability/ComparedProtein" ∧ Fld Z h a1 "com/example/detectability/detectability/ComparedProtein" "name" "Ljava/lang/String;" (.ref ps) ∧ Fld Z h a1 "com/example/detectability/detectability/ComparedProtein" "inA" "Lcom/example/detectability/detectability/ProteinAbundance;" (.ref pa) ∧ Fld Z h a1 "com/example/detectability/detectability/ComparedProtein" "inB" "Lcom/example/detectability/detectability/ProteinAbundance;" (.ref pb) ∧ Fld Z h a1 "com/example/detectability/detectability/ComparedProtein" "z" "D" (.double pz) ∧ Fld Z h a1 "com/example/detectability/detectability/ComparedProtein" "p" "D" (.double pp)
set_option maxRecDepth 65536 in
set_option maxHeartbeats 2000000 in
theorem rm_ci11 (l : Launch) (Z : State) (a0 : Array Value) (hw : ∀ d ∈ tables_1, d.before a0 Z = true) (ws : List Jvm.Cond) (a1 : Addr) (ps : Addr) (pa : Addr) (pb : Addr) (pz : UInt64) (pp : UInt64) (h0 : Heap) (n0 : Nat) (Z0 : n0 ≤ h0.size) (E_a1 : Exa Z h0 a1 "com/example/detectability/detectability/ComparedProtein") (F_0 : Fld Z h0 a1 "com/example/detectability/detectability/ComparedProtein" "name" "Ljava/lang/String;" .null) (F_1 : Fld Z h0 a1 "com/example/detectability/detectability/ComparedProtein" "inA" "Lcom/example/detectability/detectability/ProteinAbundance;" .null) (F_2 : Fld Z h0 a1 "com/example/detectability/detectability/ComparedProtein" "inB" "Lcom/example/detectability/detectability/ProteinAbundance;" .null) (F_3 : Fld Z h0 a1 "com/example/detectability/detectability/ComparedProtein" "z" "D" (.double (0 : UInt64))) (F_4 : Fld Z h0 a1 "com/example/detectability/detectability/ComparedProtein" "p" "D" (.double (0 : UInt64))) (g_a1 : n0 ≤ a1) :
    MetFree l (⟨"com/example/detectability/detectability/ComparedProtein", "<init>", "(Ljava/lang/String;Lcom/example/detectability/detectability/ProteinAbundance;Lcom/example/detectability/detectability/ProteinAbundance;DD)V"⟩ : MethodName) (head1 (Jvm.Cond.code (⟨"com/example/detectability/detectability/ComparedProtein", "<init>", "(Ljava/lang/String;Lcom/example/detectability/detectability/ProteinAbundance;Lcom/example/detectability/detectability/ProteinAbundance;DD)V"⟩ : MethodName) prog_4_method_1_code 8 none :: ws) ({ frames := 1, cells := 0, slots := 0, locals := 12 } : Room)) (fun aa UU => aa = #[(.ref a1), (.ref ps), (.ref pa), (.ref pb), (.double pz), (.double pp)] ∧ Z.Warmed39 UU.vm ∧ UU.heap = h0) (fun _ _ _ _ _ => True) (fun _ UU oo UU' => ∃ v L, oo = .returned v ∧ Q_ci11 Z a1 ps pa pb pz pp h0 n0 v UU'.heap L ∧ FrameEnd UU oo UU' L ({ frames := 1, cells := 0, slots := 0, locals := 12 } : Room).cells ({ frames := 1, cells := 0, slots := 0, locals := 12 } : Room).slots) := by
  refine MetFree.of_bodySF (plainFor_of_name pn_com_example_detectability_detectability_ComparedProtein) hisR ?_
  intro p e s m args below meth c s₁ Bd hml0 hP hK
  obtain ⟨rfl, hZ, hh⟩ := hP
  have hx := Bd.exec
  have hby := Bd.bytes
  have hml : c.maxLocals = 8 := hml0
  have hown : s.vm.findClass "com/example/detectability/detectability/ComparedProtein" = some m.cls := findClass_of_methodNamed Bd.named
  have hnaM := (name_of_methodNamed Bd.named Bd.method).1
  have X0 : Stand p l e ({ frames := 1, cells := 0, slots := 0, locals := 12 } : Room) s m #[(.ref a1), (.ref ps), (.ref pa), (.ref pb), (.double pz), (.double pp)] below meth c s₁ [] 0 0 := Stand.of_body Bd
  have e0 : s₁.heap = h0 := by rw [← hh, Bd.state]; rfl
  have N0 := Fr.nil n0
  have pre0 : ∀ t, Steps p.tables e below (s₁.setTop (entryFrame m #[(.ref a1), (.ref ps), (.ref pa), (.ref pb), (.double pz), (.double pp)] 8)) t → Steps p.tables e below (s₁.setTop (entryFrame m #[(.ref a1), (.ref ps), (.ref pa), (.ref pb), (.double pz), (.double pp)] 8)) t := fun t k => k
  have c0 : ∀ t, Steps p.tables e below (s₁.setTop (mkF m 0 #[.val (.ref a1), .val (.ref ps), .val (.ref pa), .val (.ref pb), .val (.double pz), .second, .val (.double pp), .second] [])) t → Steps p.tables e below (s₁.setTop (entryFrame m #[(.ref a1), (.ref ps), (.ref pa), (.ref pb), (.double pz), (.double pp)] 8)) t := fun t k => castTop (ef_ci11 m a1 ps pa pb pz pp) k
  have K0 := Keep.refl h0 [a1]
  have c1 : ∀ t, Steps p.tables e below (s₁.setTop (mkF m 1 #[.val (.ref a1), .val (.ref ps), .val (.ref pa), .val (.ref pb), .val (.double pz), .second, .val (.double pp), .second] [(.ref a1)])) t → Steps p.tables e below (s₁.setTop (entryFrame m #[(.ref a1), (.ref ps), (.ref pa), (.ref pb), (.double pz), (.double pp)] 8)) t := fun t k => c0 t (by
    show Steps p.tables e below (s₁.setTop (mkF m 0 #[.val (.ref a1), .val (.ref ps), .val (.ref pa), .val (.ref pb), .val (.double pz), .second, .val (.double pp), .second] [])) _
    refine XS.aloadN X0.here hx rfl (hb hby d1_0) rfl rfl ?_
    show Steps p.tables e below (s₁.setTop (mkF m 1 #[.val (.ref a1), .val (.ref ps), .val (.ref pa), .val (.ref pb), .val (.double pz), .second, .val (.double pp), .second] [(.ref a1)])) _
    exact k)
  obtain ⟨T2, X2, e2, st2⟩ := initO X0 hx hZ hown (hw _ (List.mem_of_getElem? (i := 14) rfl)) (hw _ (List.mem_of_getElem? (i := 15) rfl)) (hw _ (List.mem_of_getElem? (i := 16) rfl)) e0 (g := (mkF m 1 #[.val (.ref a1), .val (.ref ps), .val (.ref pa), .val (.ref pb), .val (.double pz), .second, .val (.double pp), .second] [(.ref a1)])) rfl (by rw [hml]; rfl) rfl (hb hby d1_1) (by decide) (W := 0) (by show 2 * 0 + _ ≤ _; exact Nat.le_of_eq rfl) (by decide)
  have c3 : ∀ t, Steps p.tables e below (T2.setTop (mkF m 4 #[.val (.ref a1), .val (.ref ps), .val (.ref pa), .val (.ref pb), .val (.double pz), .second, .val (.double pp), .second] [])) t → Steps p.tables e below (s₁.setTop (entryFrame m #[(.ref a1), (.ref ps), (.ref pa), (.ref pb), (.double pz), (.double pp)] 8)) t := fun t k => c1 t (st2 _ k)
  have c4 : ∀ t, Steps p.tables e below (T2.setTop (mkF m 6 #[.val (.ref a1), .val (.ref ps), .val (.ref pa), .val (.ref pb), .val (.double pz), .second, .val (.double pp), .second] [(.ref ps), (.ref a1)])) t → Steps p.tables e below (s₁.setTop (entryFrame m #[(.ref a1), (.ref ps), (.ref pa), (.ref pb), (.double pz), (.double pp)] 8)) t := fun t k => c3 t (by
    show Steps p.tables e below (T2.setTop (mkF m 4 #[.val (.ref a1), .val (.ref ps), .val (.ref pa), .val (.ref pb), .val (.double pz), .second, .val (.double pp), .second] [])) _
    refine XS.aloadN X2.here hx rfl (hb hby d1_4) rfl rfl ?_
    show Steps p.tables e below (T2.setTop (mkF m 5 #[.val (.ref a1), .val (.ref ps), .val (.ref pa), .val (.ref pb), .val (.double pz), .second, .val (.double pp), .second] [(.ref a1)])) _
    refine XS.aloadN X2.here hx rfl (hb hby d1_5) rfl rfl ?_
    show Steps p.tables e below (T2.setTop (mkF m 6 #[.val (.ref a1), .val (.ref ps), .val (.ref pa), .val (.ref pb), .val (.double pz), .second, .val (.double pp), .second] [(.ref ps), (.ref a1)])) _
    exact k)
  obtain ⟨T5, h5, X5, e5, W5, st5⟩ := putF X2 hx hZ hown (host := "") (Or.inl (hw _ (List.mem_of_getElem? (i := 17) rfl))) Via.refl e2 F_0 E_a1 (Or.inr ⟨(hw _ (List.mem_of_getElem? (i := 18) rfl)), rfl, hnaM⟩) (hw _ (List.mem_of_getElem? (i := 1) rfl)) (ty := (.object "java/lang/String")) (by decide) rfl rfl (g := (mkF m 6 #[.val (.ref a1), .val (.ref ps), .val (.ref pa), .val (.ref pb), .val (.double pz), .second, .val (.double pp), .second] [(.ref ps), (.ref a1)])) rfl rfl (hb hby d1_6)
  have F6 : Fld Z h5 a1 "com/example/detectability/detectability/ComparedProtein" "name" "Ljava/lang/String;" (.ref ps) := F_0.same W5
  have F7 : Exa Z h5 a1 "com/example/detectability/detectability/ComparedProtein" := (E_a1.wr W5)
  have F8 : Fld Z h5 a1 "com/example/detectability/detectability/ComparedProtein" "inA" "Lcom/example/detectability/detectability/ProteinAbundance;" .null := (F_1.other W5 (Or.inr (slot_ne (Or.inr (hw _ (List.mem_of_getElem? (i := 20) rfl))) (Or.inr (hw _ (List.mem_of_getElem? (i := 18) rfl))) (by decide) (t := (.object "com/example/detectability/detectability/ProteinAbundance")) (t' := (.object "java/lang/String")) (by decide) (by decide))))
  have F9 : Fld Z h5 a1 "com/example/detectability/detectability/ComparedProtein" "inB" "Lcom/example/detectability/detectability/ProteinAbundance;" .null := (F_2.other W5 (Or.inr (slot_ne (Or.inr (hw _ (List.mem_of_getElem? (i := 22) rfl))) (Or.inr (hw _ (List.mem_of_getElem? (i := 18) rfl))) (by decide) (t := (.object "com/example/detectability/detectability/ProteinAbundance")) (t' := (.object "java/lang/String")) (by decide) (by decide))))
  have F10 : Fld Z h5 a1 "com/example/detectability/detectability/ComparedProtein" "z" "D" (.double (0 : UInt64)) := (F_3.other W5 (Or.inr (slot_ne (Or.inr (hw _ (List.mem_of_getElem? (i := 24) rfl))) (Or.inr (hw _ (List.mem_of_getElem? (i := 18) rfl))) (by decide) (t := .double) (t' := (.object "java/lang/String")) (by decide) (by decide))))
  have F11 : Fld Z h5 a1 "com/example/detectability/detectability/ComparedProtein" "p" "D" (.double (0 : UInt64)) := (F_4.other W5 (Or.inr (slot_ne (Or.inr (hw _ (List.mem_of_getElem? (i := 26) rfl))) (Or.inr (hw _ (List.mem_of_getElem? (i := 18) rfl))) (by decide) (t := .double) (t' := (.object "java/lang/String")) (by decide) (by decide))))
  have N5 := Fr.snoc X5 N0 g_a1
  have K12 : Keep h0 h5 [a1] := K0.wr W5 (Or.inl (List.mem_of_getElem? (i := 0) rfl))
  have c13 : ∀ t, Steps p.tables e below (T5.setTop (mkF m 9 #[.val (.ref a1), .val (.ref ps), .val (.ref pa), .val (.ref pb), .val (.double pz), .second, .val (.double pp), .second] [])) t → Steps p.tables e below (s₁.setTop (entryFrame m #[(.ref a1), (.ref ps), (.ref pa), (.ref pb), (.double pz), (.double pp)] 8)) t := fun t k => c4 t (st5 _ k)
  have c14 : ∀ t, Steps p.tables e below (T5.setTop (mkF m 11 #[.val (.ref a1), .val (.ref ps), .val (.ref pa), .val (.ref pb), .val (.double pz), .second, .val (.double pp), .second] [(.ref pa), (.ref a1)])) t → Steps p.tables e below (s₁.setTop (entryFrame m #[(.ref a1), (.ref ps), (.ref pa), (.ref pb), (.double pz), (.double pp)] 8)) t := fun t k => c13 t (by
    show Steps p.tables e below (T5.setTop (mkF m 9 #[.val (.ref a1), .val (.ref ps), .val (.ref pa), .val (.ref pb), .val (.double pz), .second, .val (.double pp), .second] [])) _
    refine XS.aloadN X5.here hx rfl (hb hby d1_9) rfl rfl ?_
    show Steps p.tables e below (T5.setTop (mkF m 10 #[.val (.ref a1), .val (.ref ps), .val (.ref pa), .val (.ref pb), .val (.double pz), .second, .val (.double pp), .second] [(.ref a1)])) _
    refine XS.aloadN X5.here hx rfl (hb hby d1_10) rfl rfl ?_
    show Steps p.tables e below (T5.setTop (mkF m 11 #[.val (.ref a1), .val (.ref ps), .val (.ref pa), .val (.ref pb), .val (.double pz), .second, .val (.double pp), .second] [(.ref pa), (.ref a1)])) _
    exact k)
  obtain ⟨T15, h15, X15, e15, W15, st15⟩ := putF X5 hx hZ hown (host := "") (Or.inl (hw _ (List.mem_of_getElem? (i := 19) rfl))) Via.refl e5 F8 F7 (Or.inr ⟨(hw _ (List.mem_of_getElem? (i := 20) rfl)), rfl, hnaM⟩) (hw _ (List.mem_of_getElem? (i := 1) rfl)) (ty := (.object "com/example/detectability/detectability/ProteinAbundance")) (by decide) rfl rfl (g := (mkF m 11 #[.val (.ref a1), .val (.ref ps), .val (.ref pa), .val (.ref pb), .val (.double pz), .second, .val (.double pp), .second] [(.ref pa), (.ref a1)])) rfl rfl (hb hby d1_11)
  have F16 : Fld Z h15 a1 "com/example/detectability/detectability/ComparedProtein" "inA" "Lcom/example/detectability/detectability/ProteinAbundance;" (.ref pa) := F8.same W15
  have F17 : Exa Z h15 a1 "com/example/detectability/detectability/ComparedProtein" := (F7.wr W15)
  have F18 : Fld Z h15 a1 "com/example/detectability/detectability/ComparedProtein" "name" "Ljava/lang/String;" (.ref ps) := (F6.other W15 (Or.inr (slot_ne (Or.inr (hw _ (List.mem_of_getElem? (i := 18) rfl))) (Or.inr (hw _ (List.mem_of_getElem? (i := 20) rfl))) (by decide) (t := (.object "java/lang/String")) (t' := (.object "com/example/detectability/detectability/ProteinAbundance")) (by decide) (by decide))))
  have F19 : Fld Z h15 a1 "com/example/detectability/detectability/ComparedProtein" "inB" "Lcom/example/detectability/detectability/ProteinAbundance;" .null := (F9.other W15 (Or.inr (slot_ne (Or.inr (hw _ (List.mem_of_getElem? (i := 22) rfl))) (Or.inr (hw _ (List.mem_of_getElem? (i := 20) rfl))) (by decide) (t := (.object "com/example/detectability/detectability/ProteinAbundance")) (t' := (.object "com/example/detectability/detectability/ProteinAbundance")) (by decide) (by decide))))
  have F20 : Fld Z h15 a1 "com/example/detectability/detectability/ComparedProtein" "z" "D" (.double (0 : UInt64)) := (F10.other W15 (Or.inr (slot_ne (Or.inr (hw _ (List.mem_of_getElem? (i := 24) rfl))) (Or.inr (hw _ (List.mem_of_getElem? (i := 20) rfl))) (by decide) (t := .double) (t' := (.object "com/example/detectability/detectability/ProteinAbundance")) (by decide) (by decide))))
  have F21 : Fld Z h15 a1 "com/example/detectability/detectability/ComparedProtein" "p" "D" (.double (0 : UInt64)) := (F11.other W15 (Or.inr (slot_ne (Or.inr (hw _ (List.mem_of_getElem? (i := 26) rfl))) (Or.inr (hw _ (List.mem_of_getElem? (i := 20) rfl))) (by decide) (t := .double) (t' := (.object "com/example/detectability/detectability/ProteinAbundance")) (by decide) (by decide))))
  have N15 := Fr.snoc X15 N5 g_a1
  have K22 : Keep h0 h15 [a1] := K12.wr W15 (Or.inl (List.mem_of_getElem? (i := 0) rfl))
  have c23 : ∀ t, Steps p.tables e below (T15.setTop (mkF m 14 #[.val (.ref a1), .val (.ref ps), .val (.ref pa), .val (.ref pb), .val (.double pz), .second, .val (.double pp), .second] [])) t → Steps p.tables e below (s₁.setTop (entryFrame m #[(.ref a1), (.ref ps), (.ref pa), (.ref pb), (.double pz), (.double pp)] 8)) t := fun t k => c14 t (st15 _ k)
  have c24 : ∀ t, Steps p.tables e below (T15.setTop (mkF m 16 #[.val (.ref a1), .val (.ref ps), .val (.ref pa), .val (.ref pb), .val (.double pz), .second, .val (.double pp), .second] [(.ref pb), (.ref a1)])) t → Steps p.tables e below (s₁.setTop (entryFrame m #[(.ref a1), (.ref ps), (.ref pa), (.ref pb), (.double pz), (.double pp)] 8)) t := fun t k => c23 t (by
    show Steps p.tables e below (T15.setTop (mkF m 14 #[.val (.ref a1), .val (.ref ps), .val (.ref pa), .val (.ref pb), .val (.double pz), .second, .val (.double pp), .second] [])) _
    refine XS.aloadN X15.here hx rfl (hb hby d1_14) rfl rfl ?_
    show Steps p.tables e below (T15.setTop (mkF m 15 #[.val (.ref a1), .val (.ref ps), .val (.ref pa), .val (.ref pb), .val (.double pz), .second, .val (.double pp), .second] [(.ref a1)])) _
    refine XS.aloadN X15.here hx rfl (hb hby d1_15) rfl rfl ?_
    show Steps p.tables e below (T15.setTop (mkF m 16 #[.val (.ref a1), .val (.ref ps), .val (.ref pa), .val (.ref pb), .val (.double pz), .second, .val (.double pp), .second] [(.ref pb), (.ref a1)])) _
    exact k)
  obtain ⟨T25, h25, X25, e25, W25, st25⟩ := putF X15 hx hZ hown (host := "") (Or.inl (hw _ (List.mem_of_getElem? (i := 21) rfl))) Via.refl e15 F19 F17 (Or.inr ⟨(hw _ (List.mem_of_getElem? (i := 22) rfl)), rfl, hnaM⟩) (hw _ (List.mem_of_getElem? (i := 1) rfl)) (ty := (.object "com/example/detectability/detectability/ProteinAbundance")) (by decide) rfl rfl (g := (mkF m 16 #[.val (.ref a1), .val (.ref ps), .val (.ref pa), .val (.ref pb), .val (.double pz), .second, .val (.double pp), .second] [(.ref pb), (.ref a1)])) rfl rfl (hb hby d1_16)
  have F26 : Fld Z h25 a1 "com/example/detectability/detectability/ComparedProtein" "inB" "Lcom/example/detectability/detectability/ProteinAbundance;" (.ref pb) := F19.same W25
  have F27 : Exa Z h25 a1 "com/example/detectability/detectability/ComparedProtein" := (F17.wr W25)
  have F28 : Fld Z h25 a1 "com/example/detectability/detectability/ComparedProtein" "name" "Ljava/lang/String;" (.ref ps) := (F18.other W25 (Or.inr (slot_ne (Or.inr (hw _ (List.mem_of_getElem? (i := 18) rfl))) (Or.inr (hw _ (List.mem_of_getElem? (i := 22) rfl))) (by decide) (t := (.object "java/lang/String")) (t' := (.object "com/example/detectability/detectability/ProteinAbundance")) (by decide) (by decide))))
  have F29 : Fld Z h25 a1 "com/example/detectability/detectability/ComparedProtein" "inA" "Lcom/example/detectability/detectability/ProteinAbundance;" (.ref pa) := (F16.other W25 (Or.inr (slot_ne (Or.inr (hw _ (List.mem_of_getElem? (i := 20) rfl))) (Or.inr (hw _ (List.mem_of_getElem? (i := 22) rfl))) (by decide) (t := (.object "com/example/detectability/detectability/ProteinAbundance")) (t' := (.object "com/example/detectability/detectability/ProteinAbundance")) (by decide) (by decide))))
  have F30 : Fld Z h25 a1 "com/example/detectability/detectability/ComparedProtein" "z" "D" (.double (0 : UInt64)) := (F20.other W25 (Or.inr (slot_ne (Or.inr (hw _ (List.mem_of_getElem? (i := 24) rfl))) (Or.inr (hw _ (List.mem_of_getElem? (i := 22) rfl))) (by decide) (t := .double) (t' := (.object "com/example/detectability/detectability/ProteinAbundance")) (by decide) (by decide))))
  have F31 : Fld Z h25 a1 "com/example/detectability/detectability/ComparedProtein" "p" "D" (.double (0 : UInt64)) := (F21.other W25 (Or.inr (slot_ne (Or.inr (hw _ (List.mem_of_getElem? (i := 26) rfl))) (Or.inr (hw _ (List.mem_of_getElem? (i := 22) rfl))) (by decide) (t := .double) (t' := (.object "com/example/detectability/detectability/ProteinAbundance")) (by decide) (by decide))))
  have N25 := Fr.snoc X25 N15 g_a1
  have K32 : Keep h0 h25 [a1] := K22.wr W25 (Or.inl (List.mem_of_getElem? (i := 0) rfl))
  have c33 : ∀ t, Steps p.tables e below (T25.setTop (mkF m 19 #[.val (.ref a1), .val (.ref ps), .val (.ref pa), .val (.ref pb), .val (.double pz), .second, .val (.double pp), .second] [])) t → Steps p.tables e below (s₁.setTop (entryFrame m #[(.ref a1), (.ref ps), (.ref pa), (.ref pb), (.double pz), (.double pp)] 8)) t := fun t k => c24 t (st25 _ k)
  have c34 : ∀ t, Steps p.tables e below (T25.setTop (mkF m 22 #[.val (.ref a1), .val (.ref ps), .val (.ref pa), .val (.ref pb), .val (.double pz), .second, .val (.double pp), .second] [(.double pz), (.ref a1)])) t → Steps p.tables e below (s₁.setTop (entryFrame m #[(.ref a1), (.ref ps), (.ref pa), (.ref pb), (.double pz), (.double pp)] 8)) t := fun t k => c33 t (by
    show Steps p.tables e below (T25.setTop (mkF m 19 #[.val (.ref a1), .val (.ref ps), .val (.ref pa), .val (.ref pb), .val (.double pz), .second, .val (.double pp), .second] [])) _
    refine XS.aloadN X25.here hx rfl (hb hby d1_19) rfl rfl ?_
    show Steps p.tables e below (T25.setTop (mkF m 20 #[.val (.ref a1), .val (.ref ps), .val (.ref pa), .val (.ref pb), .val (.double pz), .second, .val (.double pp), .second] [(.ref a1)])) _
    refine XS.dload X25.here hx rfl (hb hby d1_20) rfl ?_
    show Steps p.tables e below (T25.setTop (mkF m 22 #[.val (.ref a1), .val (.ref ps), .val (.ref pa), .val (.ref pb), .val (.double pz), .second, .val (.double pp), .second] [(.double pz), (.ref a1)])) _
    exact k)
  obtain ⟨T35, h35, X35, e35, W35, st35⟩ := putF X25 hx hZ hown (host := "") (Or.inl (hw _ (List.mem_of_getElem? (i := 23) rfl))) Via.refl e25 F30 F27 (Or.inr ⟨(hw _ (List.mem_of_getElem? (i := 24) rfl)), rfl, hnaM⟩) (hw _ (List.mem_of_getElem? (i := 1) rfl)) (ty := .double) (by decide) rfl rfl (g := (mkF m 22 #[.val (.ref a1), .val (.ref ps), .val (.ref pa), .val (.ref pb), .val (.double pz), .second, .val (.double pp), .second] [(.double pz), (.ref a1)])) rfl rfl (hb hby d1_22)
  have F36 : Fld Z h35 a1 "com/example/detectability/detectability/ComparedProtein" "z" "D" (.double pz) := F30.same W35
  have F37 : Exa Z h35 a1 "com/example/detectability/detectability/ComparedProtein" := (F27.wr W35)
  have F38 : Fld Z h35 a1 "com/example/detectability/detectability/ComparedProtein" "name" "Ljava/lang/String;" (.ref ps) := (F28.other W35 (Or.inr (slot_ne (Or.inr (hw _ (List.mem_of_getElem? (i := 18) rfl))) (Or.inr (hw _ (List.mem_of_getElem? (i := 24) rfl))) (by decide) (t := (.object "java/lang/String")) (t' := .double) (by decide) (by decide))))
  have F39 : Fld Z h35 a1 "com/example/detectability/detectability/ComparedProtein" "inA" "Lcom/example/detectability/detectability/ProteinAbundance;" (.ref pa) := (F29.other W35 (Or.inr (slot_ne (Or.inr (hw _ (List.mem_of_getElem? (i := 20) rfl))) (Or.inr (hw _ (List.mem_of_getElem? (i := 24) rfl))) (by decide) (t := (.object "com/example/detectability/detectability/ProteinAbundance")) (t' := .double) (by decide) (by decide))))
  have F40 : Fld Z h35 a1 "com/example/detectability/detectability/ComparedProtein" "inB" "Lcom/example/detectability/detectability/ProteinAbundance;" (.ref pb) := (F26.other W35 (Or.inr (slot_ne (Or.inr (hw _ (List.mem_of_getElem? (i := 22) rfl))) (Or.inr (hw _ (List.mem_of_getElem? (i := 24) rfl))) (by decide) (t := (.object "com/example/detectability/detectability/ProteinAbundance")) (t' := .double) (by decide) (by decide))))
  have F41 : Fld Z h35 a1 "com/example/detectability/detectability/ComparedProtein" "p" "D" (.double (0 : UInt64)) := (F31.other W35 (Or.inr (slot_ne (Or.inr (hw _ (List.mem_of_getElem? (i := 26) rfl))) (Or.inr (hw _ (List.mem_of_getElem? (i := 24) rfl))) (by decide) (t := .double) (t' := .double) (by decide) (by decide))))
  have N35 := Fr.snoc X35 N25 g_a1
  have K42 : Keep h0 h35 [a1] := K32.wr W35 (Or.inl (List.mem_of_getElem? (i := 0) rfl))
  have c43 : ∀ t, Steps p.tables e below (T35.setTop (mkF m 25 #[.val (.ref a1), .val (.ref ps), .val (.ref pa), .val (.ref pb), .val (.double pz), .second, .val (.double pp), .second] [])) t → Steps p.tables e below (s₁.setTop (entryFrame m #[(.ref a1), (.ref ps), (.ref pa), (.ref pb), (.double pz), (.double pp)] 8)) t := fun t k => c34 t (st35 _ k)
  have c44 : ∀ t, Steps p.tables e below (T35.setTop (mkF m 28 #[.val (.ref a1), .val (.ref ps), .val (.ref pa), .val (.ref pb), .val (.double pz), .second, .val (.double pp), .second] [(.double pp), (.ref a1)])) t → Steps p.tables e below (s₁.setTop (entryFrame m #[(.ref a1), (.ref ps), (.ref pa), (.ref pb), (.double pz), (.double pp)] 8)) t := fun t k => c43 t (by
    show Steps p.tables e below (T35.setTop (mkF m 25 #[.val (.ref a1), .val (.ref ps), .val (.ref pa), .val (.ref pb), .val (.double pz), .second, .val (.double pp), .second] [])) _
    refine XS.aloadN X35.here hx rfl (hb hby d1_25) rfl rfl ?_
    show Steps p.tables e below (T35.setTop (mkF m 26 #[.val (.ref a1), .val (.ref ps), .val (.ref pa), .val (.ref pb), .val (.double pz), .second, .val (.double pp), .second] [(.ref a1)])) _
    refine XS.dload X35.here hx rfl (hb hby d1_26) rfl ?_
    show Steps p.tables e below (T35.setTop (mkF m 28 #[.val (.ref a1), .val (.ref ps), .val (.ref pa), .val (.ref pb), .val (.double pz), .second, .val (.double pp), .second] [(.double pp), (.ref a1)])) _
    exact k)
  obtain ⟨T45, h45, X45, e45, W45, st45⟩ := putF X35 hx hZ hown (host := "") (Or.inl (hw _ (List.mem_of_getElem? (i := 25) rfl))) Via.refl e35 F41 F37 (Or.inr ⟨(hw _ (List.mem_of_getElem? (i := 26) rfl)), rfl, hnaM⟩) (hw _ (List.mem_of_getElem? (i := 1) rfl)) (ty := .double) (by decide) rfl rfl (g := (mkF m 28 #[.val (.ref a1), .val (.ref ps), .val (.ref pa), .val (.ref pb), .val (.double pz), .second, .val (.double pp), .second] [(.double pp), (.ref a1)])) rfl rfl (hb hby d1_28)
  have F46 : Fld Z h45 a1 "com/example/detectability/detectability/ComparedProtein" "p" "D" (.double pp) := F41.same W45
  have F47 : Exa Z h45 a1 "com/example/detectability/detectability/ComparedProtein" := (F37.wr W45)
  have F48 : Fld Z h45 a1 "com/example/detectability/detectability/ComparedProtein" "name" "Ljava/lang/String;" (.ref ps) := (F38.other W45 (Or.inr (slot_ne (Or.inr (hw _ (List.mem_of_getElem? (i := 18) rfl))) (Or.inr (hw _ (List.mem_of_getElem? (i := 26) rfl))) (by decide) (t := (.object "java/lang/String")) (t' := .double) (by decide) (by decide))))
  have F49 : Fld Z h45 a1 "com/example/detectability/detectability/ComparedProtein" "inA" "Lcom/example/detectability/detectability/ProteinAbundance;" (.ref pa) := (F39.other W45 (Or.inr (slot_ne (Or.inr (hw _ (List.mem_of_getElem? (i := 20) rfl))) (Or.inr (hw _ (List.mem_of_getElem? (i := 26) rfl))) (by decide) (t := (.object "com/example/detectability/detectability/ProteinAbundance")) (t' := .double) (by decide) (by decide))))
  have F50 : Fld Z h45 a1 "com/example/detectability/detectability/ComparedProtein" "inB" "Lcom/example/detectability/detectability/ProteinAbundance;" (.ref pb) := (F40.other W45 (Or.inr (slot_ne (Or.inr (hw _ (List.mem_of_getElem? (i := 22) rfl))) (Or.inr (hw _ (List.mem_of_getElem? (i := 26) rfl))) (by decide) (t := (.object "com/example/detectability/detectability/ProteinAbundance")) (t' := .double) (by decide) (by decide))))
  have F51 : Fld Z h45 a1 "com/example/detectability/detectability/ComparedProtein" "z" "D" (.double pz) := (F36.other W45 (Or.inr (slot_ne (Or.inr (hw _ (List.mem_of_getElem? (i := 24) rfl))) (Or.inr (hw _ (List.mem_of_getElem? (i := 26) rfl))) (by decide) (t := .double) (t' := .double) (by decide) (by decide))))
  have N45 := Fr.snoc X45 N35 g_a1
  have K52 : Keep h0 h45 [a1] := K42.wr W45 (Or.inl (List.mem_of_getElem? (i := 0) rfl))
  have c53 : ∀ t, Steps p.tables e below (T45.setTop (mkF m 31 #[.val (.ref a1), .val (.ref ps), .val (.ref pa), .val (.ref pb), .val (.double pz), .second, .val (.double pp), .second] [])) t → Steps p.tables e below (s₁.setTop (entryFrame m #[(.ref a1), (.ref ps), (.ref pa), (.ref pb), (.double pz), (.double pp)] 8)) t := fun t k => c44 t (st45 _ k)
  obtain ⟨fs, hr, hrun, hended, hW, hsame⟩ := X45.leave (v := none) (fun _ => rfl)
  refine ⟨_, _, pre0 _ (c53 _ (X45.returnOut hx Bd.returns (hb hby d1_31) hr)), hrun, hended, _, _, rfl, ?_, ⟨_, rfl⟩, hW, hsame.mono (by decide) (by decide)⟩
  show Q_ci11 Z a1 ps pa pb pz pp h0 n0 _ T45.heap _
  rw [e45]
  exact ⟨rfl, N45, K52, F47, F48, F49, F50, F51, F46⟩
theorem d3_0 : decode prog_4_method_4_code 0 = .ok (.aload_n 0, 1) := by decide +kernel
theorem d3_1 : decode prog_4_method_4_code 1 = .ok (.getfield 17, 3) := by decide +kernel
theorem d3_4 : decode prog_4_method_4_code 4 = .ok (.ifnonnull 7, 3) := by decide +kernel
theorem d3_7 : decode prog_4_method_4_code 7 = .ok (.lconst 0, 1) := by decide +kernel
theorem d3_8 : decode prog_4_method_4_code 8 = .ok (.goto 10, 3) := by decide +kernel
theorem d3_18 : decode prog_4_method_4_code 18 = .ok (.lreturn, 1) := by decide +kernel
theorem ef_cg0 (m : MethodId) (a1 : Addr) : entryFrame m #[(.ref a1)] 1 = (mkF m 0 #[.val (.ref a1)] []) := by first | (simp [entryFrame, mkF, argsToLocals, Value.category]; done) | rfl
def Q_cg0 (Z : State) (a1 : Addr) (h0 : Heap) (n0 : Nat) (v : Option Value) (h : Heap) (L : List Loc) : Prop := v = some (.long 0) ∧ Fr n0 L ∧ h = h0
set_option maxRecDepth 65536 in
set_option maxHeartbeats 2000000 in
theorem rm_cg0 (l : Launch) (Z : State) (a0 : Array Value) (hw : ∀ d ∈ tables_1, d.before a0 Z = true) (ws : List Jvm.Cond) (a1 : Addr) (h0 : Heap) (n0 : Nat) (Z0 : n0 ≤ h0.size) (G_0 : Fld Z h0 a1 "com/example/detectability/detectability/ComparedProtein" "inB" "Lcom/example/detectability/detectability/ProteinAbundance;" .null) :
    MetFree l (⟨"com/example/detectability/detectability/ComparedProtein", "getSpectraB", "()J"⟩ : MethodName) (head1 (Jvm.Cond.code (⟨"com/example/detectability/detectability/ComparedProtein", "getSpectraB", "()J"⟩ : MethodName) prog_4_method_4_code 1 (some .long) :: ws) ({ frames := 1, cells := 0, slots := 0, locals := 12 } : Room)) (fun aa UU => aa = #[(.ref a1)] ∧ Z.Warmed39 UU.vm ∧ UU.heap = h0) (fun _ _ _ _ _ => True) (fun _ UU oo UU' => ∃ v L, oo = .returned v ∧ Q_cg0 Z a1 h0 n0 v UU'.heap L ∧ FrameEnd UU oo UU' L ({ frames := 1, cells := 0, slots := 0, locals := 12 } : Room).cells ({ frames := 1, cells := 0, slots := 0, locals := 12 } : Room).slots) := by
  refine MetFree.of_bodySF (plainFor_of_name pn_com_example_detectability_detectability_ComparedProtein) hisR ?_
  intro p e s m args below meth c s₁ Bd hml0 hP hK
  obtain ⟨rfl, hZ, hh⟩ := hP
  have hx := Bd.exec
  have hby := Bd.bytes
  have hml : c.maxLocals = 1 := hml0
  have hown : s.vm.findClass "com/example/detectability/detectability/ComparedProtein" = some m.cls := findClass_of_methodNamed Bd.named
  have hnaM := (name_of_methodNamed Bd.named Bd.method).1
  have X0 : Stand p l e ({ frames := 1, cells := 0, slots := 0, locals := 12 } : Room) s m #[(.ref a1)] below meth c s₁ [] 0 0 := Stand.of_body Bd
  have e0 : s₁.heap = h0 := by rw [← hh, Bd.state]; rfl
  have N0 := Fr.nil n0
  have pre0 : ∀ t, Steps p.tables e below (s₁.setTop (entryFrame m #[(.ref a1)] 1)) t → Steps p.tables e below (s₁.setTop (entryFrame m #[(.ref a1)] 1)) t := fun t k => k
  have c0 : ∀ t, Steps p.tables e below (s₁.setTop (mkF m 0 #[.val (.ref a1)] [])) t → Steps p.tables e below (s₁.setTop (entryFrame m #[(.ref a1)] 1)) t := fun t k => castTop (ef_cg0 m a1) k
  have c1 : ∀ t, Steps p.tables e below (s₁.setTop (mkF m 1 #[.val (.ref a1)] [(.ref a1)])) t → Steps p.tables e below (s₁.setTop (entryFrame m #[(.ref a1)] 1)) t := fun t k => c0 t (by
    show Steps p.tables e below (s₁.setTop (mkF m 0 #[.val (.ref a1)] [])) _
    refine XS.aloadN X0.here hx rfl (hb hby d3_0) rfl rfl ?_
    show Steps p.tables e below (s₁.setTop (mkF m 1 #[.val (.ref a1)] [(.ref a1)])) _
    exact k)
  obtain ⟨T2, X2, e2, st2⟩ := getF X0 hx hZ hown (host := "") (Or.inl (hw _ (List.mem_of_getElem? (i := 21) rfl))) Via.refl e0 G_0 (g := (mkF m 1 #[.val (.ref a1)] [(.ref a1)])) rfl rfl (hb hby d3_1)
  have c3 : ∀ t, Steps p.tables e below (T2.setTop (mkF m 4 #[.val (.ref a1)] [.null])) t → Steps p.tables e below (s₁.setTop (entryFrame m #[(.ref a1)] 1)) t := fun t k => c1 t (st2 _ k)
  have c4 : ∀ t, Steps p.tables e below (T2.setTop (mkF m 18 #[.val (.ref a1)] [(.long (0 : Int64))])) t → Steps p.tables e below (s₁.setTop (entryFrame m #[(.ref a1)] 1)) t := fun t k => c3 t (by
    show Steps p.tables e below (T2.setTop (mkF m 4 #[.val (.ref a1)] [.null])) _
    refine XT.ifnonnullNo X2.here hx rfl (hb hby d3_4) rfl ?_
    show Steps p.tables e below (T2.setTop (mkF m 7 #[.val (.ref a1)] [])) _
    refine XT.lconst X2.here hx rfl (hb hby d3_7) ?_
    show Steps p.tables e below (T2.setTop (mkF m 8 #[.val (.ref a1)] [(.long (0 : Int64))])) _
    refine XS.goto X2.here hx rfl (pc0 := 8) (pc' := 18) rfl (hb hby d3_8) (by decide) (by decide) ?_
    show Steps p.tables e below (T2.setTop (mkF m 18 #[.val (.ref a1)] [(.long (0 : Int64))])) _
    exact k)
  obtain ⟨fs, hr, hrun, hended, hW, hsame⟩ := X2.leave (v := (some (.long (0 : Int64)))) (fun h => by rw [Bd.returns] at h; cases h)
  refine ⟨_, _, pre0 _ (c4 _ (retOut X2 hx (t := .long) (i := .lreturn) Bd.returns rfl (Or.inr (Or.inl ⟨rfl, rfl, _, rfl⟩)) (hb hby d3_18) hr)), hrun, hended, _, _, rfl, ?_, ⟨_, rfl⟩, hW, hsame.mono (by decide) (by decide)⟩
  show Q_cg0 Z a1 h0 n0 _ T2.heap _
  rw [e2]
  exact ⟨rfl, N0, rfl⟩
theorem d3_11 : decode prog_4_method_4_code 11 = .ok (.aload_n 0, 1) := by decide +kernel
theorem d3_12 : decode prog_4_method_4_code 12 = .ok (.getfield 17, 3) := by decide +kernel
theorem d3_15 : decode prog_4_method_4_code 15 = .ok (.invokevirtual 27, 3) := by decide +kernel
theorem ef_cg1 (m : MethodId) (a1 : Addr) (pb : Addr) (pj : Int64) : entryFrame m #[(.ref a1)] 1 = (mkF m 0 #[.val (.ref a1)] []) := by first | (simp [entryFrame, mkF, argsToLocals, Value.category]; done) | rfl
def Q_cg1 (Z : State) (a1 : Addr) (pb : Addr) (pj : Int64) (h0 : Heap) (n0 : Nat) (v : Option Value) (h : Heap) (L : List Loc) : Prop := v = some (.long pj) ∧ Fr n0 L ∧ h = h0
set_option maxRecDepth 65536 in
set_option maxHeartbeats 2000000 in
theorem rm_cg1 (l : Launch) (Z : State) (a0 : Array Value) (hw : ∀ d ∈ tables_1, d.before a0 Z = true) (ws : List Jvm.Cond) (a1 : Addr) (pb : Addr) (pj : Int64) (h0 : Heap) (n0 : Nat) (Z0 : n0 ≤ h0.size) (G_0 : Fld Z h0 a1 "com/example/detectability/detectability/ComparedProtein" "inB" "Lcom/example/detectability/detectability/ProteinAbundance;" (.ref pb)) (E_pb : Exa Z h0 pb "com/example/detectability/detectability/ProteinAbundance") (G_1 : Fld Z h0 pb "com/example/detectability/detectability/ProteinAbundance" "spectra" "J" (.long pj)) :
    MetFree l (⟨"com/example/detectability/detectability/ComparedProtein", "getSpectraB", "()J"⟩ : MethodName) (head1 (Jvm.Cond.code (⟨"com/example/detectability/detectability/ComparedProtein", "getSpectraB", "()J"⟩ : MethodName) prog_4_method_4_code 1 (some .long) :: ws) ({ frames := 1, cells := 0, slots := 0, locals := 12 } : Room)) (fun aa UU => aa = #[(.ref a1)] ∧ Z.Warmed39 UU.vm ∧ UU.heap = h0) (fun _ _ _ _ _ => True) (fun _ UU oo UU' => ∃ v L, oo = .returned v ∧ Q_cg1 Z a1 pb pj h0 n0 v UU'.heap L ∧ FrameEnd UU oo UU' L ({ frames := 1, cells := 0, slots := 0, locals := 12 } : Room).cells ({ frames := 1, cells := 0, slots := 0, locals := 12 } : Room).slots) := by
  refine MetFree.of_bodySF (plainFor_of_name pn_com_example_detectability_detectability_ComparedProtein) hisR ?_
  intro p e s m args below meth c s₁ Bd hml0 hP hK
  obtain ⟨rfl, hZ, hh⟩ := hP
  have hx := Bd.exec
  have hby := Bd.bytes
  have hml : c.maxLocals = 1 := hml0
  have hown : s.vm.findClass "com/example/detectability/detectability/ComparedProtein" = some m.cls := findClass_of_methodNamed Bd.named
  have hnaM := (name_of_methodNamed Bd.named Bd.method).1
  have X0 : Stand p l e ({ frames := 1, cells := 0, slots := 0, locals := 12 } : Room) s m #[(.ref a1)] below meth c s₁ [] 0 0 := Stand.of_body Bd
  have e0 : s₁.heap = h0 := by rw [← hh, Bd.state]; rfl
  have N0 := Fr.nil n0
  have pre0 : ∀ t, Steps p.tables e below (s₁.setTop (entryFrame m #[(.ref a1)] 1)) t → Steps p.tables e below (s₁.setTop (entryFrame m #[(.ref a1)] 1)) t := fun t k => k
  have c0 : ∀ t, Steps p.tables e below (s₁.setTop (mkF m 0 #[.val (.ref a1)] [])) t → Steps p.tables e below (s₁.setTop (entryFrame m #[(.ref a1)] 1)) t := fun t k => castTop (ef_cg1 m a1 pb pj) k
  have c1 : ∀ t, Steps p.tables e below (s₁.setTop (mkF m 1 #[.val (.ref a1)] [(.ref a1)])) t → Steps p.tables e below (s₁.setTop (entryFrame m #[(.ref a1)] 1)) t := fun t k => c0 t (by
    show Steps p.tables e below (s₁.setTop (mkF m 0 #[.val (.ref a1)] [])) _
    refine XS.aloadN X0.here hx rfl (hb hby d3_0) rfl rfl ?_
    show Steps p.tables e below (s₁.setTop (mkF m 1 #[.val (.ref a1)] [(.ref a1)])) _
    exact k)
  obtain ⟨T2, X2, e2, st2⟩ := getF X0 hx hZ hown (host := "") (Or.inl (hw _ (List.mem_of_getElem? (i := 21) rfl))) Via.refl e0 G_0 (g := (mkF m 1 #[.val (.ref a1)] [(.ref a1)])) rfl rfl (hb hby d3_1)
  have c3 : ∀ t, Steps p.tables e below (T2.setTop (mkF m 4 #[.val (.ref a1)] [(.ref pb)])) t → Steps p.tables e below (s₁.setTop (entryFrame m #[(.ref a1)] 1)) t := fun t k => c1 t (st2 _ k)
  have c4 : ∀ t, Steps p.tables e below (T2.setTop (mkF m 12 #[.val (.ref a1)] [(.ref a1)])) t → Steps p.tables e below (s₁.setTop (entryFrame m #[(.ref a1)] 1)) t := fun t k => c3 t (by
    show Steps p.tables e below (T2.setTop (mkF m 4 #[.val (.ref a1)] [(.ref pb)])) _
    refine XT.ifnonnullYes X2.here hx rfl (pc0 := 4) (pc' := 11) rfl (hb hby d3_4) rfl (by decide) (by decide) ?_
    show Steps p.tables e below (T2.setTop (mkF m 11 #[.val (.ref a1)] [])) _
    refine XS.aloadN X2.here hx rfl (hb hby d3_11) rfl rfl ?_
    show Steps p.tables e below (T2.setTop (mkF m 12 #[.val (.ref a1)] [(.ref a1)])) _
    exact k)
  obtain ⟨T5, X5, e5, st5⟩ := getF X2 hx hZ hown (host := "") (Or.inl (hw _ (List.mem_of_getElem? (i := 21) rfl))) Via.refl e2 G_0 (g := (mkF m 12 #[.val (.ref a1)] [(.ref a1)])) rfl rfl (hb hby d3_12)
  have c6 : ∀ t, Steps p.tables e below (T5.setTop (mkF m 15 #[.val (.ref a1)] [(.ref pb)])) t → Steps p.tables e below (s₁.setTop (entryFrame m #[(.ref a1)] 1)) t := fun t k => c4 t (st5 _ k)
  obtain ⟨cq7, kq7, q7a, q7b, q7c⟩ := isOf hZ e5 E_pb
  obtain ⟨_, _, ⟨T7, L7, k7', n7⟩, -, X7, ⟨Lc7, hQ7, l7, y7, z7⟩, st7⟩ := X5.virtualBack hx (y := (⟨"com/example/detectability/detectability/ProteinAbundance", "getSpectra", "()J"⟩ : MethodName)) (z := (⟨"com/example/detectability/detectability/ProteinAbundance", "getSpectra", "()J"⟩ : MethodName)) hown (mvT hZ (hw _ (List.mem_of_getElem? (i := 45) rfl))) (mvT hZ (hw _ (List.mem_of_getElem? (i := 46) rfl))) (notFace_of_selects (args := #[]) (mvT hZ (hw _ (List.mem_of_getElem? (i := 48) rfl)))) (mvT hZ (hw _ (List.mem_of_getElem? (i := 48) rfl))) (mvT hZ (hw _ (List.mem_of_getElem? (i := 47) rfl))) (by decide) (backOf (W := 0) (rm_pg l Z a0 hw [] pb pj h0 n0 Z0 G_1) hZ (hw _ (List.mem_of_getElem? (i := 49) rfl)) (hw _ (List.mem_of_getElem? (i := 34) rfl)) (by decide) (by decide)) q7a q7c (g := (mkF m 15 #[.val (.ref a1)] [(.ref pb)])) rfl (by rw [hml]; rfl) (Steps.refl _) (argsL := []) (rest := []) (lenOf pd___J rfl) rfl (by show 2 * 0 + _ ≤ _; exact Nat.le_of_eq rfl) (hb hby d3_15) (fun _ _ => ⟨rfl, e5, (by decide : 0 + 0 ≤ _), (by decide : 0 + 0 ≤ _)⟩)
  dsimp only [Pt.U, Pt.locs, Pt.cells, Pt.slots] at X7 l7 y7 z7 st7 hQ7
  subst l7 y7 z7
  obtain ⟨rfl, N7, e7⟩ := hQ7
  have M7 := Fr.app N0 N7
  have c8 : ∀ t, Steps p.tables e below (T7.setTop (mkF m 18 #[.val (.ref a1)] [(.long pj)])) t → Steps p.tables e below (s₁.setTop (entryFrame m #[(.ref a1)] 1)) t := fun t k => c6 t (st7.trans k)
  obtain ⟨fs, hr, hrun, hended, hW, hsame⟩ := X7.leave (v := (some (.long pj))) (fun h => by rw [Bd.returns] at h; cases h)
  refine ⟨_, _, pre0 _ (c8 _ (retOut X7 hx (t := .long) (i := .lreturn) Bd.returns rfl (Or.inr (Or.inl ⟨rfl, rfl, _, rfl⟩)) (hb hby d3_18) hr)), hrun, hended, _, _, rfl, ?_, ⟨_, rfl⟩, hW, hsame.mono (by decide) (by decide)⟩
  show Q_cg1 Z a1 pb pj h0 n0 _ T7.heap _
  rw [e7]
  exact ⟨rfl, M7, rfl⟩
theorem ef_0 (m : MethodId) (sa : Int64) (sb : Int64) (fl : Int32) (p4 : Int32) (p5 : Int32) : entryFrame m #[(.long sa), (.long sb), (.int fl), (.int p4), (.int p5)] maxLocals = (mkF m 0 #[.val (.long sa), .second, .val (.long sb), .second, .val (.int fl), .val (.int p4), .val (.int p5), .unset, .unset, .unset, .unset, .unset, .unset, .unset] []) := by first | (simp [entryFrame, mkF, argsToLocals, Value.category, maxLocals]; done) | rfl
def Q_0 (Z : State) (sa : Int64) (sb : Int64) (fl : Int32) (p4 : Int32) (p5 : Int32) (h0 : Heap) (n0 : Nat) (v : Option Value) (h : Heap) (L : List Loc) : Prop := v = some (.int 1) ∧ Fr n0 L
set_option maxRecDepth 65536 in
set_option maxHeartbeats 2000000 in
theorem rm_0 (l : Launch) (Z : State) (a0 : Array Value) (hw : ∀ d ∈ tables_1, d.before a0 Z = true) (ws : List Jvm.Cond) (sa : Int64) (sb : Int64) (fl : Int32) (p4 : Int32) (p5 : Int32) (h0 : Heap) (n0 : Nat) (Z0 : n0 ≤ h0.size)  :
    MetFree l x (head1 (Jvm.Cond.code x code maxLocals ret :: ws) room_1) (fun aa UU => aa = #[(.long sa), (.long sb), (.int fl), (.int p4), (.int p5)] ∧ Z.Warmed39 UU.vm ∧ UU.heap = h0) (fun _ _ _ _ _ => True) (fun _ UU oo UU' => ∃ v L, oo = .returned v ∧ Q_0 Z sa sb fl p4 p5 h0 n0 v UU'.heap L ∧ ReturnedEndW UU oo UU' L 16 1152) := by
  refine MetFree.of_bodySF (plainFor_of_name pn_com_example_detectability_detectability_ComparedProteinGetSpectraBPinLaw) hisR ?_
  intro p e s m args below meth c s₁ Bd hml0 hP hK
  obtain ⟨rfl, hZ, hh⟩ := hP
  have hx := Bd.exec
  have hby := Bd.bytes
  have hml : c.maxLocals = 14 := hml0
  have hown : s.vm.findClass "com/example/detectability/detectability/ComparedProteinGetSpectraBPinLaw" = some m.cls := findClass_of_methodNamed Bd.named
  have hnaM := (name_of_methodNamed Bd.named Bd.method).1
  have X0 : Stand p l e room_1 s m #[(.long sa), (.long sb), (.int fl), (.int p4), (.int p5)] below meth c s₁ [] 0 0 := Stand.of_body Bd
  have e0 : s₁.heap = h0 := by rw [← hh, Bd.state]; rfl
  have N0 := Fr.nil n0
  have pre0 : ∀ t, Steps p.tables e below (s₁.setTop (entryFrame m #[(.long sa), (.long sb), (.int fl), (.int p4), (.int p5)] maxLocals)) t → Steps p.tables e below (s₁.setTop (entryFrame m #[(.long sa), (.long sb), (.int fl), (.int p4), (.int p5)] maxLocals)) t := fun t k => k
  have c0 : ∀ t, Steps p.tables e below (s₁.setTop (mkF m 0 #[.val (.long sa), .second, .val (.long sb), .second, .val (.int fl), .val (.int p4), .val (.int p5), .unset, .unset, .unset, .unset, .unset, .unset, .unset] [])) t → Steps p.tables e below (s₁.setTop (entryFrame m #[(.long sa), (.long sb), (.int fl), (.int p4), (.int p5)] maxLocals)) t := fun t k => castTop (ef_0 m sa sb fl p4 p5) k
  have c1 : ∀ t, Steps p.tables e below (s₁.setTop (mkF m 4 #[.val (.long sa), .second, .val (.long sb), .second, .val (.int fl), .val (.int p4), .val (.int p5), .unset, .unset, .unset, .unset, .unset, .unset, .unset] [(.int (fl &&& (1 : Int32)))])) t → Steps p.tables e below (s₁.setTop (entryFrame m #[(.long sa), (.long sb), (.int fl), (.int p4), (.int p5)] maxLocals)) t := fun t k => c0 t (by
    show Steps p.tables e below (s₁.setTop (mkF m 0 #[.val (.long sa), .second, .val (.long sb), .second, .val (.int fl), .val (.int p4), .val (.int p5), .unset, .unset, .unset, .unset, .unset, .unset, .unset] [])) _
    refine XS.iload X0.here hx rfl (hb hby at_0) rfl ?_
    show Steps p.tables e below (s₁.setTop (mkF m 2 #[.val (.long sa), .second, .val (.long sb), .second, .val (.int fl), .val (.int p4), .val (.int p5), .unset, .unset, .unset, .unset, .unset, .unset, .unset] [(.int fl)])) _
    refine XS.iconst X0.here hx rfl (hb hby at_2) ?_
    show Steps p.tables e below (s₁.setTop (mkF m 3 #[.val (.long sa), .second, .val (.long sb), .second, .val (.int fl), .val (.int p4), .val (.int p5), .unset, .unset, .unset, .unset, .unset, .unset, .unset] [(.int (1 : Int32)), (.int fl)])) _
    refine XS.iand X0.here hx rfl (hb hby at_3) rfl ?_
    show Steps p.tables e below (s₁.setTop (mkF m 4 #[.val (.long sa), .second, .val (.long sb), .second, .val (.int fl), .val (.int p4), .val (.int p5), .unset, .unset, .unset, .unset, .unset, .unset, .unset] [(.int (fl &&& (1 : Int32)))])) _
    exact k)
  by_cases qa : (fl &&& (1 : Int32)) = 0
  · skip
    have c2 : ∀ t, Steps p.tables e below (s₁.setTop (mkF m 18 #[.val (.long sa), .second, .val (.long sb), .second, .val (.int fl), .val (.int p4), .val (.int p5), .val (.int (0 : Int32)), .unset, .unset, .unset, .unset, .unset, .unset] [(.int (fl &&& (2 : Int32)))])) t → Steps p.tables e below (s₁.setTop (entryFrame m #[(.long sa), (.long sb), (.int fl), (.int p4), (.int p5)] maxLocals)) t := fun t k => c1 t (by
      show Steps p.tables e below (s₁.setTop (mkF m 4 #[.val (.long sa), .second, .val (.long sb), .second, .val (.int fl), .val (.int p4), .val (.int p5), .unset, .unset, .unset, .unset, .unset, .unset, .unset] [(.int (fl &&& (1 : Int32)))])) _
      refine XS.ifYes X0.here hx rfl (pc0 := 4) (pc' := 11) rfl (hb hby at_4) rfl (XT.i0_eq_t qa) (by decide) (by decide) ?_
      show Steps p.tables e below (s₁.setTop (mkF m 11 #[.val (.long sa), .second, .val (.long sb), .second, .val (.int fl), .val (.int p4), .val (.int p5), .unset, .unset, .unset, .unset, .unset, .unset, .unset] [])) _
      refine XS.iconst X0.here hx rfl (hb hby at_11) ?_
      show Steps p.tables e below (s₁.setTop (mkF m 12 #[.val (.long sa), .second, .val (.long sb), .second, .val (.int fl), .val (.int p4), .val (.int p5), .unset, .unset, .unset, .unset, .unset, .unset, .unset] [(.int (0 : Int32))])) _
      refine XS.istore X0.here hx rfl (hb hby at_12) rfl (l' := #[.val (.long sa), .second, .val (.long sb), .second, .val (.int fl), .val (.int p4), .val (.int p5), .val (.int (0 : Int32)), .unset, .unset, .unset, .unset, .unset, .unset]) rfl ?_
      show Steps p.tables e below (s₁.setTop (mkF m 14 #[.val (.long sa), .second, .val (.long sb), .second, .val (.int fl), .val (.int p4), .val (.int p5), .val (.int (0 : Int32)), .unset, .unset, .unset, .unset, .unset, .unset] [])) _
      refine XS.iload X0.here hx rfl (hb hby at_14) rfl ?_
      show Steps p.tables e below (s₁.setTop (mkF m 16 #[.val (.long sa), .second, .val (.long sb), .second, .val (.int fl), .val (.int p4), .val (.int p5), .val (.int (0 : Int32)), .unset, .unset, .unset, .unset, .unset, .unset] [(.int fl)])) _
      refine XS.iconst X0.here hx rfl (hb hby at_16) ?_
      show Steps p.tables e below (s₁.setTop (mkF m 17 #[.val (.long sa), .second, .val (.long sb), .second, .val (.int fl), .val (.int p4), .val (.int p5), .val (.int (0 : Int32)), .unset, .unset, .unset, .unset, .unset, .unset] [(.int (2 : Int32)), (.int fl)])) _
      refine XS.iand X0.here hx rfl (hb hby at_17) rfl ?_
      show Steps p.tables e below (s₁.setTop (mkF m 18 #[.val (.long sa), .second, .val (.long sb), .second, .val (.int fl), .val (.int p4), .val (.int p5), .val (.int (0 : Int32)), .unset, .unset, .unset, .unset, .unset, .unset] [(.int (fl &&& (2 : Int32)))])) _
      exact k)
    by_cases qb : (fl &&& (2 : Int32)) = 0
    · skip
      have c3 : ∀ t, Steps p.tables e below (s₁.setTop (mkF m 84 #[.val (.long sa), .second, .val (.long sb), .second, .val (.int fl), .val (.int p4), .val (.int p5), .val (.int (0 : Int32)), .val (.int (0 : Int32)), .val .null, .val .null, .unset, .unset, .unset] [])) t → Steps p.tables e below (s₁.setTop (entryFrame m #[(.long sa), (.long sb), (.int fl), (.int p4), (.int p5)] maxLocals)) t := fun t k => c2 t (by
        show Steps p.tables e below (s₁.setTop (mkF m 18 #[.val (.long sa), .second, .val (.long sb), .second, .val (.int fl), .val (.int p4), .val (.int p5), .val (.int (0 : Int32)), .unset, .unset, .unset, .unset, .unset, .unset] [(.int (fl &&& (2 : Int32)))])) _
        refine XS.ifYes X0.here hx rfl (pc0 := 18) (pc' := 25) rfl (hb hby at_18) rfl (XT.i0_eq_t qb) (by decide) (by decide) ?_
        show Steps p.tables e below (s₁.setTop (mkF m 25 #[.val (.long sa), .second, .val (.long sb), .second, .val (.int fl), .val (.int p4), .val (.int p5), .val (.int (0 : Int32)), .unset, .unset, .unset, .unset, .unset, .unset] [])) _
        refine XS.iconst X0.here hx rfl (hb hby at_25) ?_
        show Steps p.tables e below (s₁.setTop (mkF m 26 #[.val (.long sa), .second, .val (.long sb), .second, .val (.int fl), .val (.int p4), .val (.int p5), .val (.int (0 : Int32)), .unset, .unset, .unset, .unset, .unset, .unset] [(.int (0 : Int32))])) _
        refine XS.istore X0.here hx rfl (hb hby at_26) rfl (l' := #[.val (.long sa), .second, .val (.long sb), .second, .val (.int fl), .val (.int p4), .val (.int p5), .val (.int (0 : Int32)), .val (.int (0 : Int32)), .unset, .unset, .unset, .unset, .unset]) rfl ?_
        show Steps p.tables e below (s₁.setTop (mkF m 28 #[.val (.long sa), .second, .val (.long sb), .second, .val (.int fl), .val (.int p4), .val (.int p5), .val (.int (0 : Int32)), .val (.int (0 : Int32)), .unset, .unset, .unset, .unset, .unset] [])) _
        refine XS.iload X0.here hx rfl (hb hby at_28) rfl ?_
        show Steps p.tables e below (s₁.setTop (mkF m 30 #[.val (.long sa), .second, .val (.long sb), .second, .val (.int fl), .val (.int p4), .val (.int p5), .val (.int (0 : Int32)), .val (.int (0 : Int32)), .unset, .unset, .unset, .unset, .unset] [(.int (0 : Int32))])) _
        refine XS.ifYes X0.here hx rfl (pc0 := 30) (pc' := 53) rfl (hb hby at_30) rfl (XT.i0_eq_t (by decide)) (by decide) (by decide) ?_
        show Steps p.tables e below (s₁.setTop (mkF m 53 #[.val (.long sa), .second, .val (.long sb), .second, .val (.int fl), .val (.int p4), .val (.int p5), .val (.int (0 : Int32)), .val (.int (0 : Int32)), .unset, .unset, .unset, .unset, .unset] [])) _
        refine XS.aconstNull X0.here hx rfl (hb hby at_53) ?_
        show Steps p.tables e below (s₁.setTop (mkF m 54 #[.val (.long sa), .second, .val (.long sb), .second, .val (.int fl), .val (.int p4), .val (.int p5), .val (.int (0 : Int32)), .val (.int (0 : Int32)), .unset, .unset, .unset, .unset, .unset] [.null])) _
        refine XS.astore X0.here hx rfl (hb hby at_54) rfl rfl (l' := #[.val (.long sa), .second, .val (.long sb), .second, .val (.int fl), .val (.int p4), .val (.int p5), .val (.int (0 : Int32)), .val (.int (0 : Int32)), .val .null, .unset, .unset, .unset, .unset]) rfl ?_
        show Steps p.tables e below (s₁.setTop (mkF m 56 #[.val (.long sa), .second, .val (.long sb), .second, .val (.int fl), .val (.int p4), .val (.int p5), .val (.int (0 : Int32)), .val (.int (0 : Int32)), .val .null, .unset, .unset, .unset, .unset] [])) _
        refine XS.iload X0.here hx rfl (hb hby at_56) rfl ?_
        show Steps p.tables e below (s₁.setTop (mkF m 58 #[.val (.long sa), .second, .val (.long sb), .second, .val (.int fl), .val (.int p4), .val (.int p5), .val (.int (0 : Int32)), .val (.int (0 : Int32)), .val .null, .unset, .unset, .unset, .unset] [(.int (0 : Int32))])) _
        refine XS.ifYes X0.here hx rfl (pc0 := 58) (pc' := 81) rfl (hb hby at_58) rfl (XT.i0_eq_t (by decide)) (by decide) (by decide) ?_
        show Steps p.tables e below (s₁.setTop (mkF m 81 #[.val (.long sa), .second, .val (.long sb), .second, .val (.int fl), .val (.int p4), .val (.int p5), .val (.int (0 : Int32)), .val (.int (0 : Int32)), .val .null, .unset, .unset, .unset, .unset] [])) _
        refine XS.aconstNull X0.here hx rfl (hb hby at_81) ?_
        show Steps p.tables e below (s₁.setTop (mkF m 82 #[.val (.long sa), .second, .val (.long sb), .second, .val (.int fl), .val (.int p4), .val (.int p5), .val (.int (0 : Int32)), .val (.int (0 : Int32)), .val .null, .unset, .unset, .unset, .unset] [.null])) _
        refine XS.astore X0.here hx rfl (hb hby at_82) rfl rfl (l' := #[.val (.long sa), .second, .val (.long sb), .second, .val (.int fl), .val (.int p4), .val (.int p5), .val (.int (0 : Int32)), .val (.int (0 : Int32)), .val .null, .val .null, .unset, .unset, .unset]) rfl ?_
        show Steps p.tables e below (s₁.setTop (mkF m 84 #[.val (.long sa), .second, .val (.long sb), .second, .val (.int fl), .val (.int p4), .val (.int p5), .val (.int (0 : Int32)), .val (.int (0 : Int32)), .val .null, .val .null, .unset, .unset, .unset] [])) _
        exact k)
      obtain ⟨T4, h4, X4, e4, E4, A4, D4, -, st4⟩ := newO X0 hx hZ hown (hw _ (List.mem_of_getElem? (i := 0) rfl)) (hw _ (List.mem_of_getElem? (i := 1) rfl)) (hw _ (List.mem_of_getElem? (i := 2) rfl)) e0 (g := (mkF m 84 #[.val (.long sa), .second, .val (.long sb), .second, .val (.int fl), .val (.int p4), .val (.int p5), .val (.int (0 : Int32)), .val (.int (0 : Int32)), .val .null, .val .null, .unset, .unset, .unset] [])) rfl (hb hby at_84) (by decide) (by decide)
      obtain ⟨oc, g4⟩ : ∃ z, z = h0.size := ⟨_, rfl⟩
      rw [← g4] at A4 D4 st4
      have F5 : Fld Z h4 oc "com/example/detectability/detectability/ComparedProtein" "name" "Ljava/lang/String;" .null := (D4 (Or.inr (hw _ (List.mem_of_getElem? (i := 18) rfl))) (ty := (.object "java/lang/String")) (by decide))
      have F6 : Fld Z h4 oc "com/example/detectability/detectability/ComparedProtein" "inA" "Lcom/example/detectability/detectability/ProteinAbundance;" .null := (D4 (Or.inr (hw _ (List.mem_of_getElem? (i := 20) rfl))) (ty := (.object "com/example/detectability/detectability/ProteinAbundance")) (by decide))
      have F7 : Fld Z h4 oc "com/example/detectability/detectability/ComparedProtein" "inB" "Lcom/example/detectability/detectability/ProteinAbundance;" .null := (D4 (Or.inr (hw _ (List.mem_of_getElem? (i := 22) rfl))) (ty := (.object "com/example/detectability/detectability/ProteinAbundance")) (by decide))
      have F8 : Fld Z h4 oc "com/example/detectability/detectability/ComparedProtein" "z" "D" (.double (0 : UInt64)) := (D4 (Or.inr (hw _ (List.mem_of_getElem? (i := 24) rfl))) (ty := .double) (by decide))
      have F9 : Fld Z h4 oc "com/example/detectability/detectability/ComparedProtein" "p" "D" (.double (0 : UInt64)) := (D4 (Or.inr (hw _ (List.mem_of_getElem? (i := 26) rfl))) (ty := .double) (by decide))
      have c10 : ∀ t, Steps p.tables e below (T4.setTop (mkF m 87 #[.val (.long sa), .second, .val (.long sb), .second, .val (.int fl), .val (.int p4), .val (.int p5), .val (.int (0 : Int32)), .val (.int (0 : Int32)), .val .null, .val .null, .unset, .unset, .unset] [(.ref oc)])) t → Steps p.tables e below (s₁.setTop (entryFrame m #[(.long sa), (.long sb), (.int fl), (.int p4), (.int p5)] maxLocals)) t := fun t k => c3 t (st4 _ k)
      have c11 : ∀ t, Steps p.tables e below (T4.setTop (mkF m 88 #[.val (.long sa), .second, .val (.long sb), .second, .val (.int fl), .val (.int p4), .val (.int p5), .val (.int (0 : Int32)), .val (.int (0 : Int32)), .val .null, .val .null, .unset, .unset, .unset] [(.ref oc), (.ref oc)])) t → Steps p.tables e below (s₁.setTop (entryFrame m #[(.long sa), (.long sb), (.int fl), (.int p4), (.int p5)] maxLocals)) t := fun t k => c10 t (by
        show Steps p.tables e below (T4.setTop (mkF m 87 #[.val (.long sa), .second, .val (.long sb), .second, .val (.int fl), .val (.int p4), .val (.int p5), .val (.int (0 : Int32)), .val (.int (0 : Int32)), .val .null, .val .null, .unset, .unset, .unset] [(.ref oc)])) _
        refine XS.dup X4.here hx rfl (hb hby at_87) rfl rfl ?_
        show Steps p.tables e below (T4.setTop (mkF m 88 #[.val (.long sa), .second, .val (.long sb), .second, .val (.int fl), .val (.int p4), .val (.int p5), .val (.int (0 : Int32)), .val (.int (0 : Int32)), .val .null, .val .null, .unset, .unset, .unset] [(.ref oc), (.ref oc)])) _
        exact k)
      obtain ⟨s3, T12, h12, q12, X12, e12, E12, S12, kk12, Zz12, Ow12, st12⟩ := ldcS (s := s) (vm0 := s.vm) X4 hx hZ hown (hw _ (List.mem_of_getElem? (i := 3) rfl)) (fun d hd => hw d (strW d hd)) e4 ((State.WarmedH.refl s).since 0) (Nat.zero_le _) (g := (mkF m 88 #[.val (.long sa), .second, .val (.long sb), .second, .val (.int fl), .val (.int p4), .val (.int p5), .val (.int (0 : Int32)), .val (.int (0 : Int32)), .val .null, .val .null, .unset, .unset, .unset] [(.ref oc), (.ref oc)])) rfl (hb hby at_88) (n := 4) (by decide) (by decide) (by decide) (by decide)
      have hZ := Zz12
      have hown := Ow12
      have F13 : Exa Z h12 oc "com/example/detectability/detectability/ComparedProtein" := (A4.ext E12)
      have F14 : Fld Z h12 oc "com/example/detectability/detectability/ComparedProtein" "name" "Ljava/lang/String;" .null := (F5.ext E12)
      have F15 : Fld Z h12 oc "com/example/detectability/detectability/ComparedProtein" "inA" "Lcom/example/detectability/detectability/ProteinAbundance;" .null := (F6.ext E12)
      have F16 : Fld Z h12 oc "com/example/detectability/detectability/ComparedProtein" "inB" "Lcom/example/detectability/detectability/ProteinAbundance;" .null := (F7.ext E12)
      have F17 : Fld Z h12 oc "com/example/detectability/detectability/ComparedProtein" "z" "D" (.double (0 : UInt64)) := (F8.ext E12)
      have F18 : Fld Z h12 oc "com/example/detectability/detectability/ComparedProtein" "p" "D" (.double (0 : UInt64)) := (F9.ext E12)
      have c19 : ∀ t, Steps p.tables e below (T12.setTop (mkF m 90 #[.val (.long sa), .second, .val (.long sb), .second, .val (.int fl), .val (.int p4), .val (.int p5), .val (.int (0 : Int32)), .val (.int (0 : Int32)), .val .null, .val .null, .unset, .unset, .unset] [(.ref s3), (.ref oc), (.ref oc)])) t → Steps p.tables e below (s₁.setTop (entryFrame m #[(.long sa), (.long sb), (.int fl), (.int p4), (.int p5)] maxLocals)) t := fun t k => c11 t (st12 _ k)
      have c20 : ∀ t, Steps p.tables e below (T12.setTop (mkF m 96 #[.val (.long sa), .second, .val (.long sb), .second, .val (.int fl), .val (.int p4), .val (.int p5), .val (.int (0 : Int32)), .val (.int (0 : Int32)), .val .null, .val .null, .unset, .unset, .unset] [(.double FP.dconst1), (.double FP.dconst0), .null, .null, (.ref s3), (.ref oc), (.ref oc)])) t → Steps p.tables e below (s₁.setTop (entryFrame m #[(.long sa), (.long sb), (.int fl), (.int p4), (.int p5)] maxLocals)) t := fun t k => c19 t (by
        show Steps p.tables e below (T12.setTop (mkF m 90 #[.val (.long sa), .second, .val (.long sb), .second, .val (.int fl), .val (.int p4), .val (.int p5), .val (.int (0 : Int32)), .val (.int (0 : Int32)), .val .null, .val .null, .unset, .unset, .unset] [(.ref s3), (.ref oc), (.ref oc)])) _
        refine XS.aload X12.here hx rfl (hb hby at_90) rfl rfl ?_
        show Steps p.tables e below (T12.setTop (mkF m 92 #[.val (.long sa), .second, .val (.long sb), .second, .val (.int fl), .val (.int p4), .val (.int p5), .val (.int (0 : Int32)), .val (.int (0 : Int32)), .val .null, .val .null, .unset, .unset, .unset] [.null, (.ref s3), (.ref oc), (.ref oc)])) _
        refine XS.aload X12.here hx rfl (hb hby at_92) rfl rfl ?_
        show Steps p.tables e below (T12.setTop (mkF m 94 #[.val (.long sa), .second, .val (.long sb), .second, .val (.int fl), .val (.int p4), .val (.int p5), .val (.int (0 : Int32)), .val (.int (0 : Int32)), .val .null, .val .null, .unset, .unset, .unset] [.null, .null, (.ref s3), (.ref oc), (.ref oc)])) _
        refine XS.dconst0 X12.here hx rfl (hb hby at_94) rfl ?_
        show Steps p.tables e below (T12.setTop (mkF m 95 #[.val (.long sa), .second, .val (.long sb), .second, .val (.int fl), .val (.int p4), .val (.int p5), .val (.int (0 : Int32)), .val (.int (0 : Int32)), .val .null, .val .null, .unset, .unset, .unset] [(.double FP.dconst0), .null, .null, (.ref s3), (.ref oc), (.ref oc)])) _
        refine XS.dconst1 X12.here hx rfl (hb hby at_95) rfl ?_
        show Steps p.tables e below (T12.setTop (mkF m 96 #[.val (.long sa), .second, .val (.long sb), .second, .val (.int fl), .val (.int p4), .val (.int p5), .val (.int (0 : Int32)), .val (.int (0 : Int32)), .val .null, .val .null, .unset, .unset, .unset] [(.double FP.dconst1), (.double FP.dconst0), .null, .null, (.ref s3), (.ref oc), (.ref oc)])) _
        exact k)
      obtain ⟨_, _, ⟨T21, L21, k21', n21⟩, -, X21, ⟨Lc21, hQ21, l21, y21, z21⟩, st21⟩ := X12.specialBack hx (y := (⟨"com/example/detectability/detectability/ComparedProtein", "<init>", "(Ljava/lang/String;Lcom/example/detectability/detectability/ProteinAbundance;Lcom/example/detectability/detectability/ProteinAbundance;DD)V"⟩ : MethodName)) rfl hown (mvT hZ (hw _ (List.mem_of_getElem? (i := 11) rfl))) (mvT hZ (hw _ (List.mem_of_getElem? (i := 12) rfl))) (mvT hZ (hw _ (List.mem_of_getElem? (i := 13) rfl))) (by decide) (backOf (W := 1) (rm_ci00 l Z a0 hw [] oc s3 FP.dconst0 FP.dconst1 h12 n0 (Nat.le_trans (Nat.le_trans Z0 E4.1) E12.1) F13 F14 F15 F16 F17 F18 (Nat.le_trans Z0 (Nat.le_of_eq g4.symm))) hZ (hw _ (List.mem_of_getElem? (i := 13) rfl)) (hw _ (List.mem_of_getElem? (i := 2) rfl)) (by decide) (by decide)) (g := (mkF m 96 #[.val (.long sa), .second, .val (.long sb), .second, .val (.int fl), .val (.int p4), .val (.int p5), .val (.int (0 : Int32)), .val (.int (0 : Int32)), .val .null, .val .null, .unset, .unset, .unset] [(.double FP.dconst1), (.double FP.dconst0), .null, .null, (.ref s3), (.ref oc), (.ref oc)])) rfl (by rw [hml]; rfl) (Steps.refl _) (a := oc) (argsL := [(.ref s3), .null, .null, (.double FP.dconst0), (.double FP.dconst1)]) (rest := [(.ref oc)]) (lenOf pd__Ljava_lang_String_Lcom_example_detectability_detectability_ProteinAbundance_Lcom_example_detectability_detectability_ProteinAbundance_DD_V rfl) rfl (by show 2 * 0 + _ ≤ _; exact Nat.le_of_eq rfl) (hb hby at_96) (fun _ _ => ⟨rfl, e12, (by decide : 3 + 0 ≤ _), (by decide : 13 + 0 ≤ _)⟩)
      dsimp only [Pt.U, Pt.locs, Pt.cells, Pt.slots] at X21 l21 y21 z21 st21 hQ21
      subst l21 y21 z21
      obtain ⟨rfl, N21, K21, G21_0, G21_1, G21_2, G21_3, G21_4, G21_5⟩ := hQ21
      have M21 := Fr.app N0 N21
      have F22 : Exa Z T21.heap oc "com/example/detectability/detectability/ComparedProtein" := (F13.keep K21)
      have c23 : ∀ t, Steps p.tables e below (T21.setTop (mkF m 99 #[.val (.long sa), .second, .val (.long sb), .second, .val (.int fl), .val (.int p4), .val (.int p5), .val (.int (0 : Int32)), .val (.int (0 : Int32)), .val .null, .val .null, .unset, .unset, .unset] [(.ref oc)])) t → Steps p.tables e below (s₁.setTop (entryFrame m #[(.long sa), (.long sb), (.int fl), (.int p4), (.int p5)] maxLocals)) t := fun t k => c20 t (st21.trans k)
      have c24 : ∀ t, Steps p.tables e below (T21.setTop (mkF m 115 #[.val (.long sa), .second, .val (.long sb), .second, .val (.int fl), .val (.int p4), .val (.int p5), .val (.int (0 : Int32)), .val (.int (0 : Int32)), .val .null, .val .null, .val (.ref oc), .val (.long (0 : Int64)), .second] [(.ref oc)])) t → Steps p.tables e below (s₁.setTop (entryFrame m #[(.long sa), (.long sb), (.int fl), (.int p4), (.int p5)] maxLocals)) t := fun t k => c23 t (by
        show Steps p.tables e below (T21.setTop (mkF m 99 #[.val (.long sa), .second, .val (.long sb), .second, .val (.int fl), .val (.int p4), .val (.int p5), .val (.int (0 : Int32)), .val (.int (0 : Int32)), .val .null, .val .null, .unset, .unset, .unset] [(.ref oc)])) _
        refine XS.astore X21.here hx rfl (hb hby at_99) rfl rfl (l' := #[.val (.long sa), .second, .val (.long sb), .second, .val (.int fl), .val (.int p4), .val (.int p5), .val (.int (0 : Int32)), .val (.int (0 : Int32)), .val .null, .val .null, .val (.ref oc), .unset, .unset]) rfl ?_
        show Steps p.tables e below (T21.setTop (mkF m 101 #[.val (.long sa), .second, .val (.long sb), .second, .val (.int fl), .val (.int p4), .val (.int p5), .val (.int (0 : Int32)), .val (.int (0 : Int32)), .val .null, .val .null, .val (.ref oc), .unset, .unset] [])) _
        refine XS.iload X21.here hx rfl (hb hby at_101) rfl ?_
        show Steps p.tables e below (T21.setTop (mkF m 103 #[.val (.long sa), .second, .val (.long sb), .second, .val (.int fl), .val (.int p4), .val (.int p5), .val (.int (0 : Int32)), .val (.int (0 : Int32)), .val .null, .val .null, .val (.ref oc), .unset, .unset] [(.int (0 : Int32))])) _
        refine XS.ifYes X21.here hx rfl (pc0 := 103) (pc' := 110) rfl (hb hby at_103) rfl (XT.i0_eq_t (by decide)) (by decide) (by decide) ?_
        show Steps p.tables e below (T21.setTop (mkF m 110 #[.val (.long sa), .second, .val (.long sb), .second, .val (.int fl), .val (.int p4), .val (.int p5), .val (.int (0 : Int32)), .val (.int (0 : Int32)), .val .null, .val .null, .val (.ref oc), .unset, .unset] [])) _
        refine XT.lconst X21.here hx rfl (hb hby at_110) ?_
        show Steps p.tables e below (T21.setTop (mkF m 111 #[.val (.long sa), .second, .val (.long sb), .second, .val (.int fl), .val (.int p4), .val (.int p5), .val (.int (0 : Int32)), .val (.int (0 : Int32)), .val .null, .val .null, .val (.ref oc), .unset, .unset] [(.long (0 : Int64))])) _
        refine XT.lstore X21.here hx rfl (hb hby at_111) rfl (l' := #[.val (.long sa), .second, .val (.long sb), .second, .val (.int fl), .val (.int p4), .val (.int p5), .val (.int (0 : Int32)), .val (.int (0 : Int32)), .val .null, .val .null, .val (.ref oc), .val (.long (0 : Int64)), .second]) rfl ?_
        show Steps p.tables e below (T21.setTop (mkF m 113 #[.val (.long sa), .second, .val (.long sb), .second, .val (.int fl), .val (.int p4), .val (.int p5), .val (.int (0 : Int32)), .val (.int (0 : Int32)), .val .null, .val .null, .val (.ref oc), .val (.long (0 : Int64)), .second] [])) _
        refine XS.aload X21.here hx rfl (hb hby at_113) rfl rfl ?_
        show Steps p.tables e below (T21.setTop (mkF m 115 #[.val (.long sa), .second, .val (.long sb), .second, .val (.int fl), .val (.int p4), .val (.int p5), .val (.int (0 : Int32)), .val (.int (0 : Int32)), .val .null, .val .null, .val (.ref oc), .val (.long (0 : Int64)), .second] [(.ref oc)])) _
        exact k)
      obtain ⟨cq25, kq25, q25a, q25b, q25c⟩ := isOf hZ rfl G21_0
      obtain ⟨_, _, ⟨T25, L25, k25', n25⟩, -, X25, ⟨Lc25, hQ25, l25, y25, z25⟩, st25⟩ := X21.virtualBack hx (y := (⟨"com/example/detectability/detectability/ComparedProtein", "getSpectraB", "()J"⟩ : MethodName)) (z := (⟨"com/example/detectability/detectability/ComparedProtein", "getSpectraB", "()J"⟩ : MethodName)) hown (mvT hZ (hw _ (List.mem_of_getElem? (i := 27) rfl))) (mvT hZ (hw _ (List.mem_of_getElem? (i := 28) rfl))) (notFace_of_selects (args := #[]) (mvT hZ (hw _ (List.mem_of_getElem? (i := 30) rfl)))) (mvT hZ (hw _ (List.mem_of_getElem? (i := 30) rfl))) (mvT hZ (hw _ (List.mem_of_getElem? (i := 29) rfl))) (by decide) (backOf (W := 0) (rm_cg0 l Z a0 hw [] oc T21.heap n0 (Nat.le_trans (Nat.le_trans (Nat.le_trans Z0 E4.1) E12.1) K21.1) G21_3) hZ (hw _ (List.mem_of_getElem? (i := 31) rfl)) (hw _ (List.mem_of_getElem? (i := 2) rfl)) (by decide) (by decide)) q25a q25c (g := (mkF m 115 #[.val (.long sa), .second, .val (.long sb), .second, .val (.int fl), .val (.int p4), .val (.int p5), .val (.int (0 : Int32)), .val (.int (0 : Int32)), .val .null, .val .null, .val (.ref oc), .val (.long (0 : Int64)), .second] [(.ref oc)])) rfl (by rw [hml]; rfl) (Steps.refl _) (argsL := []) (rest := []) (lenOf pd___J rfl) rfl (by show 2 * 0 + _ ≤ _; exact Nat.le_of_eq rfl) (hb hby at_115) (fun _ _ => ⟨rfl, rfl, (by decide : 3 + 0 ≤ _), (by decide : 13 + 0 ≤ _)⟩)
      dsimp only [Pt.U, Pt.locs, Pt.cells, Pt.slots] at X25 l25 y25 z25 st25 hQ25
      subst l25 y25 z25
      obtain ⟨rfl, N25, e25⟩ := hQ25
      have M25 := Fr.app M21 N25
      have c26 : ∀ t, Steps p.tables e below (T25.setTop (mkF m 118 #[.val (.long sa), .second, .val (.long sb), .second, .val (.int fl), .val (.int p4), .val (.int p5), .val (.int (0 : Int32)), .val (.int (0 : Int32)), .val .null, .val .null, .val (.ref oc), .val (.long (0 : Int64)), .second] [(.long (0 : Int64))])) t → Steps p.tables e below (s₁.setTop (entryFrame m #[(.long sa), (.long sb), (.int fl), (.int p4), (.int p5)] maxLocals)) t := fun t k => c24 t (st25.trans k)
      have c27 : ∀ t, Steps p.tables e below (T25.setTop (mkF m 129 #[.val (.long sa), .second, .val (.long sb), .second, .val (.int fl), .val (.int p4), .val (.int p5), .val (.int (0 : Int32)), .val (.int (0 : Int32)), .val .null, .val .null, .val (.ref oc), .val (.long (0 : Int64)), .second] [(.int (1 : Int32))])) t → Steps p.tables e below (s₁.setTop (entryFrame m #[(.long sa), (.long sb), (.int fl), (.int p4), (.int p5)] maxLocals)) t := fun t k => c26 t (by
        show Steps p.tables e below (T25.setTop (mkF m 118 #[.val (.long sa), .second, .val (.long sb), .second, .val (.int fl), .val (.int p4), .val (.int p5), .val (.int (0 : Int32)), .val (.int (0 : Int32)), .val .null, .val .null, .val (.ref oc), .val (.long (0 : Int64)), .second] [(.long (0 : Int64))])) _
        refine XT.lload X25.here hx rfl (hb hby at_118) rfl ?_
        show Steps p.tables e below (T25.setTop (mkF m 120 #[.val (.long sa), .second, .val (.long sb), .second, .val (.int fl), .val (.int p4), .val (.int p5), .val (.int (0 : Int32)), .val (.int (0 : Int32)), .val .null, .val .null, .val (.ref oc), .val (.long (0 : Int64)), .second] [(.long (0 : Int64)), (.long (0 : Int64))])) _
        refine XT.lcmp X25.here hx rfl (hb hby at_120) rfl ?_
        show Steps p.tables e below (T25.setTop (mkF m 121 #[.val (.long sa), .second, .val (.long sb), .second, .val (.int fl), .val (.int p4), .val (.int p5), .val (.int (0 : Int32)), .val (.int (0 : Int32)), .val .null, .val .null, .val (.ref oc), .val (.long (0 : Int64)), .second] [(.int (XT.cmpL (0 : Int64) (0 : Int64)))])) _
        refine XS.ifNo X25.here hx rfl (hb hby at_121) rfl (XT.ll_ne_f (rfl)) ?_
        show Steps p.tables e below (T25.setTop (mkF m 124 #[.val (.long sa), .second, .val (.long sb), .second, .val (.int fl), .val (.int p4), .val (.int p5), .val (.int (0 : Int32)), .val (.int (0 : Int32)), .val .null, .val .null, .val (.ref oc), .val (.long (0 : Int64)), .second] [])) _
        refine XS.iconst X25.here hx rfl (hb hby at_124) ?_
        show Steps p.tables e below (T25.setTop (mkF m 125 #[.val (.long sa), .second, .val (.long sb), .second, .val (.int fl), .val (.int p4), .val (.int p5), .val (.int (0 : Int32)), .val (.int (0 : Int32)), .val .null, .val .null, .val (.ref oc), .val (.long (0 : Int64)), .second] [(.int (1 : Int32))])) _
        refine XS.goto X25.here hx rfl (pc0 := 125) (pc' := 129) rfl (hb hby at_125) (by decide) (by decide) ?_
        show Steps p.tables e below (T25.setTop (mkF m 129 #[.val (.long sa), .second, .val (.long sb), .second, .val (.int fl), .val (.int p4), .val (.int p5), .val (.int (0 : Int32)), .val (.int (0 : Int32)), .val .null, .val .null, .val (.ref oc), .val (.long (0 : Int64)), .second] [(.int (1 : Int32))])) _
        exact k)
      have hsz : q12 ≤ T25.heap.size := by rw [e25]; exact (Nat.le_trans kk12 K21.1)
      obtain ⟨fs, hr, hrun, hended, hRW⟩ := Jvm.Stand.leaveW (s := s) (vm₁ := T12.vm) X25 S12 hsz (v := (some (.int (1 : Int32)))) (fun h => by rw [Bd.returns] at h; cases h)
      refine ⟨_, _, pre0 _ (c27 _ (retN X25 hx (t := .boolean) Bd.returns (by simp) (hb hby at_129) hr)), hrun, hended, _, _, rfl, ?_, hRW.1, hRW.2.1, hRW.2.2.1, hRW.2.2.2.mono (by decide) (by decide)⟩
      show Q_0 Z sa sb fl p4 p5 h0 n0 _ T25.heap _
      rw [e25]
      exact ⟨rfl, M25⟩
    · skip
      have c28 : ∀ t, Steps p.tables e below (s₁.setTop (mkF m 61 #[.val (.long sa), .second, .val (.long sb), .second, .val (.int fl), .val (.int p4), .val (.int p5), .val (.int (0 : Int32)), .val (.int (1 : Int32)), .val .null, .unset, .unset, .unset, .unset] [])) t → Steps p.tables e below (s₁.setTop (entryFrame m #[(.long sa), (.long sb), (.int fl), (.int p4), (.int p5)] maxLocals)) t := fun t k => c2 t (by
        show Steps p.tables e below (s₁.setTop (mkF m 18 #[.val (.long sa), .second, .val (.long sb), .second, .val (.int fl), .val (.int p4), .val (.int p5), .val (.int (0 : Int32)), .unset, .unset, .unset, .unset, .unset, .unset] [(.int (fl &&& (2 : Int32)))])) _
        refine XS.ifNo X0.here hx rfl (hb hby at_18) rfl (XT.i0_eq_f qb) ?_
        show Steps p.tables e below (s₁.setTop (mkF m 21 #[.val (.long sa), .second, .val (.long sb), .second, .val (.int fl), .val (.int p4), .val (.int p5), .val (.int (0 : Int32)), .unset, .unset, .unset, .unset, .unset, .unset] [])) _
        refine XS.iconst X0.here hx rfl (hb hby at_21) ?_
        show Steps p.tables e below (s₁.setTop (mkF m 22 #[.val (.long sa), .second, .val (.long sb), .second, .val (.int fl), .val (.int p4), .val (.int p5), .val (.int (0 : Int32)), .unset, .unset, .unset, .unset, .unset, .unset] [(.int (1 : Int32))])) _
        refine XS.goto X0.here hx rfl (pc0 := 22) (pc' := 26) rfl (hb hby at_22) (by decide) (by decide) ?_
        show Steps p.tables e below (s₁.setTop (mkF m 26 #[.val (.long sa), .second, .val (.long sb), .second, .val (.int fl), .val (.int p4), .val (.int p5), .val (.int (0 : Int32)), .unset, .unset, .unset, .unset, .unset, .unset] [(.int (1 : Int32))])) _
        refine XS.istore X0.here hx rfl (hb hby at_26) rfl (l' := #[.val (.long sa), .second, .val (.long sb), .second, .val (.int fl), .val (.int p4), .val (.int p5), .val (.int (0 : Int32)), .val (.int (1 : Int32)), .unset, .unset, .unset, .unset, .unset]) rfl ?_
        show Steps p.tables e below (s₁.setTop (mkF m 28 #[.val (.long sa), .second, .val (.long sb), .second, .val (.int fl), .val (.int p4), .val (.int p5), .val (.int (0 : Int32)), .val (.int (1 : Int32)), .unset, .unset, .unset, .unset, .unset] [])) _
        refine XS.iload X0.here hx rfl (hb hby at_28) rfl ?_
        show Steps p.tables e below (s₁.setTop (mkF m 30 #[.val (.long sa), .second, .val (.long sb), .second, .val (.int fl), .val (.int p4), .val (.int p5), .val (.int (0 : Int32)), .val (.int (1 : Int32)), .unset, .unset, .unset, .unset, .unset] [(.int (0 : Int32))])) _
        refine XS.ifYes X0.here hx rfl (pc0 := 30) (pc' := 53) rfl (hb hby at_30) rfl (XT.i0_eq_t (by decide)) (by decide) (by decide) ?_
        show Steps p.tables e below (s₁.setTop (mkF m 53 #[.val (.long sa), .second, .val (.long sb), .second, .val (.int fl), .val (.int p4), .val (.int p5), .val (.int (0 : Int32)), .val (.int (1 : Int32)), .unset, .unset, .unset, .unset, .unset] [])) _
        refine XS.aconstNull X0.here hx rfl (hb hby at_53) ?_
        show Steps p.tables e below (s₁.setTop (mkF m 54 #[.val (.long sa), .second, .val (.long sb), .second, .val (.int fl), .val (.int p4), .val (.int p5), .val (.int (0 : Int32)), .val (.int (1 : Int32)), .unset, .unset, .unset, .unset, .unset] [.null])) _
        refine XS.astore X0.here hx rfl (hb hby at_54) rfl rfl (l' := #[.val (.long sa), .second, .val (.long sb), .second, .val (.int fl), .val (.int p4), .val (.int p5), .val (.int (0 : Int32)), .val (.int (1 : Int32)), .val .null, .unset, .unset, .unset, .unset]) rfl ?_
        show Steps p.tables e below (s₁.setTop (mkF m 56 #[.val (.long sa), .second, .val (.long sb), .second, .val (.int fl), .val (.int p4), .val (.int p5), .val (.int (0 : Int32)), .val (.int (1 : Int32)), .val .null, .unset, .unset, .unset, .unset] [])) _
        refine XS.iload X0.here hx rfl (hb hby at_56) rfl ?_
        show Steps p.tables e below (s₁.setTop (mkF m 58 #[.val (.long sa), .second, .val (.long sb), .second, .val (.int fl), .val (.int p4), .val (.int p5), .val (.int (0 : Int32)), .val (.int (1 : Int32)), .val .null, .unset, .unset, .unset, .unset] [(.int (1 : Int32))])) _
        refine XS.ifNo X0.here hx rfl (hb hby at_58) rfl (XT.i0_eq_f (by decide)) ?_
        show Steps p.tables e below (s₁.setTop (mkF m 61 #[.val (.long sa), .second, .val (.long sb), .second, .val (.int fl), .val (.int p4), .val (.int p5), .val (.int (0 : Int32)), .val (.int (1 : Int32)), .val .null, .unset, .unset, .unset, .unset] [])) _
        exact k)
      obtain ⟨T29, h29, X29, e29, E29, A29, D29, -, st29⟩ := newO X0 hx hZ hown (hw _ (List.mem_of_getElem? (i := 32) rfl)) (hw _ (List.mem_of_getElem? (i := 33) rfl)) (hw _ (List.mem_of_getElem? (i := 34) rfl)) e0 (g := (mkF m 61 #[.val (.long sa), .second, .val (.long sb), .second, .val (.int fl), .val (.int p4), .val (.int p5), .val (.int (0 : Int32)), .val (.int (1 : Int32)), .val .null, .unset, .unset, .unset, .unset] [])) rfl (hb hby at_61) (by decide) (by decide)
      obtain ⟨ob, g29⟩ : ∃ z, z = h0.size := ⟨_, rfl⟩
      rw [← g29] at A29 D29 st29
      have F30 : Fld Z h29 ob "com/example/detectability/detectability/ProteinAbundance" "name" "Ljava/lang/String;" .null := (D29 (Or.inr (hw _ (List.mem_of_getElem? (i := 40) rfl))) (ty := (.object "java/lang/String")) (by decide))
      have F31 : Fld Z h29 ob "com/example/detectability/detectability/ProteinAbundance" "spectra" "J" (.long (0 : Int64)) := (D29 (Or.inr (hw _ (List.mem_of_getElem? (i := 42) rfl))) (ty := .long) (by decide))
      have F32 : Fld Z h29 ob "com/example/detectability/detectability/ProteinAbundance" "abundance" "D" (.double (0 : UInt64)) := (D29 (Or.inr (hw _ (List.mem_of_getElem? (i := 44) rfl))) (ty := .double) (by decide))
      have c33 : ∀ t, Steps p.tables e below (T29.setTop (mkF m 64 #[.val (.long sa), .second, .val (.long sb), .second, .val (.int fl), .val (.int p4), .val (.int p5), .val (.int (0 : Int32)), .val (.int (1 : Int32)), .val .null, .unset, .unset, .unset, .unset] [(.ref ob)])) t → Steps p.tables e below (s₁.setTop (entryFrame m #[(.long sa), (.long sb), (.int fl), (.int p4), (.int p5)] maxLocals)) t := fun t k => c28 t (st29 _ k)
      have c34 : ∀ t, Steps p.tables e below (T29.setTop (mkF m 65 #[.val (.long sa), .second, .val (.long sb), .second, .val (.int fl), .val (.int p4), .val (.int p5), .val (.int (0 : Int32)), .val (.int (1 : Int32)), .val .null, .unset, .unset, .unset, .unset] [(.ref ob), (.ref ob)])) t → Steps p.tables e below (s₁.setTop (entryFrame m #[(.long sa), (.long sb), (.int fl), (.int p4), (.int p5)] maxLocals)) t := fun t k => c33 t (by
        show Steps p.tables e below (T29.setTop (mkF m 64 #[.val (.long sa), .second, .val (.long sb), .second, .val (.int fl), .val (.int p4), .val (.int p5), .val (.int (0 : Int32)), .val (.int (1 : Int32)), .val .null, .unset, .unset, .unset, .unset] [(.ref ob)])) _
        refine XS.dup X29.here hx rfl (hb hby at_64) rfl rfl ?_
        show Steps p.tables e below (T29.setTop (mkF m 65 #[.val (.long sa), .second, .val (.long sb), .second, .val (.int fl), .val (.int p4), .val (.int p5), .val (.int (0 : Int32)), .val (.int (1 : Int32)), .val .null, .unset, .unset, .unset, .unset] [(.ref ob), (.ref ob)])) _
        exact k)
      obtain ⟨s2, T35, h35, q35, X35, e35, E35, S35, kk35, Zz35, Ow35, st35⟩ := ldcS (s := s) (vm0 := s.vm) X29 hx hZ hown (hw _ (List.mem_of_getElem? (i := 3) rfl)) (fun d hd => hw d (strW d hd)) e29 ((State.WarmedH.refl s).since 0) (Nat.zero_le _) (g := (mkF m 65 #[.val (.long sa), .second, .val (.long sb), .second, .val (.int fl), .val (.int p4), .val (.int p5), .val (.int (0 : Int32)), .val (.int (1 : Int32)), .val .null, .unset, .unset, .unset, .unset] [(.ref ob), (.ref ob)])) rfl (hb hby at_65) (n := 4) (by decide) (by decide) (by decide) (by decide)
      have hZ := Zz35
      have hown := Ow35
      have F36 : Exa Z h35 ob "com/example/detectability/detectability/ProteinAbundance" := (A29.ext E35)
      have F37 : Fld Z h35 ob "com/example/detectability/detectability/ProteinAbundance" "name" "Ljava/lang/String;" .null := (F30.ext E35)
      have F38 : Fld Z h35 ob "com/example/detectability/detectability/ProteinAbundance" "spectra" "J" (.long (0 : Int64)) := (F31.ext E35)
      have F39 : Fld Z h35 ob "com/example/detectability/detectability/ProteinAbundance" "abundance" "D" (.double (0 : UInt64)) := (F32.ext E35)
      have c40 : ∀ t, Steps p.tables e below (T35.setTop (mkF m 67 #[.val (.long sa), .second, .val (.long sb), .second, .val (.int fl), .val (.int p4), .val (.int p5), .val (.int (0 : Int32)), .val (.int (1 : Int32)), .val .null, .unset, .unset, .unset, .unset] [(.ref s2), (.ref ob), (.ref ob)])) t → Steps p.tables e below (s₁.setTop (entryFrame m #[(.long sa), (.long sb), (.int fl), (.int p4), (.int p5)] maxLocals)) t := fun t k => c34 t (st35 _ k)
      obtain ⟨db, hdb⟩ : ∃ v : UInt64, FP.i2d (p5 &&& (255 : Int32)) = v := ⟨_, rfl⟩
      have c41 : ∀ t, Steps p.tables e below (T35.setTop (mkF m 75 #[.val (.long sa), .second, .val (.long sb), .second, .val (.int fl), .val (.int p4), .val (.int p5), .val (.int (0 : Int32)), .val (.int (1 : Int32)), .val .null, .unset, .unset, .unset, .unset] [(.double db), (.long sb), (.ref s2), (.ref ob), (.ref ob)])) t → Steps p.tables e below (s₁.setTop (entryFrame m #[(.long sa), (.long sb), (.int fl), (.int p4), (.int p5)] maxLocals)) t := fun t k => c40 t (by
        show Steps p.tables e below (T35.setTop (mkF m 67 #[.val (.long sa), .second, .val (.long sb), .second, .val (.int fl), .val (.int p4), .val (.int p5), .val (.int (0 : Int32)), .val (.int (1 : Int32)), .val .null, .unset, .unset, .unset, .unset] [(.ref s2), (.ref ob), (.ref ob)])) _
        refine XT.lloadN X35.here hx rfl (hb hby at_67) rfl ?_
        show Steps p.tables e below (T35.setTop (mkF m 68 #[.val (.long sa), .second, .val (.long sb), .second, .val (.int fl), .val (.int p4), .val (.int p5), .val (.int (0 : Int32)), .val (.int (1 : Int32)), .val .null, .unset, .unset, .unset, .unset] [(.long sb), (.ref s2), (.ref ob), (.ref ob)])) _
        refine XS.iload X35.here hx rfl (hb hby at_68) rfl ?_
        show Steps p.tables e below (T35.setTop (mkF m 70 #[.val (.long sa), .second, .val (.long sb), .second, .val (.int fl), .val (.int p4), .val (.int p5), .val (.int (0 : Int32)), .val (.int (1 : Int32)), .val .null, .unset, .unset, .unset, .unset] [(.int p5), (.long sb), (.ref s2), (.ref ob), (.ref ob)])) _
        refine XS.sipush X35.here hx rfl (hb hby at_70) ?_
        show Steps p.tables e below (T35.setTop (mkF m 73 #[.val (.long sa), .second, .val (.long sb), .second, .val (.int fl), .val (.int p4), .val (.int p5), .val (.int (0 : Int32)), .val (.int (1 : Int32)), .val .null, .unset, .unset, .unset, .unset] [(.int (255 : Int32)), (.int p5), (.long sb), (.ref s2), (.ref ob), (.ref ob)])) _
        refine XS.iand X35.here hx rfl (hb hby at_73) rfl ?_
        show Steps p.tables e below (T35.setTop (mkF m 74 #[.val (.long sa), .second, .val (.long sb), .second, .val (.int fl), .val (.int p4), .val (.int p5), .val (.int (0 : Int32)), .val (.int (1 : Int32)), .val .null, .unset, .unset, .unset, .unset] [(.int (p5 &&& (255 : Int32))), (.long sb), (.ref s2), (.ref ob), (.ref ob)])) _
        refine XS.i2dS X35.here hx rfl (hb hby at_74) rfl hdb ?_
        show Steps p.tables e below (T35.setTop (mkF m 75 #[.val (.long sa), .second, .val (.long sb), .second, .val (.int fl), .val (.int p4), .val (.int p5), .val (.int (0 : Int32)), .val (.int (1 : Int32)), .val .null, .unset, .unset, .unset, .unset] [(.double db), (.long sb), (.ref s2), (.ref ob), (.ref ob)])) _
        exact k)
      obtain ⟨_, _, ⟨T42, L42, k42', n42⟩, -, X42, ⟨Lc42, hQ42, l42, y42, z42⟩, st42⟩ := X35.specialBack hx (y := (⟨"com/example/detectability/detectability/ProteinAbundance", "<init>", "(Ljava/lang/String;JD)V"⟩ : MethodName)) rfl hown (mvT hZ (hw _ (List.mem_of_getElem? (i := 35) rfl))) (mvT hZ (hw _ (List.mem_of_getElem? (i := 36) rfl))) (mvT hZ (hw _ (List.mem_of_getElem? (i := 37) rfl))) (by decide) (backOf (W := 1) (rm_pi l Z a0 hw [] ob s2 sb db h35 n0 (Nat.le_trans (Nat.le_trans Z0 E29.1) E35.1) F36 F37 F38 F39 (Nat.le_trans Z0 (Nat.le_of_eq g29.symm))) hZ (hw _ (List.mem_of_getElem? (i := 37) rfl)) (hw _ (List.mem_of_getElem? (i := 34) rfl)) (by decide) (by decide)) (g := (mkF m 75 #[.val (.long sa), .second, .val (.long sb), .second, .val (.int fl), .val (.int p4), .val (.int p5), .val (.int (0 : Int32)), .val (.int (1 : Int32)), .val .null, .unset, .unset, .unset, .unset] [(.double db), (.long sb), (.ref s2), (.ref ob), (.ref ob)])) rfl (by rw [hml]; rfl) (Steps.refl _) (a := ob) (argsL := [(.ref s2), (.long sb), (.double db)]) (rest := [(.ref ob)]) (lenOf pd__Ljava_lang_String_JD_V rfl) rfl (by show 2 * 0 + _ ≤ _; exact Nat.le_of_eq rfl) (hb hby at_75) (fun _ _ => ⟨rfl, e35, (by decide : 3 + 0 ≤ _), (by decide : 11 + 0 ≤ _)⟩)
      dsimp only [Pt.U, Pt.locs, Pt.cells, Pt.slots] at X42 l42 y42 z42 st42 hQ42
      subst l42 y42 z42
      obtain ⟨rfl, N42, K42, G42_0, G42_1, G42_2, G42_3⟩ := hQ42
      have M42 := Fr.app N0 N42
      have F43 : Exa Z T42.heap ob "com/example/detectability/detectability/ProteinAbundance" := (F36.keep K42)
      have c44 : ∀ t, Steps p.tables e below (T42.setTop (mkF m 78 #[.val (.long sa), .second, .val (.long sb), .second, .val (.int fl), .val (.int p4), .val (.int p5), .val (.int (0 : Int32)), .val (.int (1 : Int32)), .val .null, .unset, .unset, .unset, .unset] [(.ref ob)])) t → Steps p.tables e below (s₁.setTop (entryFrame m #[(.long sa), (.long sb), (.int fl), (.int p4), (.int p5)] maxLocals)) t := fun t k => c41 t (st42.trans k)
      have c45 : ∀ t, Steps p.tables e below (T42.setTop (mkF m 84 #[.val (.long sa), .second, .val (.long sb), .second, .val (.int fl), .val (.int p4), .val (.int p5), .val (.int (0 : Int32)), .val (.int (1 : Int32)), .val .null, .val (.ref ob), .unset, .unset, .unset] [])) t → Steps p.tables e below (s₁.setTop (entryFrame m #[(.long sa), (.long sb), (.int fl), (.int p4), (.int p5)] maxLocals)) t := fun t k => c44 t (by
        show Steps p.tables e below (T42.setTop (mkF m 78 #[.val (.long sa), .second, .val (.long sb), .second, .val (.int fl), .val (.int p4), .val (.int p5), .val (.int (0 : Int32)), .val (.int (1 : Int32)), .val .null, .unset, .unset, .unset, .unset] [(.ref ob)])) _
        refine XS.goto X42.here hx rfl (pc0 := 78) (pc' := 82) rfl (hb hby at_78) (by decide) (by decide) ?_
        show Steps p.tables e below (T42.setTop (mkF m 82 #[.val (.long sa), .second, .val (.long sb), .second, .val (.int fl), .val (.int p4), .val (.int p5), .val (.int (0 : Int32)), .val (.int (1 : Int32)), .val .null, .unset, .unset, .unset, .unset] [(.ref ob)])) _
        refine XS.astore X42.here hx rfl (hb hby at_82) rfl rfl (l' := #[.val (.long sa), .second, .val (.long sb), .second, .val (.int fl), .val (.int p4), .val (.int p5), .val (.int (0 : Int32)), .val (.int (1 : Int32)), .val .null, .val (.ref ob), .unset, .unset, .unset]) rfl ?_
        show Steps p.tables e below (T42.setTop (mkF m 84 #[.val (.long sa), .second, .val (.long sb), .second, .val (.int fl), .val (.int p4), .val (.int p5), .val (.int (0 : Int32)), .val (.int (1 : Int32)), .val .null, .val (.ref ob), .unset, .unset, .unset] [])) _
        exact k)
      obtain ⟨T46, h46, X46, e46, E46, A46, D46, -, st46⟩ := newO X42 hx hZ hown (hw _ (List.mem_of_getElem? (i := 0) rfl)) (hw _ (List.mem_of_getElem? (i := 1) rfl)) (hw _ (List.mem_of_getElem? (i := 2) rfl)) rfl (g := (mkF m 84 #[.val (.long sa), .second, .val (.long sb), .second, .val (.int fl), .val (.int p4), .val (.int p5), .val (.int (0 : Int32)), .val (.int (1 : Int32)), .val .null, .val (.ref ob), .unset, .unset, .unset] [])) rfl (hb hby at_84) (by decide) (by decide)
      obtain ⟨oc, g46⟩ : ∃ z, z = T42.heap.size := ⟨_, rfl⟩
      rw [← g46] at A46 D46 st46
      have F47 : Exa Z h46 ob "com/example/detectability/detectability/ProteinAbundance" := (G42_0.ext E46)
      have F48 : Fld Z h46 ob "com/example/detectability/detectability/ProteinAbundance" "name" "Ljava/lang/String;" (.ref s2) := (G42_1.ext E46)
      have F49 : Fld Z h46 ob "com/example/detectability/detectability/ProteinAbundance" "spectra" "J" (.long sb) := (G42_2.ext E46)
      have F50 : Fld Z h46 ob "com/example/detectability/detectability/ProteinAbundance" "abundance" "D" (.double db) := (G42_3.ext E46)
      have F51 : Fld Z h46 oc "com/example/detectability/detectability/ComparedProtein" "name" "Ljava/lang/String;" .null := (D46 (Or.inr (hw _ (List.mem_of_getElem? (i := 18) rfl))) (ty := (.object "java/lang/String")) (by decide))
      have F52 : Fld Z h46 oc "com/example/detectability/detectability/ComparedProtein" "inA" "Lcom/example/detectability/detectability/ProteinAbundance;" .null := (D46 (Or.inr (hw _ (List.mem_of_getElem? (i := 20) rfl))) (ty := (.object "com/example/detectability/detectability/ProteinAbundance")) (by decide))
      have F53 : Fld Z h46 oc "com/example/detectability/detectability/ComparedProtein" "inB" "Lcom/example/detectability/detectability/ProteinAbundance;" .null := (D46 (Or.inr (hw _ (List.mem_of_getElem? (i := 22) rfl))) (ty := (.object "com/example/detectability/detectability/ProteinAbundance")) (by decide))
      have F54 : Fld Z h46 oc "com/example/detectability/detectability/ComparedProtein" "z" "D" (.double (0 : UInt64)) := (D46 (Or.inr (hw _ (List.mem_of_getElem? (i := 24) rfl))) (ty := .double) (by decide))
      have F55 : Fld Z h46 oc "com/example/detectability/detectability/ComparedProtein" "p" "D" (.double (0 : UInt64)) := (D46 (Or.inr (hw _ (List.mem_of_getElem? (i := 26) rfl))) (ty := .double) (by decide))
      have c56 : ∀ t, Steps p.tables e below (T46.setTop (mkF m 87 #[.val (.long sa), .second, .val (.long sb), .second, .val (.int fl), .val (.int p4), .val (.int p5), .val (.int (0 : Int32)), .val (.int (1 : Int32)), .val .null, .val (.ref ob), .unset, .unset, .unset] [(.ref oc)])) t → Steps p.tables e below (s₁.setTop (entryFrame m #[(.long sa), (.long sb), (.int fl), (.int p4), (.int p5)] maxLocals)) t := fun t k => c45 t (st46 _ k)
      have c57 : ∀ t, Steps p.tables e below (T46.setTop (mkF m 88 #[.val (.long sa), .second, .val (.long sb), .second, .val (.int fl), .val (.int p4), .val (.int p5), .val (.int (0 : Int32)), .val (.int (1 : Int32)), .val .null, .val (.ref ob), .unset, .unset, .unset] [(.ref oc), (.ref oc)])) t → Steps p.tables e below (s₁.setTop (entryFrame m #[(.long sa), (.long sb), (.int fl), (.int p4), (.int p5)] maxLocals)) t := fun t k => c56 t (by
        show Steps p.tables e below (T46.setTop (mkF m 87 #[.val (.long sa), .second, .val (.long sb), .second, .val (.int fl), .val (.int p4), .val (.int p5), .val (.int (0 : Int32)), .val (.int (1 : Int32)), .val .null, .val (.ref ob), .unset, .unset, .unset] [(.ref oc)])) _
        refine XS.dup X46.here hx rfl (hb hby at_87) rfl rfl ?_
        show Steps p.tables e below (T46.setTop (mkF m 88 #[.val (.long sa), .second, .val (.long sb), .second, .val (.int fl), .val (.int p4), .val (.int p5), .val (.int (0 : Int32)), .val (.int (1 : Int32)), .val .null, .val (.ref ob), .unset, .unset, .unset] [(.ref oc), (.ref oc)])) _
        exact k)
      obtain ⟨s3, T58, h58, q58, X58, e58, E58, S58, kk58, Zz58, Ow58, st58⟩ := ldcS (s := s) (vm0 := T35.vm) X46 hx hZ hown (hw _ (List.mem_of_getElem? (i := 3) rfl)) (fun d hd => hw d (strW d hd)) e46 S35 (Nat.le_trans (Nat.le_trans kk35 K42.1) E46.1) (g := (mkF m 88 #[.val (.long sa), .second, .val (.long sb), .second, .val (.int fl), .val (.int p4), .val (.int p5), .val (.int (0 : Int32)), .val (.int (1 : Int32)), .val .null, .val (.ref ob), .unset, .unset, .unset] [(.ref oc), (.ref oc)])) rfl (hb hby at_88) (n := 4) (by decide) (by decide) (by decide) (by decide)
      have hZ := Zz58
      have hown := Ow58
      have F59 : Exa Z h58 ob "com/example/detectability/detectability/ProteinAbundance" := (F47.ext E58)
      have F60 : Fld Z h58 ob "com/example/detectability/detectability/ProteinAbundance" "name" "Ljava/lang/String;" (.ref s2) := (F48.ext E58)
      have F61 : Fld Z h58 ob "com/example/detectability/detectability/ProteinAbundance" "spectra" "J" (.long sb) := (F49.ext E58)
      have F62 : Fld Z h58 ob "com/example/detectability/detectability/ProteinAbundance" "abundance" "D" (.double db) := (F50.ext E58)
      have F63 : Exa Z h58 oc "com/example/detectability/detectability/ComparedProtein" := (A46.ext E58)
      have F64 : Fld Z h58 oc "com/example/detectability/detectability/ComparedProtein" "name" "Ljava/lang/String;" .null := (F51.ext E58)
      have F65 : Fld Z h58 oc "com/example/detectability/detectability/ComparedProtein" "inA" "Lcom/example/detectability/detectability/ProteinAbundance;" .null := (F52.ext E58)
      have F66 : Fld Z h58 oc "com/example/detectability/detectability/ComparedProtein" "inB" "Lcom/example/detectability/detectability/ProteinAbundance;" .null := (F53.ext E58)
      have F67 : Fld Z h58 oc "com/example/detectability/detectability/ComparedProtein" "z" "D" (.double (0 : UInt64)) := (F54.ext E58)
      have F68 : Fld Z h58 oc "com/example/detectability/detectability/ComparedProtein" "p" "D" (.double (0 : UInt64)) := (F55.ext E58)
      have c69 : ∀ t, Steps p.tables e below (T58.setTop (mkF m 90 #[.val (.long sa), .second, .val (.long sb), .second, .val (.int fl), .val (.int p4), .val (.int p5), .val (.int (0 : Int32)), .val (.int (1 : Int32)), .val .null, .val (.ref ob), .unset, .unset, .unset] [(.ref s3), (.ref oc), (.ref oc)])) t → Steps p.tables e below (s₁.setTop (entryFrame m #[(.long sa), (.long sb), (.int fl), (.int p4), (.int p5)] maxLocals)) t := fun t k => c57 t (st58 _ k)
      have c70 : ∀ t, Steps p.tables e below (T58.setTop (mkF m 96 #[.val (.long sa), .second, .val (.long sb), .second, .val (.int fl), .val (.int p4), .val (.int p5), .val (.int (0 : Int32)), .val (.int (1 : Int32)), .val .null, .val (.ref ob), .unset, .unset, .unset] [(.double FP.dconst1), (.double FP.dconst0), (.ref ob), .null, (.ref s3), (.ref oc), (.ref oc)])) t → Steps p.tables e below (s₁.setTop (entryFrame m #[(.long sa), (.long sb), (.int fl), (.int p4), (.int p5)] maxLocals)) t := fun t k => c69 t (by
        show Steps p.tables e below (T58.setTop (mkF m 90 #[.val (.long sa), .second, .val (.long sb), .second, .val (.int fl), .val (.int p4), .val (.int p5), .val (.int (0 : Int32)), .val (.int (1 : Int32)), .val .null, .val (.ref ob), .unset, .unset, .unset] [(.ref s3), (.ref oc), (.ref oc)])) _
        refine XS.aload X58.here hx rfl (hb hby at_90) rfl rfl ?_
        show Steps p.tables e below (T58.setTop (mkF m 92 #[.val (.long sa), .second, .val (.long sb), .second, .val (.int fl), .val (.int p4), .val (.int p5), .val (.int (0 : Int32)), .val (.int (1 : Int32)), .val .null, .val (.ref ob), .unset, .unset, .unset] [.null, (.ref s3), (.ref oc), (.ref oc)])) _
        refine XS.aload X58.here hx rfl (hb hby at_92) rfl rfl ?_
        show Steps p.tables e below (T58.setTop (mkF m 94 #[.val (.long sa), .second, .val (.long sb), .second, .val (.int fl), .val (.int p4), .val (.int p5), .val (.int (0 : Int32)), .val (.int (1 : Int32)), .val .null, .val (.ref ob), .unset, .unset, .unset] [(.ref ob), .null, (.ref s3), (.ref oc), (.ref oc)])) _
        refine XS.dconst0 X58.here hx rfl (hb hby at_94) rfl ?_
        show Steps p.tables e below (T58.setTop (mkF m 95 #[.val (.long sa), .second, .val (.long sb), .second, .val (.int fl), .val (.int p4), .val (.int p5), .val (.int (0 : Int32)), .val (.int (1 : Int32)), .val .null, .val (.ref ob), .unset, .unset, .unset] [(.double FP.dconst0), (.ref ob), .null, (.ref s3), (.ref oc), (.ref oc)])) _
        refine XS.dconst1 X58.here hx rfl (hb hby at_95) rfl ?_
        show Steps p.tables e below (T58.setTop (mkF m 96 #[.val (.long sa), .second, .val (.long sb), .second, .val (.int fl), .val (.int p4), .val (.int p5), .val (.int (0 : Int32)), .val (.int (1 : Int32)), .val .null, .val (.ref ob), .unset, .unset, .unset] [(.double FP.dconst1), (.double FP.dconst0), (.ref ob), .null, (.ref s3), (.ref oc), (.ref oc)])) _
        exact k)
      obtain ⟨_, _, ⟨T71, L71, k71', n71⟩, -, X71, ⟨Lc71, hQ71, l71, y71, z71⟩, st71⟩ := X58.specialBack hx (y := (⟨"com/example/detectability/detectability/ComparedProtein", "<init>", "(Ljava/lang/String;Lcom/example/detectability/detectability/ProteinAbundance;Lcom/example/detectability/detectability/ProteinAbundance;DD)V"⟩ : MethodName)) rfl hown (mvT hZ (hw _ (List.mem_of_getElem? (i := 11) rfl))) (mvT hZ (hw _ (List.mem_of_getElem? (i := 12) rfl))) (mvT hZ (hw _ (List.mem_of_getElem? (i := 13) rfl))) (by decide) (backOf (W := 1) (rm_ci01 l Z a0 hw [] oc s3 ob FP.dconst0 FP.dconst1 h58 n0 (Nat.le_trans (Nat.le_trans (Nat.le_trans (Nat.le_trans (Nat.le_trans Z0 E29.1) E35.1) K42.1) E46.1) E58.1) F63 F64 F65 F66 F67 F68 (Nat.le_trans (Nat.le_trans (Nat.le_trans (Nat.le_trans Z0 E29.1) E35.1) K42.1) (Nat.le_of_eq g46.symm))) hZ (hw _ (List.mem_of_getElem? (i := 13) rfl)) (hw _ (List.mem_of_getElem? (i := 2) rfl)) (by decide) (by decide)) (g := (mkF m 96 #[.val (.long sa), .second, .val (.long sb), .second, .val (.int fl), .val (.int p4), .val (.int p5), .val (.int (0 : Int32)), .val (.int (1 : Int32)), .val .null, .val (.ref ob), .unset, .unset, .unset] [(.double FP.dconst1), (.double FP.dconst0), (.ref ob), .null, (.ref s3), (.ref oc), (.ref oc)])) rfl (by rw [hml]; rfl) (Steps.refl _) (a := oc) (argsL := [(.ref s3), .null, (.ref ob), (.double FP.dconst0), (.double FP.dconst1)]) (rest := [(.ref oc)]) (lenOf pd__Ljava_lang_String_Lcom_example_detectability_detectability_ProteinAbundance_Lcom_example_detectability_detectability_ProteinAbundance_DD_V rfl) rfl (by show 2 * 0 + _ ≤ _; exact Nat.le_of_eq rfl) (hb hby at_96) (fun _ _ => ⟨rfl, e58, (by decide : 6 + 0 ≤ _), (by decide : 24 + 0 ≤ _)⟩)
      dsimp only [Pt.U, Pt.locs, Pt.cells, Pt.slots] at X71 l71 y71 z71 st71 hQ71
      subst l71 y71 z71
      obtain ⟨rfl, N71, K71, G71_0, G71_1, G71_2, G71_3, G71_4, G71_5⟩ := hQ71
      have M71 := Fr.app M42 N71
      have F72 : Exa Z T71.heap ob "com/example/detectability/detectability/ProteinAbundance" := (F59.keep K71)
      have F73 : Fld Z T71.heap ob "com/example/detectability/detectability/ProteinAbundance" "name" "Ljava/lang/String;" (.ref s2) := (F60.keep K71 (ninS (Nat.ne_of_lt (Nat.lt_of_lt_of_le G42_0.lt (Nat.le_of_eq g46.symm))) nin0))
      have F74 : Fld Z T71.heap ob "com/example/detectability/detectability/ProteinAbundance" "spectra" "J" (.long sb) := (F61.keep K71 (ninS (Nat.ne_of_lt (Nat.lt_of_lt_of_le G42_0.lt (Nat.le_of_eq g46.symm))) nin0))
      have F75 : Fld Z T71.heap ob "com/example/detectability/detectability/ProteinAbundance" "abundance" "D" (.double db) := (F62.keep K71 (ninS (Nat.ne_of_lt (Nat.lt_of_lt_of_le G42_0.lt (Nat.le_of_eq g46.symm))) nin0))
      have F76 : Exa Z T71.heap oc "com/example/detectability/detectability/ComparedProtein" := (F63.keep K71)
      have c77 : ∀ t, Steps p.tables e below (T71.setTop (mkF m 99 #[.val (.long sa), .second, .val (.long sb), .second, .val (.int fl), .val (.int p4), .val (.int p5), .val (.int (0 : Int32)), .val (.int (1 : Int32)), .val .null, .val (.ref ob), .unset, .unset, .unset] [(.ref oc)])) t → Steps p.tables e below (s₁.setTop (entryFrame m #[(.long sa), (.long sb), (.int fl), (.int p4), (.int p5)] maxLocals)) t := fun t k => c70 t (st71.trans k)
      have c78 : ∀ t, Steps p.tables e below (T71.setTop (mkF m 115 #[.val (.long sa), .second, .val (.long sb), .second, .val (.int fl), .val (.int p4), .val (.int p5), .val (.int (0 : Int32)), .val (.int (1 : Int32)), .val .null, .val (.ref ob), .val (.ref oc), .val (.long sb), .second] [(.ref oc)])) t → Steps p.tables e below (s₁.setTop (entryFrame m #[(.long sa), (.long sb), (.int fl), (.int p4), (.int p5)] maxLocals)) t := fun t k => c77 t (by
        show Steps p.tables e below (T71.setTop (mkF m 99 #[.val (.long sa), .second, .val (.long sb), .second, .val (.int fl), .val (.int p4), .val (.int p5), .val (.int (0 : Int32)), .val (.int (1 : Int32)), .val .null, .val (.ref ob), .unset, .unset, .unset] [(.ref oc)])) _
        refine XS.astore X71.here hx rfl (hb hby at_99) rfl rfl (l' := #[.val (.long sa), .second, .val (.long sb), .second, .val (.int fl), .val (.int p4), .val (.int p5), .val (.int (0 : Int32)), .val (.int (1 : Int32)), .val .null, .val (.ref ob), .val (.ref oc), .unset, .unset]) rfl ?_
        show Steps p.tables e below (T71.setTop (mkF m 101 #[.val (.long sa), .second, .val (.long sb), .second, .val (.int fl), .val (.int p4), .val (.int p5), .val (.int (0 : Int32)), .val (.int (1 : Int32)), .val .null, .val (.ref ob), .val (.ref oc), .unset, .unset] [])) _
        refine XS.iload X71.here hx rfl (hb hby at_101) rfl ?_
        show Steps p.tables e below (T71.setTop (mkF m 103 #[.val (.long sa), .second, .val (.long sb), .second, .val (.int fl), .val (.int p4), .val (.int p5), .val (.int (0 : Int32)), .val (.int (1 : Int32)), .val .null, .val (.ref ob), .val (.ref oc), .unset, .unset] [(.int (1 : Int32))])) _
        refine XS.ifNo X71.here hx rfl (hb hby at_103) rfl (XT.i0_eq_f (by decide)) ?_
        show Steps p.tables e below (T71.setTop (mkF m 106 #[.val (.long sa), .second, .val (.long sb), .second, .val (.int fl), .val (.int p4), .val (.int p5), .val (.int (0 : Int32)), .val (.int (1 : Int32)), .val .null, .val (.ref ob), .val (.ref oc), .unset, .unset] [])) _
        refine XT.lloadN X71.here hx rfl (hb hby at_106) rfl ?_
        show Steps p.tables e below (T71.setTop (mkF m 107 #[.val (.long sa), .second, .val (.long sb), .second, .val (.int fl), .val (.int p4), .val (.int p5), .val (.int (0 : Int32)), .val (.int (1 : Int32)), .val .null, .val (.ref ob), .val (.ref oc), .unset, .unset] [(.long sb)])) _
        refine XS.goto X71.here hx rfl (pc0 := 107) (pc' := 111) rfl (hb hby at_107) (by decide) (by decide) ?_
        show Steps p.tables e below (T71.setTop (mkF m 111 #[.val (.long sa), .second, .val (.long sb), .second, .val (.int fl), .val (.int p4), .val (.int p5), .val (.int (0 : Int32)), .val (.int (1 : Int32)), .val .null, .val (.ref ob), .val (.ref oc), .unset, .unset] [(.long sb)])) _
        refine XT.lstore X71.here hx rfl (hb hby at_111) rfl (l' := #[.val (.long sa), .second, .val (.long sb), .second, .val (.int fl), .val (.int p4), .val (.int p5), .val (.int (0 : Int32)), .val (.int (1 : Int32)), .val .null, .val (.ref ob), .val (.ref oc), .val (.long sb), .second]) rfl ?_
        show Steps p.tables e below (T71.setTop (mkF m 113 #[.val (.long sa), .second, .val (.long sb), .second, .val (.int fl), .val (.int p4), .val (.int p5), .val (.int (0 : Int32)), .val (.int (1 : Int32)), .val .null, .val (.ref ob), .val (.ref oc), .val (.long sb), .second] [])) _
        refine XS.aload X71.here hx rfl (hb hby at_113) rfl rfl ?_
        show Steps p.tables e below (T71.setTop (mkF m 115 #[.val (.long sa), .second, .val (.long sb), .second, .val (.int fl), .val (.int p4), .val (.int p5), .val (.int (0 : Int32)), .val (.int (1 : Int32)), .val .null, .val (.ref ob), .val (.ref oc), .val (.long sb), .second] [(.ref oc)])) _
        exact k)
      obtain ⟨cq79, kq79, q79a, q79b, q79c⟩ := isOf hZ rfl G71_0
      obtain ⟨_, _, ⟨T79, L79, k79', n79⟩, -, X79, ⟨Lc79, hQ79, l79, y79, z79⟩, st79⟩ := X71.virtualBack hx (y := (⟨"com/example/detectability/detectability/ComparedProtein", "getSpectraB", "()J"⟩ : MethodName)) (z := (⟨"com/example/detectability/detectability/ComparedProtein", "getSpectraB", "()J"⟩ : MethodName)) hown (mvT hZ (hw _ (List.mem_of_getElem? (i := 27) rfl))) (mvT hZ (hw _ (List.mem_of_getElem? (i := 28) rfl))) (notFace_of_selects (args := #[]) (mvT hZ (hw _ (List.mem_of_getElem? (i := 30) rfl)))) (mvT hZ (hw _ (List.mem_of_getElem? (i := 30) rfl))) (mvT hZ (hw _ (List.mem_of_getElem? (i := 29) rfl))) (by decide) (backOf (W := 0) (rm_cg1 l Z a0 hw [] oc ob sb T71.heap n0 (Nat.le_trans (Nat.le_trans (Nat.le_trans (Nat.le_trans (Nat.le_trans (Nat.le_trans Z0 E29.1) E35.1) K42.1) E46.1) E58.1) K71.1) G71_3 F72 F74) hZ (hw _ (List.mem_of_getElem? (i := 31) rfl)) (hw _ (List.mem_of_getElem? (i := 2) rfl)) (by decide) (by decide)) q79a q79c (g := (mkF m 115 #[.val (.long sa), .second, .val (.long sb), .second, .val (.int fl), .val (.int p4), .val (.int p5), .val (.int (0 : Int32)), .val (.int (1 : Int32)), .val .null, .val (.ref ob), .val (.ref oc), .val (.long sb), .second] [(.ref oc)])) rfl (by rw [hml]; rfl) (Steps.refl _) (argsL := []) (rest := []) (lenOf pd___J rfl) rfl (by show 2 * 0 + _ ≤ _; exact Nat.le_of_eq rfl) (hb hby at_115) (fun _ _ => ⟨rfl, rfl, (by decide : 6 + 0 ≤ _), (by decide : 24 + 0 ≤ _)⟩)
      dsimp only [Pt.U, Pt.locs, Pt.cells, Pt.slots] at X79 l79 y79 z79 st79 hQ79
      subst l79 y79 z79
      obtain ⟨rfl, N79, e79⟩ := hQ79
      have M79 := Fr.app M71 N79
      have c80 : ∀ t, Steps p.tables e below (T79.setTop (mkF m 118 #[.val (.long sa), .second, .val (.long sb), .second, .val (.int fl), .val (.int p4), .val (.int p5), .val (.int (0 : Int32)), .val (.int (1 : Int32)), .val .null, .val (.ref ob), .val (.ref oc), .val (.long sb), .second] [(.long sb)])) t → Steps p.tables e below (s₁.setTop (entryFrame m #[(.long sa), (.long sb), (.int fl), (.int p4), (.int p5)] maxLocals)) t := fun t k => c78 t (st79.trans k)
      have c81 : ∀ t, Steps p.tables e below (T79.setTop (mkF m 129 #[.val (.long sa), .second, .val (.long sb), .second, .val (.int fl), .val (.int p4), .val (.int p5), .val (.int (0 : Int32)), .val (.int (1 : Int32)), .val .null, .val (.ref ob), .val (.ref oc), .val (.long sb), .second] [(.int (1 : Int32))])) t → Steps p.tables e below (s₁.setTop (entryFrame m #[(.long sa), (.long sb), (.int fl), (.int p4), (.int p5)] maxLocals)) t := fun t k => c80 t (by
        show Steps p.tables e below (T79.setTop (mkF m 118 #[.val (.long sa), .second, .val (.long sb), .second, .val (.int fl), .val (.int p4), .val (.int p5), .val (.int (0 : Int32)), .val (.int (1 : Int32)), .val .null, .val (.ref ob), .val (.ref oc), .val (.long sb), .second] [(.long sb)])) _
        refine XT.lload X79.here hx rfl (hb hby at_118) rfl ?_
        show Steps p.tables e below (T79.setTop (mkF m 120 #[.val (.long sa), .second, .val (.long sb), .second, .val (.int fl), .val (.int p4), .val (.int p5), .val (.int (0 : Int32)), .val (.int (1 : Int32)), .val .null, .val (.ref ob), .val (.ref oc), .val (.long sb), .second] [(.long sb), (.long sb)])) _
        refine XT.lcmp X79.here hx rfl (hb hby at_120) rfl ?_
        show Steps p.tables e below (T79.setTop (mkF m 121 #[.val (.long sa), .second, .val (.long sb), .second, .val (.int fl), .val (.int p4), .val (.int p5), .val (.int (0 : Int32)), .val (.int (1 : Int32)), .val .null, .val (.ref ob), .val (.ref oc), .val (.long sb), .second] [(.int (XT.cmpL sb sb))])) _
        refine XS.ifNo X79.here hx rfl (hb hby at_121) rfl (XT.ll_ne_f (rfl)) ?_
        show Steps p.tables e below (T79.setTop (mkF m 124 #[.val (.long sa), .second, .val (.long sb), .second, .val (.int fl), .val (.int p4), .val (.int p5), .val (.int (0 : Int32)), .val (.int (1 : Int32)), .val .null, .val (.ref ob), .val (.ref oc), .val (.long sb), .second] [])) _
        refine XS.iconst X79.here hx rfl (hb hby at_124) ?_
        show Steps p.tables e below (T79.setTop (mkF m 125 #[.val (.long sa), .second, .val (.long sb), .second, .val (.int fl), .val (.int p4), .val (.int p5), .val (.int (0 : Int32)), .val (.int (1 : Int32)), .val .null, .val (.ref ob), .val (.ref oc), .val (.long sb), .second] [(.int (1 : Int32))])) _
        refine XS.goto X79.here hx rfl (pc0 := 125) (pc' := 129) rfl (hb hby at_125) (by decide) (by decide) ?_
        show Steps p.tables e below (T79.setTop (mkF m 129 #[.val (.long sa), .second, .val (.long sb), .second, .val (.int fl), .val (.int p4), .val (.int p5), .val (.int (0 : Int32)), .val (.int (1 : Int32)), .val .null, .val (.ref ob), .val (.ref oc), .val (.long sb), .second] [(.int (1 : Int32))])) _
        exact k)
      have hsz : q58 ≤ T79.heap.size := by rw [e79]; exact (Nat.le_trans kk58 K71.1)
      obtain ⟨fs, hr, hrun, hended, hRW⟩ := Jvm.Stand.leaveW (s := s) (vm₁ := T58.vm) X79 S58 hsz (v := (some (.int (1 : Int32)))) (fun h => by rw [Bd.returns] at h; cases h)
      refine ⟨_, _, pre0 _ (c81 _ (retN X79 hx (t := .boolean) Bd.returns (by simp) (hb hby at_129) hr)), hrun, hended, _, _, rfl, ?_, hRW.1, hRW.2.1, hRW.2.2.1, hRW.2.2.2.mono (by decide) (by decide)⟩
      show Q_0 Z sa sb fl p4 p5 h0 n0 _ T79.heap _
      rw [e79]
      exact ⟨rfl, M79⟩
  · skip
    have c82 : ∀ t, Steps p.tables e below (s₁.setTop (mkF m 18 #[.val (.long sa), .second, .val (.long sb), .second, .val (.int fl), .val (.int p4), .val (.int p5), .val (.int (1 : Int32)), .unset, .unset, .unset, .unset, .unset, .unset] [(.int (fl &&& (2 : Int32)))])) t → Steps p.tables e below (s₁.setTop (entryFrame m #[(.long sa), (.long sb), (.int fl), (.int p4), (.int p5)] maxLocals)) t := fun t k => c1 t (by
      show Steps p.tables e below (s₁.setTop (mkF m 4 #[.val (.long sa), .second, .val (.long sb), .second, .val (.int fl), .val (.int p4), .val (.int p5), .unset, .unset, .unset, .unset, .unset, .unset, .unset] [(.int (fl &&& (1 : Int32)))])) _
      refine XS.ifNo X0.here hx rfl (hb hby at_4) rfl (XT.i0_eq_f qa) ?_
      show Steps p.tables e below (s₁.setTop (mkF m 7 #[.val (.long sa), .second, .val (.long sb), .second, .val (.int fl), .val (.int p4), .val (.int p5), .unset, .unset, .unset, .unset, .unset, .unset, .unset] [])) _
      refine XS.iconst X0.here hx rfl (hb hby at_7) ?_
      show Steps p.tables e below (s₁.setTop (mkF m 8 #[.val (.long sa), .second, .val (.long sb), .second, .val (.int fl), .val (.int p4), .val (.int p5), .unset, .unset, .unset, .unset, .unset, .unset, .unset] [(.int (1 : Int32))])) _
      refine XS.goto X0.here hx rfl (pc0 := 8) (pc' := 12) rfl (hb hby at_8) (by decide) (by decide) ?_
      show Steps p.tables e below (s₁.setTop (mkF m 12 #[.val (.long sa), .second, .val (.long sb), .second, .val (.int fl), .val (.int p4), .val (.int p5), .unset, .unset, .unset, .unset, .unset, .unset, .unset] [(.int (1 : Int32))])) _
      refine XS.istore X0.here hx rfl (hb hby at_12) rfl (l' := #[.val (.long sa), .second, .val (.long sb), .second, .val (.int fl), .val (.int p4), .val (.int p5), .val (.int (1 : Int32)), .unset, .unset, .unset, .unset, .unset, .unset]) rfl ?_
      show Steps p.tables e below (s₁.setTop (mkF m 14 #[.val (.long sa), .second, .val (.long sb), .second, .val (.int fl), .val (.int p4), .val (.int p5), .val (.int (1 : Int32)), .unset, .unset, .unset, .unset, .unset, .unset] [])) _
      refine XS.iload X0.here hx rfl (hb hby at_14) rfl ?_
      show Steps p.tables e below (s₁.setTop (mkF m 16 #[.val (.long sa), .second, .val (.long sb), .second, .val (.int fl), .val (.int p4), .val (.int p5), .val (.int (1 : Int32)), .unset, .unset, .unset, .unset, .unset, .unset] [(.int fl)])) _
      refine XS.iconst X0.here hx rfl (hb hby at_16) ?_
      show Steps p.tables e below (s₁.setTop (mkF m 17 #[.val (.long sa), .second, .val (.long sb), .second, .val (.int fl), .val (.int p4), .val (.int p5), .val (.int (1 : Int32)), .unset, .unset, .unset, .unset, .unset, .unset] [(.int (2 : Int32)), (.int fl)])) _
      refine XS.iand X0.here hx rfl (hb hby at_17) rfl ?_
      show Steps p.tables e below (s₁.setTop (mkF m 18 #[.val (.long sa), .second, .val (.long sb), .second, .val (.int fl), .val (.int p4), .val (.int p5), .val (.int (1 : Int32)), .unset, .unset, .unset, .unset, .unset, .unset] [(.int (fl &&& (2 : Int32)))])) _
      exact k)
    by_cases qb : (fl &&& (2 : Int32)) = 0
    · skip
      have c83 : ∀ t, Steps p.tables e below (s₁.setTop (mkF m 33 #[.val (.long sa), .second, .val (.long sb), .second, .val (.int fl), .val (.int p4), .val (.int p5), .val (.int (1 : Int32)), .val (.int (0 : Int32)), .unset, .unset, .unset, .unset, .unset] [])) t → Steps p.tables e below (s₁.setTop (entryFrame m #[(.long sa), (.long sb), (.int fl), (.int p4), (.int p5)] maxLocals)) t := fun t k => c82 t (by
        show Steps p.tables e below (s₁.setTop (mkF m 18 #[.val (.long sa), .second, .val (.long sb), .second, .val (.int fl), .val (.int p4), .val (.int p5), .val (.int (1 : Int32)), .unset, .unset, .unset, .unset, .unset, .unset] [(.int (fl &&& (2 : Int32)))])) _
        refine XS.ifYes X0.here hx rfl (pc0 := 18) (pc' := 25) rfl (hb hby at_18) rfl (XT.i0_eq_t qb) (by decide) (by decide) ?_
        show Steps p.tables e below (s₁.setTop (mkF m 25 #[.val (.long sa), .second, .val (.long sb), .second, .val (.int fl), .val (.int p4), .val (.int p5), .val (.int (1 : Int32)), .unset, .unset, .unset, .unset, .unset, .unset] [])) _
        refine XS.iconst X0.here hx rfl (hb hby at_25) ?_
        show Steps p.tables e below (s₁.setTop (mkF m 26 #[.val (.long sa), .second, .val (.long sb), .second, .val (.int fl), .val (.int p4), .val (.int p5), .val (.int (1 : Int32)), .unset, .unset, .unset, .unset, .unset, .unset] [(.int (0 : Int32))])) _
        refine XS.istore X0.here hx rfl (hb hby at_26) rfl (l' := #[.val (.long sa), .second, .val (.long sb), .second, .val (.int fl), .val (.int p4), .val (.int p5), .val (.int (1 : Int32)), .val (.int (0 : Int32)), .unset, .unset, .unset, .unset, .unset]) rfl ?_
        show Steps p.tables e below (s₁.setTop (mkF m 28 #[.val (.long sa), .second, .val (.long sb), .second, .val (.int fl), .val (.int p4), .val (.int p5), .val (.int (1 : Int32)), .val (.int (0 : Int32)), .unset, .unset, .unset, .unset, .unset] [])) _
        refine XS.iload X0.here hx rfl (hb hby at_28) rfl ?_
        show Steps p.tables e below (s₁.setTop (mkF m 30 #[.val (.long sa), .second, .val (.long sb), .second, .val (.int fl), .val (.int p4), .val (.int p5), .val (.int (1 : Int32)), .val (.int (0 : Int32)), .unset, .unset, .unset, .unset, .unset] [(.int (1 : Int32))])) _
        refine XS.ifNo X0.here hx rfl (hb hby at_30) rfl (XT.i0_eq_f (by decide)) ?_
        show Steps p.tables e below (s₁.setTop (mkF m 33 #[.val (.long sa), .second, .val (.long sb), .second, .val (.int fl), .val (.int p4), .val (.int p5), .val (.int (1 : Int32)), .val (.int (0 : Int32)), .unset, .unset, .unset, .unset, .unset] [])) _
        exact k)
      obtain ⟨T84, h84, X84, e84, E84, A84, D84, -, st84⟩ := newO X0 hx hZ hown (hw _ (List.mem_of_getElem? (i := 32) rfl)) (hw _ (List.mem_of_getElem? (i := 33) rfl)) (hw _ (List.mem_of_getElem? (i := 34) rfl)) e0 (g := (mkF m 33 #[.val (.long sa), .second, .val (.long sb), .second, .val (.int fl), .val (.int p4), .val (.int p5), .val (.int (1 : Int32)), .val (.int (0 : Int32)), .unset, .unset, .unset, .unset, .unset] [])) rfl (hb hby at_33) (by decide) (by decide)
      obtain ⟨oa, g84⟩ : ∃ z, z = h0.size := ⟨_, rfl⟩
      rw [← g84] at A84 D84 st84
      have F85 : Fld Z h84 oa "com/example/detectability/detectability/ProteinAbundance" "name" "Ljava/lang/String;" .null := (D84 (Or.inr (hw _ (List.mem_of_getElem? (i := 40) rfl))) (ty := (.object "java/lang/String")) (by decide))
      have F86 : Fld Z h84 oa "com/example/detectability/detectability/ProteinAbundance" "spectra" "J" (.long (0 : Int64)) := (D84 (Or.inr (hw _ (List.mem_of_getElem? (i := 42) rfl))) (ty := .long) (by decide))
      have F87 : Fld Z h84 oa "com/example/detectability/detectability/ProteinAbundance" "abundance" "D" (.double (0 : UInt64)) := (D84 (Or.inr (hw _ (List.mem_of_getElem? (i := 44) rfl))) (ty := .double) (by decide))
      have c88 : ∀ t, Steps p.tables e below (T84.setTop (mkF m 36 #[.val (.long sa), .second, .val (.long sb), .second, .val (.int fl), .val (.int p4), .val (.int p5), .val (.int (1 : Int32)), .val (.int (0 : Int32)), .unset, .unset, .unset, .unset, .unset] [(.ref oa)])) t → Steps p.tables e below (s₁.setTop (entryFrame m #[(.long sa), (.long sb), (.int fl), (.int p4), (.int p5)] maxLocals)) t := fun t k => c83 t (st84 _ k)
      have c89 : ∀ t, Steps p.tables e below (T84.setTop (mkF m 37 #[.val (.long sa), .second, .val (.long sb), .second, .val (.int fl), .val (.int p4), .val (.int p5), .val (.int (1 : Int32)), .val (.int (0 : Int32)), .unset, .unset, .unset, .unset, .unset] [(.ref oa), (.ref oa)])) t → Steps p.tables e below (s₁.setTop (entryFrame m #[(.long sa), (.long sb), (.int fl), (.int p4), (.int p5)] maxLocals)) t := fun t k => c88 t (by
        show Steps p.tables e below (T84.setTop (mkF m 36 #[.val (.long sa), .second, .val (.long sb), .second, .val (.int fl), .val (.int p4), .val (.int p5), .val (.int (1 : Int32)), .val (.int (0 : Int32)), .unset, .unset, .unset, .unset, .unset] [(.ref oa)])) _
        refine XS.dup X84.here hx rfl (hb hby at_36) rfl rfl ?_
        show Steps p.tables e below (T84.setTop (mkF m 37 #[.val (.long sa), .second, .val (.long sb), .second, .val (.int fl), .val (.int p4), .val (.int p5), .val (.int (1 : Int32)), .val (.int (0 : Int32)), .unset, .unset, .unset, .unset, .unset] [(.ref oa), (.ref oa)])) _
        exact k)
      obtain ⟨s1, T90, h90, q90, X90, e90, E90, S90, kk90, Zz90, Ow90, st90⟩ := ldcS (s := s) (vm0 := s.vm) X84 hx hZ hown (hw _ (List.mem_of_getElem? (i := 3) rfl)) (fun d hd => hw d (strW d hd)) e84 ((State.WarmedH.refl s).since 0) (Nat.zero_le _) (g := (mkF m 37 #[.val (.long sa), .second, .val (.long sb), .second, .val (.int fl), .val (.int p4), .val (.int p5), .val (.int (1 : Int32)), .val (.int (0 : Int32)), .unset, .unset, .unset, .unset, .unset] [(.ref oa), (.ref oa)])) rfl (hb hby at_37) (n := 4) (by decide) (by decide) (by decide) (by decide)
      have hZ := Zz90
      have hown := Ow90
      have F91 : Exa Z h90 oa "com/example/detectability/detectability/ProteinAbundance" := (A84.ext E90)
      have F92 : Fld Z h90 oa "com/example/detectability/detectability/ProteinAbundance" "name" "Ljava/lang/String;" .null := (F85.ext E90)
      have F93 : Fld Z h90 oa "com/example/detectability/detectability/ProteinAbundance" "spectra" "J" (.long (0 : Int64)) := (F86.ext E90)
      have F94 : Fld Z h90 oa "com/example/detectability/detectability/ProteinAbundance" "abundance" "D" (.double (0 : UInt64)) := (F87.ext E90)
      have c95 : ∀ t, Steps p.tables e below (T90.setTop (mkF m 39 #[.val (.long sa), .second, .val (.long sb), .second, .val (.int fl), .val (.int p4), .val (.int p5), .val (.int (1 : Int32)), .val (.int (0 : Int32)), .unset, .unset, .unset, .unset, .unset] [(.ref s1), (.ref oa), (.ref oa)])) t → Steps p.tables e below (s₁.setTop (entryFrame m #[(.long sa), (.long sb), (.int fl), (.int p4), (.int p5)] maxLocals)) t := fun t k => c89 t (st90 _ k)
      obtain ⟨da, hda⟩ : ∃ v : UInt64, FP.i2d (p4 &&& (255 : Int32)) = v := ⟨_, rfl⟩
      have c96 : ∀ t, Steps p.tables e below (T90.setTop (mkF m 47 #[.val (.long sa), .second, .val (.long sb), .second, .val (.int fl), .val (.int p4), .val (.int p5), .val (.int (1 : Int32)), .val (.int (0 : Int32)), .unset, .unset, .unset, .unset, .unset] [(.double da), (.long sa), (.ref s1), (.ref oa), (.ref oa)])) t → Steps p.tables e below (s₁.setTop (entryFrame m #[(.long sa), (.long sb), (.int fl), (.int p4), (.int p5)] maxLocals)) t := fun t k => c95 t (by
        show Steps p.tables e below (T90.setTop (mkF m 39 #[.val (.long sa), .second, .val (.long sb), .second, .val (.int fl), .val (.int p4), .val (.int p5), .val (.int (1 : Int32)), .val (.int (0 : Int32)), .unset, .unset, .unset, .unset, .unset] [(.ref s1), (.ref oa), (.ref oa)])) _
        refine XT.lloadN X90.here hx rfl (hb hby at_39) rfl ?_
        show Steps p.tables e below (T90.setTop (mkF m 40 #[.val (.long sa), .second, .val (.long sb), .second, .val (.int fl), .val (.int p4), .val (.int p5), .val (.int (1 : Int32)), .val (.int (0 : Int32)), .unset, .unset, .unset, .unset, .unset] [(.long sa), (.ref s1), (.ref oa), (.ref oa)])) _
        refine XS.iload X90.here hx rfl (hb hby at_40) rfl ?_
        show Steps p.tables e below (T90.setTop (mkF m 42 #[.val (.long sa), .second, .val (.long sb), .second, .val (.int fl), .val (.int p4), .val (.int p5), .val (.int (1 : Int32)), .val (.int (0 : Int32)), .unset, .unset, .unset, .unset, .unset] [(.int p4), (.long sa), (.ref s1), (.ref oa), (.ref oa)])) _
        refine XS.sipush X90.here hx rfl (hb hby at_42) ?_
        show Steps p.tables e below (T90.setTop (mkF m 45 #[.val (.long sa), .second, .val (.long sb), .second, .val (.int fl), .val (.int p4), .val (.int p5), .val (.int (1 : Int32)), .val (.int (0 : Int32)), .unset, .unset, .unset, .unset, .unset] [(.int (255 : Int32)), (.int p4), (.long sa), (.ref s1), (.ref oa), (.ref oa)])) _
        refine XS.iand X90.here hx rfl (hb hby at_45) rfl ?_
        show Steps p.tables e below (T90.setTop (mkF m 46 #[.val (.long sa), .second, .val (.long sb), .second, .val (.int fl), .val (.int p4), .val (.int p5), .val (.int (1 : Int32)), .val (.int (0 : Int32)), .unset, .unset, .unset, .unset, .unset] [(.int (p4 &&& (255 : Int32))), (.long sa), (.ref s1), (.ref oa), (.ref oa)])) _
        refine XS.i2dS X90.here hx rfl (hb hby at_46) rfl hda ?_
        show Steps p.tables e below (T90.setTop (mkF m 47 #[.val (.long sa), .second, .val (.long sb), .second, .val (.int fl), .val (.int p4), .val (.int p5), .val (.int (1 : Int32)), .val (.int (0 : Int32)), .unset, .unset, .unset, .unset, .unset] [(.double da), (.long sa), (.ref s1), (.ref oa), (.ref oa)])) _
        exact k)
      obtain ⟨_, _, ⟨T97, L97, k97', n97⟩, -, X97, ⟨Lc97, hQ97, l97, y97, z97⟩, st97⟩ := X90.specialBack hx (y := (⟨"com/example/detectability/detectability/ProteinAbundance", "<init>", "(Ljava/lang/String;JD)V"⟩ : MethodName)) rfl hown (mvT hZ (hw _ (List.mem_of_getElem? (i := 35) rfl))) (mvT hZ (hw _ (List.mem_of_getElem? (i := 36) rfl))) (mvT hZ (hw _ (List.mem_of_getElem? (i := 37) rfl))) (by decide) (backOf (W := 1) (rm_pi l Z a0 hw [] oa s1 sa da h90 n0 (Nat.le_trans (Nat.le_trans Z0 E84.1) E90.1) F91 F92 F93 F94 (Nat.le_trans Z0 (Nat.le_of_eq g84.symm))) hZ (hw _ (List.mem_of_getElem? (i := 37) rfl)) (hw _ (List.mem_of_getElem? (i := 34) rfl)) (by decide) (by decide)) (g := (mkF m 47 #[.val (.long sa), .second, .val (.long sb), .second, .val (.int fl), .val (.int p4), .val (.int p5), .val (.int (1 : Int32)), .val (.int (0 : Int32)), .unset, .unset, .unset, .unset, .unset] [(.double da), (.long sa), (.ref s1), (.ref oa), (.ref oa)])) rfl (by rw [hml]; rfl) (Steps.refl _) (a := oa) (argsL := [(.ref s1), (.long sa), (.double da)]) (rest := [(.ref oa)]) (lenOf pd__Ljava_lang_String_JD_V rfl) rfl (by show 2 * 0 + _ ≤ _; exact Nat.le_of_eq rfl) (hb hby at_47) (fun _ _ => ⟨rfl, e90, (by decide : 3 + 0 ≤ _), (by decide : 11 + 0 ≤ _)⟩)
      dsimp only [Pt.U, Pt.locs, Pt.cells, Pt.slots] at X97 l97 y97 z97 st97 hQ97
      subst l97 y97 z97
      obtain ⟨rfl, N97, K97, G97_0, G97_1, G97_2, G97_3⟩ := hQ97
      have M97 := Fr.app N0 N97
      have F98 : Exa Z T97.heap oa "com/example/detectability/detectability/ProteinAbundance" := (F91.keep K97)
      have c99 : ∀ t, Steps p.tables e below (T97.setTop (mkF m 50 #[.val (.long sa), .second, .val (.long sb), .second, .val (.int fl), .val (.int p4), .val (.int p5), .val (.int (1 : Int32)), .val (.int (0 : Int32)), .unset, .unset, .unset, .unset, .unset] [(.ref oa)])) t → Steps p.tables e below (s₁.setTop (entryFrame m #[(.long sa), (.long sb), (.int fl), (.int p4), (.int p5)] maxLocals)) t := fun t k => c96 t (st97.trans k)
      have c100 : ∀ t, Steps p.tables e below (T97.setTop (mkF m 84 #[.val (.long sa), .second, .val (.long sb), .second, .val (.int fl), .val (.int p4), .val (.int p5), .val (.int (1 : Int32)), .val (.int (0 : Int32)), .val (.ref oa), .val .null, .unset, .unset, .unset] [])) t → Steps p.tables e below (s₁.setTop (entryFrame m #[(.long sa), (.long sb), (.int fl), (.int p4), (.int p5)] maxLocals)) t := fun t k => c99 t (by
        show Steps p.tables e below (T97.setTop (mkF m 50 #[.val (.long sa), .second, .val (.long sb), .second, .val (.int fl), .val (.int p4), .val (.int p5), .val (.int (1 : Int32)), .val (.int (0 : Int32)), .unset, .unset, .unset, .unset, .unset] [(.ref oa)])) _
        refine XS.goto X97.here hx rfl (pc0 := 50) (pc' := 54) rfl (hb hby at_50) (by decide) (by decide) ?_
        show Steps p.tables e below (T97.setTop (mkF m 54 #[.val (.long sa), .second, .val (.long sb), .second, .val (.int fl), .val (.int p4), .val (.int p5), .val (.int (1 : Int32)), .val (.int (0 : Int32)), .unset, .unset, .unset, .unset, .unset] [(.ref oa)])) _
        refine XS.astore X97.here hx rfl (hb hby at_54) rfl rfl (l' := #[.val (.long sa), .second, .val (.long sb), .second, .val (.int fl), .val (.int p4), .val (.int p5), .val (.int (1 : Int32)), .val (.int (0 : Int32)), .val (.ref oa), .unset, .unset, .unset, .unset]) rfl ?_
        show Steps p.tables e below (T97.setTop (mkF m 56 #[.val (.long sa), .second, .val (.long sb), .second, .val (.int fl), .val (.int p4), .val (.int p5), .val (.int (1 : Int32)), .val (.int (0 : Int32)), .val (.ref oa), .unset, .unset, .unset, .unset] [])) _
        refine XS.iload X97.here hx rfl (hb hby at_56) rfl ?_
        show Steps p.tables e below (T97.setTop (mkF m 58 #[.val (.long sa), .second, .val (.long sb), .second, .val (.int fl), .val (.int p4), .val (.int p5), .val (.int (1 : Int32)), .val (.int (0 : Int32)), .val (.ref oa), .unset, .unset, .unset, .unset] [(.int (0 : Int32))])) _
        refine XS.ifYes X97.here hx rfl (pc0 := 58) (pc' := 81) rfl (hb hby at_58) rfl (XT.i0_eq_t (by decide)) (by decide) (by decide) ?_
        show Steps p.tables e below (T97.setTop (mkF m 81 #[.val (.long sa), .second, .val (.long sb), .second, .val (.int fl), .val (.int p4), .val (.int p5), .val (.int (1 : Int32)), .val (.int (0 : Int32)), .val (.ref oa), .unset, .unset, .unset, .unset] [])) _
        refine XS.aconstNull X97.here hx rfl (hb hby at_81) ?_
        show Steps p.tables e below (T97.setTop (mkF m 82 #[.val (.long sa), .second, .val (.long sb), .second, .val (.int fl), .val (.int p4), .val (.int p5), .val (.int (1 : Int32)), .val (.int (0 : Int32)), .val (.ref oa), .unset, .unset, .unset, .unset] [.null])) _
        refine XS.astore X97.here hx rfl (hb hby at_82) rfl rfl (l' := #[.val (.long sa), .second, .val (.long sb), .second, .val (.int fl), .val (.int p4), .val (.int p5), .val (.int (1 : Int32)), .val (.int (0 : Int32)), .val (.ref oa), .val .null, .unset, .unset, .unset]) rfl ?_
        show Steps p.tables e below (T97.setTop (mkF m 84 #[.val (.long sa), .second, .val (.long sb), .second, .val (.int fl), .val (.int p4), .val (.int p5), .val (.int (1 : Int32)), .val (.int (0 : Int32)), .val (.ref oa), .val .null, .unset, .unset, .unset] [])) _
        exact k)
      obtain ⟨T101, h101, X101, e101, E101, A101, D101, -, st101⟩ := newO X97 hx hZ hown (hw _ (List.mem_of_getElem? (i := 0) rfl)) (hw _ (List.mem_of_getElem? (i := 1) rfl)) (hw _ (List.mem_of_getElem? (i := 2) rfl)) rfl (g := (mkF m 84 #[.val (.long sa), .second, .val (.long sb), .second, .val (.int fl), .val (.int p4), .val (.int p5), .val (.int (1 : Int32)), .val (.int (0 : Int32)), .val (.ref oa), .val .null, .unset, .unset, .unset] [])) rfl (hb hby at_84) (by decide) (by decide)
      obtain ⟨oc, g101⟩ : ∃ z, z = T97.heap.size := ⟨_, rfl⟩
      rw [← g101] at A101 D101 st101
      have F102 : Exa Z h101 oa "com/example/detectability/detectability/ProteinAbundance" := (G97_0.ext E101)
      have F103 : Fld Z h101 oa "com/example/detectability/detectability/ProteinAbundance" "name" "Ljava/lang/String;" (.ref s1) := (G97_1.ext E101)
      have F104 : Fld Z h101 oa "com/example/detectability/detectability/ProteinAbundance" "spectra" "J" (.long sa) := (G97_2.ext E101)
      have F105 : Fld Z h101 oa "com/example/detectability/detectability/ProteinAbundance" "abundance" "D" (.double da) := (G97_3.ext E101)
      have F106 : Fld Z h101 oc "com/example/detectability/detectability/ComparedProtein" "name" "Ljava/lang/String;" .null := (D101 (Or.inr (hw _ (List.mem_of_getElem? (i := 18) rfl))) (ty := (.object "java/lang/String")) (by decide))
      have F107 : Fld Z h101 oc "com/example/detectability/detectability/ComparedProtein" "inA" "Lcom/example/detectability/detectability/ProteinAbundance;" .null := (D101 (Or.inr (hw _ (List.mem_of_getElem? (i := 20) rfl))) (ty := (.object "com/example/detectability/detectability/ProteinAbundance")) (by decide))
      have F108 : Fld Z h101 oc "com/example/detectability/detectability/ComparedProtein" "inB" "Lcom/example/detectability/detectability/ProteinAbundance;" .null := (D101 (Or.inr (hw _ (List.mem_of_getElem? (i := 22) rfl))) (ty := (.object "com/example/detectability/detectability/ProteinAbundance")) (by decide))
      have F109 : Fld Z h101 oc "com/example/detectability/detectability/ComparedProtein" "z" "D" (.double (0 : UInt64)) := (D101 (Or.inr (hw _ (List.mem_of_getElem? (i := 24) rfl))) (ty := .double) (by decide))
      have F110 : Fld Z h101 oc "com/example/detectability/detectability/ComparedProtein" "p" "D" (.double (0 : UInt64)) := (D101 (Or.inr (hw _ (List.mem_of_getElem? (i := 26) rfl))) (ty := .double) (by decide))
      have c111 : ∀ t, Steps p.tables e below (T101.setTop (mkF m 87 #[.val (.long sa), .second, .val (.long sb), .second, .val (.int fl), .val (.int p4), .val (.int p5), .val (.int (1 : Int32)), .val (.int (0 : Int32)), .val (.ref oa), .val .null, .unset, .unset, .unset] [(.ref oc)])) t → Steps p.tables e below (s₁.setTop (entryFrame m #[(.long sa), (.long sb), (.int fl), (.int p4), (.int p5)] maxLocals)) t := fun t k => c100 t (st101 _ k)
      have c112 : ∀ t, Steps p.tables e below (T101.setTop (mkF m 88 #[.val (.long sa), .second, .val (.long sb), .second, .val (.int fl), .val (.int p4), .val (.int p5), .val (.int (1 : Int32)), .val (.int (0 : Int32)), .val (.ref oa), .val .null, .unset, .unset, .unset] [(.ref oc), (.ref oc)])) t → Steps p.tables e below (s₁.setTop (entryFrame m #[(.long sa), (.long sb), (.int fl), (.int p4), (.int p5)] maxLocals)) t := fun t k => c111 t (by
        show Steps p.tables e below (T101.setTop (mkF m 87 #[.val (.long sa), .second, .val (.long sb), .second, .val (.int fl), .val (.int p4), .val (.int p5), .val (.int (1 : Int32)), .val (.int (0 : Int32)), .val (.ref oa), .val .null, .unset, .unset, .unset] [(.ref oc)])) _
        refine XS.dup X101.here hx rfl (hb hby at_87) rfl rfl ?_
        show Steps p.tables e below (T101.setTop (mkF m 88 #[.val (.long sa), .second, .val (.long sb), .second, .val (.int fl), .val (.int p4), .val (.int p5), .val (.int (1 : Int32)), .val (.int (0 : Int32)), .val (.ref oa), .val .null, .unset, .unset, .unset] [(.ref oc), (.ref oc)])) _
        exact k)
      obtain ⟨s3, T113, h113, q113, X113, e113, E113, S113, kk113, Zz113, Ow113, st113⟩ := ldcS (s := s) (vm0 := T90.vm) X101 hx hZ hown (hw _ (List.mem_of_getElem? (i := 3) rfl)) (fun d hd => hw d (strW d hd)) e101 S90 (Nat.le_trans (Nat.le_trans kk90 K97.1) E101.1) (g := (mkF m 88 #[.val (.long sa), .second, .val (.long sb), .second, .val (.int fl), .val (.int p4), .val (.int p5), .val (.int (1 : Int32)), .val (.int (0 : Int32)), .val (.ref oa), .val .null, .unset, .unset, .unset] [(.ref oc), (.ref oc)])) rfl (hb hby at_88) (n := 4) (by decide) (by decide) (by decide) (by decide)
      have hZ := Zz113
      have hown := Ow113
      have F114 : Exa Z h113 oa "com/example/detectability/detectability/ProteinAbundance" := (F102.ext E113)
      have F115 : Fld Z h113 oa "com/example/detectability/detectability/ProteinAbundance" "name" "Ljava/lang/String;" (.ref s1) := (F103.ext E113)
      have F116 : Fld Z h113 oa "com/example/detectability/detectability/ProteinAbundance" "spectra" "J" (.long sa) := (F104.ext E113)
      have F117 : Fld Z h113 oa "com/example/detectability/detectability/ProteinAbundance" "abundance" "D" (.double da) := (F105.ext E113)
      have F118 : Exa Z h113 oc "com/example/detectability/detectability/ComparedProtein" := (A101.ext E113)
      have F119 : Fld Z h113 oc "com/example/detectability/detectability/ComparedProtein" "name" "Ljava/lang/String;" .null := (F106.ext E113)
      have F120 : Fld Z h113 oc "com/example/detectability/detectability/ComparedProtein" "inA" "Lcom/example/detectability/detectability/ProteinAbundance;" .null := (F107.ext E113)
      have F121 : Fld Z h113 oc "com/example/detectability/detectability/ComparedProtein" "inB" "Lcom/example/detectability/detectability/ProteinAbundance;" .null := (F108.ext E113)
      have F122 : Fld Z h113 oc "com/example/detectability/detectability/ComparedProtein" "z" "D" (.double (0 : UInt64)) := (F109.ext E113)
      have F123 : Fld Z h113 oc "com/example/detectability/detectability/ComparedProtein" "p" "D" (.double (0 : UInt64)) := (F110.ext E113)
      have c124 : ∀ t, Steps p.tables e below (T113.setTop (mkF m 90 #[.val (.long sa), .second, .val (.long sb), .second, .val (.int fl), .val (.int p4), .val (.int p5), .val (.int (1 : Int32)), .val (.int (0 : Int32)), .val (.ref oa), .val .null, .unset, .unset, .unset] [(.ref s3), (.ref oc), (.ref oc)])) t → Steps p.tables e below (s₁.setTop (entryFrame m #[(.long sa), (.long sb), (.int fl), (.int p4), (.int p5)] maxLocals)) t := fun t k => c112 t (st113 _ k)
      have c125 : ∀ t, Steps p.tables e below (T113.setTop (mkF m 96 #[.val (.long sa), .second, .val (.long sb), .second, .val (.int fl), .val (.int p4), .val (.int p5), .val (.int (1 : Int32)), .val (.int (0 : Int32)), .val (.ref oa), .val .null, .unset, .unset, .unset] [(.double FP.dconst1), (.double FP.dconst0), .null, (.ref oa), (.ref s3), (.ref oc), (.ref oc)])) t → Steps p.tables e below (s₁.setTop (entryFrame m #[(.long sa), (.long sb), (.int fl), (.int p4), (.int p5)] maxLocals)) t := fun t k => c124 t (by
        show Steps p.tables e below (T113.setTop (mkF m 90 #[.val (.long sa), .second, .val (.long sb), .second, .val (.int fl), .val (.int p4), .val (.int p5), .val (.int (1 : Int32)), .val (.int (0 : Int32)), .val (.ref oa), .val .null, .unset, .unset, .unset] [(.ref s3), (.ref oc), (.ref oc)])) _
        refine XS.aload X113.here hx rfl (hb hby at_90) rfl rfl ?_
        show Steps p.tables e below (T113.setTop (mkF m 92 #[.val (.long sa), .second, .val (.long sb), .second, .val (.int fl), .val (.int p4), .val (.int p5), .val (.int (1 : Int32)), .val (.int (0 : Int32)), .val (.ref oa), .val .null, .unset, .unset, .unset] [(.ref oa), (.ref s3), (.ref oc), (.ref oc)])) _
        refine XS.aload X113.here hx rfl (hb hby at_92) rfl rfl ?_
        show Steps p.tables e below (T113.setTop (mkF m 94 #[.val (.long sa), .second, .val (.long sb), .second, .val (.int fl), .val (.int p4), .val (.int p5), .val (.int (1 : Int32)), .val (.int (0 : Int32)), .val (.ref oa), .val .null, .unset, .unset, .unset] [.null, (.ref oa), (.ref s3), (.ref oc), (.ref oc)])) _
        refine XS.dconst0 X113.here hx rfl (hb hby at_94) rfl ?_
        show Steps p.tables e below (T113.setTop (mkF m 95 #[.val (.long sa), .second, .val (.long sb), .second, .val (.int fl), .val (.int p4), .val (.int p5), .val (.int (1 : Int32)), .val (.int (0 : Int32)), .val (.ref oa), .val .null, .unset, .unset, .unset] [(.double FP.dconst0), .null, (.ref oa), (.ref s3), (.ref oc), (.ref oc)])) _
        refine XS.dconst1 X113.here hx rfl (hb hby at_95) rfl ?_
        show Steps p.tables e below (T113.setTop (mkF m 96 #[.val (.long sa), .second, .val (.long sb), .second, .val (.int fl), .val (.int p4), .val (.int p5), .val (.int (1 : Int32)), .val (.int (0 : Int32)), .val (.ref oa), .val .null, .unset, .unset, .unset] [(.double FP.dconst1), (.double FP.dconst0), .null, (.ref oa), (.ref s3), (.ref oc), (.ref oc)])) _
        exact k)
      obtain ⟨_, _, ⟨T126, L126, k126', n126⟩, -, X126, ⟨Lc126, hQ126, l126, y126, z126⟩, st126⟩ := X113.specialBack hx (y := (⟨"com/example/detectability/detectability/ComparedProtein", "<init>", "(Ljava/lang/String;Lcom/example/detectability/detectability/ProteinAbundance;Lcom/example/detectability/detectability/ProteinAbundance;DD)V"⟩ : MethodName)) rfl hown (mvT hZ (hw _ (List.mem_of_getElem? (i := 11) rfl))) (mvT hZ (hw _ (List.mem_of_getElem? (i := 12) rfl))) (mvT hZ (hw _ (List.mem_of_getElem? (i := 13) rfl))) (by decide) (backOf (W := 1) (rm_ci10 l Z a0 hw [] oc s3 oa FP.dconst0 FP.dconst1 h113 n0 (Nat.le_trans (Nat.le_trans (Nat.le_trans (Nat.le_trans (Nat.le_trans Z0 E84.1) E90.1) K97.1) E101.1) E113.1) F118 F119 F120 F121 F122 F123 (Nat.le_trans (Nat.le_trans (Nat.le_trans (Nat.le_trans Z0 E84.1) E90.1) K97.1) (Nat.le_of_eq g101.symm))) hZ (hw _ (List.mem_of_getElem? (i := 13) rfl)) (hw _ (List.mem_of_getElem? (i := 2) rfl)) (by decide) (by decide)) (g := (mkF m 96 #[.val (.long sa), .second, .val (.long sb), .second, .val (.int fl), .val (.int p4), .val (.int p5), .val (.int (1 : Int32)), .val (.int (0 : Int32)), .val (.ref oa), .val .null, .unset, .unset, .unset] [(.double FP.dconst1), (.double FP.dconst0), .null, (.ref oa), (.ref s3), (.ref oc), (.ref oc)])) rfl (by rw [hml]; rfl) (Steps.refl _) (a := oc) (argsL := [(.ref s3), (.ref oa), .null, (.double FP.dconst0), (.double FP.dconst1)]) (rest := [(.ref oc)]) (lenOf pd__Ljava_lang_String_Lcom_example_detectability_detectability_ProteinAbundance_Lcom_example_detectability_detectability_ProteinAbundance_DD_V rfl) rfl (by show 2 * 0 + _ ≤ _; exact Nat.le_of_eq rfl) (hb hby at_96) (fun _ _ => ⟨rfl, e113, (by decide : 6 + 0 ≤ _), (by decide : 24 + 0 ≤ _)⟩)
      dsimp only [Pt.U, Pt.locs, Pt.cells, Pt.slots] at X126 l126 y126 z126 st126 hQ126
      subst l126 y126 z126
      obtain ⟨rfl, N126, K126, G126_0, G126_1, G126_2, G126_3, G126_4, G126_5⟩ := hQ126
      have M126 := Fr.app M97 N126
      have F127 : Exa Z T126.heap oa "com/example/detectability/detectability/ProteinAbundance" := (F114.keep K126)
      have F128 : Fld Z T126.heap oa "com/example/detectability/detectability/ProteinAbundance" "name" "Ljava/lang/String;" (.ref s1) := (F115.keep K126 (ninS (Nat.ne_of_lt (Nat.lt_of_lt_of_le G97_0.lt (Nat.le_of_eq g101.symm))) nin0))
      have F129 : Fld Z T126.heap oa "com/example/detectability/detectability/ProteinAbundance" "spectra" "J" (.long sa) := (F116.keep K126 (ninS (Nat.ne_of_lt (Nat.lt_of_lt_of_le G97_0.lt (Nat.le_of_eq g101.symm))) nin0))
      have F130 : Fld Z T126.heap oa "com/example/detectability/detectability/ProteinAbundance" "abundance" "D" (.double da) := (F117.keep K126 (ninS (Nat.ne_of_lt (Nat.lt_of_lt_of_le G97_0.lt (Nat.le_of_eq g101.symm))) nin0))
      have F131 : Exa Z T126.heap oc "com/example/detectability/detectability/ComparedProtein" := (F118.keep K126)
      have c132 : ∀ t, Steps p.tables e below (T126.setTop (mkF m 99 #[.val (.long sa), .second, .val (.long sb), .second, .val (.int fl), .val (.int p4), .val (.int p5), .val (.int (1 : Int32)), .val (.int (0 : Int32)), .val (.ref oa), .val .null, .unset, .unset, .unset] [(.ref oc)])) t → Steps p.tables e below (s₁.setTop (entryFrame m #[(.long sa), (.long sb), (.int fl), (.int p4), (.int p5)] maxLocals)) t := fun t k => c125 t (st126.trans k)
      have c133 : ∀ t, Steps p.tables e below (T126.setTop (mkF m 115 #[.val (.long sa), .second, .val (.long sb), .second, .val (.int fl), .val (.int p4), .val (.int p5), .val (.int (1 : Int32)), .val (.int (0 : Int32)), .val (.ref oa), .val .null, .val (.ref oc), .val (.long (0 : Int64)), .second] [(.ref oc)])) t → Steps p.tables e below (s₁.setTop (entryFrame m #[(.long sa), (.long sb), (.int fl), (.int p4), (.int p5)] maxLocals)) t := fun t k => c132 t (by
        show Steps p.tables e below (T126.setTop (mkF m 99 #[.val (.long sa), .second, .val (.long sb), .second, .val (.int fl), .val (.int p4), .val (.int p5), .val (.int (1 : Int32)), .val (.int (0 : Int32)), .val (.ref oa), .val .null, .unset, .unset, .unset] [(.ref oc)])) _
        refine XS.astore X126.here hx rfl (hb hby at_99) rfl rfl (l' := #[.val (.long sa), .second, .val (.long sb), .second, .val (.int fl), .val (.int p4), .val (.int p5), .val (.int (1 : Int32)), .val (.int (0 : Int32)), .val (.ref oa), .val .null, .val (.ref oc), .unset, .unset]) rfl ?_
        show Steps p.tables e below (T126.setTop (mkF m 101 #[.val (.long sa), .second, .val (.long sb), .second, .val (.int fl), .val (.int p4), .val (.int p5), .val (.int (1 : Int32)), .val (.int (0 : Int32)), .val (.ref oa), .val .null, .val (.ref oc), .unset, .unset] [])) _
        refine XS.iload X126.here hx rfl (hb hby at_101) rfl ?_
        show Steps p.tables e below (T126.setTop (mkF m 103 #[.val (.long sa), .second, .val (.long sb), .second, .val (.int fl), .val (.int p4), .val (.int p5), .val (.int (1 : Int32)), .val (.int (0 : Int32)), .val (.ref oa), .val .null, .val (.ref oc), .unset, .unset] [(.int (0 : Int32))])) _
        refine XS.ifYes X126.here hx rfl (pc0 := 103) (pc' := 110) rfl (hb hby at_103) rfl (XT.i0_eq_t (by decide)) (by decide) (by decide) ?_
        show Steps p.tables e below (T126.setTop (mkF m 110 #[.val (.long sa), .second, .val (.long sb), .second, .val (.int fl), .val (.int p4), .val (.int p5), .val (.int (1 : Int32)), .val (.int (0 : Int32)), .val (.ref oa), .val .null, .val (.ref oc), .unset, .unset] [])) _
        refine XT.lconst X126.here hx rfl (hb hby at_110) ?_
        show Steps p.tables e below (T126.setTop (mkF m 111 #[.val (.long sa), .second, .val (.long sb), .second, .val (.int fl), .val (.int p4), .val (.int p5), .val (.int (1 : Int32)), .val (.int (0 : Int32)), .val (.ref oa), .val .null, .val (.ref oc), .unset, .unset] [(.long (0 : Int64))])) _
        refine XT.lstore X126.here hx rfl (hb hby at_111) rfl (l' := #[.val (.long sa), .second, .val (.long sb), .second, .val (.int fl), .val (.int p4), .val (.int p5), .val (.int (1 : Int32)), .val (.int (0 : Int32)), .val (.ref oa), .val .null, .val (.ref oc), .val (.long (0 : Int64)), .second]) rfl ?_
        show Steps p.tables e below (T126.setTop (mkF m 113 #[.val (.long sa), .second, .val (.long sb), .second, .val (.int fl), .val (.int p4), .val (.int p5), .val (.int (1 : Int32)), .val (.int (0 : Int32)), .val (.ref oa), .val .null, .val (.ref oc), .val (.long (0 : Int64)), .second] [])) _
        refine XS.aload X126.here hx rfl (hb hby at_113) rfl rfl ?_
        show Steps p.tables e below (T126.setTop (mkF m 115 #[.val (.long sa), .second, .val (.long sb), .second, .val (.int fl), .val (.int p4), .val (.int p5), .val (.int (1 : Int32)), .val (.int (0 : Int32)), .val (.ref oa), .val .null, .val (.ref oc), .val (.long (0 : Int64)), .second] [(.ref oc)])) _
        exact k)
      obtain ⟨cq134, kq134, q134a, q134b, q134c⟩ := isOf hZ rfl G126_0
      obtain ⟨_, _, ⟨T134, L134, k134', n134⟩, -, X134, ⟨Lc134, hQ134, l134, y134, z134⟩, st134⟩ := X126.virtualBack hx (y := (⟨"com/example/detectability/detectability/ComparedProtein", "getSpectraB", "()J"⟩ : MethodName)) (z := (⟨"com/example/detectability/detectability/ComparedProtein", "getSpectraB", "()J"⟩ : MethodName)) hown (mvT hZ (hw _ (List.mem_of_getElem? (i := 27) rfl))) (mvT hZ (hw _ (List.mem_of_getElem? (i := 28) rfl))) (notFace_of_selects (args := #[]) (mvT hZ (hw _ (List.mem_of_getElem? (i := 30) rfl)))) (mvT hZ (hw _ (List.mem_of_getElem? (i := 30) rfl))) (mvT hZ (hw _ (List.mem_of_getElem? (i := 29) rfl))) (by decide) (backOf (W := 0) (rm_cg0 l Z a0 hw [] oc T126.heap n0 (Nat.le_trans (Nat.le_trans (Nat.le_trans (Nat.le_trans (Nat.le_trans (Nat.le_trans Z0 E84.1) E90.1) K97.1) E101.1) E113.1) K126.1) G126_3) hZ (hw _ (List.mem_of_getElem? (i := 31) rfl)) (hw _ (List.mem_of_getElem? (i := 2) rfl)) (by decide) (by decide)) q134a q134c (g := (mkF m 115 #[.val (.long sa), .second, .val (.long sb), .second, .val (.int fl), .val (.int p4), .val (.int p5), .val (.int (1 : Int32)), .val (.int (0 : Int32)), .val (.ref oa), .val .null, .val (.ref oc), .val (.long (0 : Int64)), .second] [(.ref oc)])) rfl (by rw [hml]; rfl) (Steps.refl _) (argsL := []) (rest := []) (lenOf pd___J rfl) rfl (by show 2 * 0 + _ ≤ _; exact Nat.le_of_eq rfl) (hb hby at_115) (fun _ _ => ⟨rfl, rfl, (by decide : 6 + 0 ≤ _), (by decide : 24 + 0 ≤ _)⟩)
      dsimp only [Pt.U, Pt.locs, Pt.cells, Pt.slots] at X134 l134 y134 z134 st134 hQ134
      subst l134 y134 z134
      obtain ⟨rfl, N134, e134⟩ := hQ134
      have M134 := Fr.app M126 N134
      have c135 : ∀ t, Steps p.tables e below (T134.setTop (mkF m 118 #[.val (.long sa), .second, .val (.long sb), .second, .val (.int fl), .val (.int p4), .val (.int p5), .val (.int (1 : Int32)), .val (.int (0 : Int32)), .val (.ref oa), .val .null, .val (.ref oc), .val (.long (0 : Int64)), .second] [(.long (0 : Int64))])) t → Steps p.tables e below (s₁.setTop (entryFrame m #[(.long sa), (.long sb), (.int fl), (.int p4), (.int p5)] maxLocals)) t := fun t k => c133 t (st134.trans k)
      have c136 : ∀ t, Steps p.tables e below (T134.setTop (mkF m 129 #[.val (.long sa), .second, .val (.long sb), .second, .val (.int fl), .val (.int p4), .val (.int p5), .val (.int (1 : Int32)), .val (.int (0 : Int32)), .val (.ref oa), .val .null, .val (.ref oc), .val (.long (0 : Int64)), .second] [(.int (1 : Int32))])) t → Steps p.tables e below (s₁.setTop (entryFrame m #[(.long sa), (.long sb), (.int fl), (.int p4), (.int p5)] maxLocals)) t := fun t k => c135 t (by
        show Steps p.tables e below (T134.setTop (mkF m 118 #[.val (.long sa), .second, .val (.long sb), .second, .val (.int fl), .val (.int p4), .val (.int p5), .val (.int (1 : Int32)), .val (.int (0 : Int32)), .val (.ref oa), .val .null, .val (.ref oc), .val (.long (0 : Int64)), .second] [(.long (0 : Int64))])) _
        refine XT.lload X134.here hx rfl (hb hby at_118) rfl ?_
        show Steps p.tables e below (T134.setTop (mkF m 120 #[.val (.long sa), .second, .val (.long sb), .second, .val (.int fl), .val (.int p4), .val (.int p5), .val (.int (1 : Int32)), .val (.int (0 : Int32)), .val (.ref oa), .val .null, .val (.ref oc), .val (.long (0 : Int64)), .second] [(.long (0 : Int64)), (.long (0 : Int64))])) _
        refine XT.lcmp X134.here hx rfl (hb hby at_120) rfl ?_
        show Steps p.tables e below (T134.setTop (mkF m 121 #[.val (.long sa), .second, .val (.long sb), .second, .val (.int fl), .val (.int p4), .val (.int p5), .val (.int (1 : Int32)), .val (.int (0 : Int32)), .val (.ref oa), .val .null, .val (.ref oc), .val (.long (0 : Int64)), .second] [(.int (XT.cmpL (0 : Int64) (0 : Int64)))])) _
        refine XS.ifNo X134.here hx rfl (hb hby at_121) rfl (XT.ll_ne_f (rfl)) ?_
        show Steps p.tables e below (T134.setTop (mkF m 124 #[.val (.long sa), .second, .val (.long sb), .second, .val (.int fl), .val (.int p4), .val (.int p5), .val (.int (1 : Int32)), .val (.int (0 : Int32)), .val (.ref oa), .val .null, .val (.ref oc), .val (.long (0 : Int64)), .second] [])) _
        refine XS.iconst X134.here hx rfl (hb hby at_124) ?_
        show Steps p.tables e below (T134.setTop (mkF m 125 #[.val (.long sa), .second, .val (.long sb), .second, .val (.int fl), .val (.int p4), .val (.int p5), .val (.int (1 : Int32)), .val (.int (0 : Int32)), .val (.ref oa), .val .null, .val (.ref oc), .val (.long (0 : Int64)), .second] [(.int (1 : Int32))])) _
        refine XS.goto X134.here hx rfl (pc0 := 125) (pc' := 129) rfl (hb hby at_125) (by decide) (by decide) ?_
        show Steps p.tables e below (T134.setTop (mkF m 129 #[.val (.long sa), .second, .val (.long sb), .second, .val (.int fl), .val (.int p4), .val (.int p5), .val (.int (1 : Int32)), .val (.int (0 : Int32)), .val (.ref oa), .val .null, .val (.ref oc), .val (.long (0 : Int64)), .second] [(.int (1 : Int32))])) _
        exact k)
      have hsz : q113 ≤ T134.heap.size := by rw [e134]; exact (Nat.le_trans kk113 K126.1)
      obtain ⟨fs, hr, hrun, hended, hRW⟩ := Jvm.Stand.leaveW (s := s) (vm₁ := T113.vm) X134 S113 hsz (v := (some (.int (1 : Int32)))) (fun h => by rw [Bd.returns] at h; cases h)
      refine ⟨_, _, pre0 _ (c136 _ (retN X134 hx (t := .boolean) Bd.returns (by simp) (hb hby at_129) hr)), hrun, hended, _, _, rfl, ?_, hRW.1, hRW.2.1, hRW.2.2.1, hRW.2.2.2.mono (by decide) (by decide)⟩
      show Q_0 Z sa sb fl p4 p5 h0 n0 _ T134.heap _
      rw [e134]
      exact ⟨rfl, M134⟩
    · skip
      have c137 : ∀ t, Steps p.tables e below (s₁.setTop (mkF m 33 #[.val (.long sa), .second, .val (.long sb), .second, .val (.int fl), .val (.int p4), .val (.int p5), .val (.int (1 : Int32)), .val (.int (1 : Int32)), .unset, .unset, .unset, .unset, .unset] [])) t → Steps p.tables e below (s₁.setTop (entryFrame m #[(.long sa), (.long sb), (.int fl), (.int p4), (.int p5)] maxLocals)) t := fun t k => c82 t (by
        show Steps p.tables e below (s₁.setTop (mkF m 18 #[.val (.long sa), .second, .val (.long sb), .second, .val (.int fl), .val (.int p4), .val (.int p5), .val (.int (1 : Int32)), .unset, .unset, .unset, .unset, .unset, .unset] [(.int (fl &&& (2 : Int32)))])) _
        refine XS.ifNo X0.here hx rfl (hb hby at_18) rfl (XT.i0_eq_f qb) ?_
        show Steps p.tables e below (s₁.setTop (mkF m 21 #[.val (.long sa), .second, .val (.long sb), .second, .val (.int fl), .val (.int p4), .val (.int p5), .val (.int (1 : Int32)), .unset, .unset, .unset, .unset, .unset, .unset] [])) _
        refine XS.iconst X0.here hx rfl (hb hby at_21) ?_
        show Steps p.tables e below (s₁.setTop (mkF m 22 #[.val (.long sa), .second, .val (.long sb), .second, .val (.int fl), .val (.int p4), .val (.int p5), .val (.int (1 : Int32)), .unset, .unset, .unset, .unset, .unset, .unset] [(.int (1 : Int32))])) _
        refine XS.goto X0.here hx rfl (pc0 := 22) (pc' := 26) rfl (hb hby at_22) (by decide) (by decide) ?_
        show Steps p.tables e below (s₁.setTop (mkF m 26 #[.val (.long sa), .second, .val (.long sb), .second, .val (.int fl), .val (.int p4), .val (.int p5), .val (.int (1 : Int32)), .unset, .unset, .unset, .unset, .unset, .unset] [(.int (1 : Int32))])) _
        refine XS.istore X0.here hx rfl (hb hby at_26) rfl (l' := #[.val (.long sa), .second, .val (.long sb), .second, .val (.int fl), .val (.int p4), .val (.int p5), .val (.int (1 : Int32)), .val (.int (1 : Int32)), .unset, .unset, .unset, .unset, .unset]) rfl ?_
        show Steps p.tables e below (s₁.setTop (mkF m 28 #[.val (.long sa), .second, .val (.long sb), .second, .val (.int fl), .val (.int p4), .val (.int p5), .val (.int (1 : Int32)), .val (.int (1 : Int32)), .unset, .unset, .unset, .unset, .unset] [])) _
        refine XS.iload X0.here hx rfl (hb hby at_28) rfl ?_
        show Steps p.tables e below (s₁.setTop (mkF m 30 #[.val (.long sa), .second, .val (.long sb), .second, .val (.int fl), .val (.int p4), .val (.int p5), .val (.int (1 : Int32)), .val (.int (1 : Int32)), .unset, .unset, .unset, .unset, .unset] [(.int (1 : Int32))])) _
        refine XS.ifNo X0.here hx rfl (hb hby at_30) rfl (XT.i0_eq_f (by decide)) ?_
        show Steps p.tables e below (s₁.setTop (mkF m 33 #[.val (.long sa), .second, .val (.long sb), .second, .val (.int fl), .val (.int p4), .val (.int p5), .val (.int (1 : Int32)), .val (.int (1 : Int32)), .unset, .unset, .unset, .unset, .unset] [])) _
        exact k)
      obtain ⟨T138, h138, X138, e138, E138, A138, D138, -, st138⟩ := newO X0 hx hZ hown (hw _ (List.mem_of_getElem? (i := 32) rfl)) (hw _ (List.mem_of_getElem? (i := 33) rfl)) (hw _ (List.mem_of_getElem? (i := 34) rfl)) e0 (g := (mkF m 33 #[.val (.long sa), .second, .val (.long sb), .second, .val (.int fl), .val (.int p4), .val (.int p5), .val (.int (1 : Int32)), .val (.int (1 : Int32)), .unset, .unset, .unset, .unset, .unset] [])) rfl (hb hby at_33) (by decide) (by decide)
      obtain ⟨oa, g138⟩ : ∃ z, z = h0.size := ⟨_, rfl⟩
      rw [← g138] at A138 D138 st138
      have F139 : Fld Z h138 oa "com/example/detectability/detectability/ProteinAbundance" "name" "Ljava/lang/String;" .null := (D138 (Or.inr (hw _ (List.mem_of_getElem? (i := 40) rfl))) (ty := (.object "java/lang/String")) (by decide))
      have F140 : Fld Z h138 oa "com/example/detectability/detectability/ProteinAbundance" "spectra" "J" (.long (0 : Int64)) := (D138 (Or.inr (hw _ (List.mem_of_getElem? (i := 42) rfl))) (ty := .long) (by decide))
      have F141 : Fld Z h138 oa "com/example/detectability/detectability/ProteinAbundance" "abundance" "D" (.double (0 : UInt64)) := (D138 (Or.inr (hw _ (List.mem_of_getElem? (i := 44) rfl))) (ty := .double) (by decide))
      have c142 : ∀ t, Steps p.tables e below (T138.setTop (mkF m 36 #[.val (.long sa), .second, .val (.long sb), .second, .val (.int fl), .val (.int p4), .val (.int p5), .val (.int (1 : Int32)), .val (.int (1 : Int32)), .unset, .unset, .unset, .unset, .unset] [(.ref oa)])) t → Steps p.tables e below (s₁.setTop (entryFrame m #[(.long sa), (.long sb), (.int fl), (.int p4), (.int p5)] maxLocals)) t := fun t k => c137 t (st138 _ k)
      have c143 : ∀ t, Steps p.tables e below (T138.setTop (mkF m 37 #[.val (.long sa), .second, .val (.long sb), .second, .val (.int fl), .val (.int p4), .val (.int p5), .val (.int (1 : Int32)), .val (.int (1 : Int32)), .unset, .unset, .unset, .unset, .unset] [(.ref oa), (.ref oa)])) t → Steps p.tables e below (s₁.setTop (entryFrame m #[(.long sa), (.long sb), (.int fl), (.int p4), (.int p5)] maxLocals)) t := fun t k => c142 t (by
        show Steps p.tables e below (T138.setTop (mkF m 36 #[.val (.long sa), .second, .val (.long sb), .second, .val (.int fl), .val (.int p4), .val (.int p5), .val (.int (1 : Int32)), .val (.int (1 : Int32)), .unset, .unset, .unset, .unset, .unset] [(.ref oa)])) _
        refine XS.dup X138.here hx rfl (hb hby at_36) rfl rfl ?_
        show Steps p.tables e below (T138.setTop (mkF m 37 #[.val (.long sa), .second, .val (.long sb), .second, .val (.int fl), .val (.int p4), .val (.int p5), .val (.int (1 : Int32)), .val (.int (1 : Int32)), .unset, .unset, .unset, .unset, .unset] [(.ref oa), (.ref oa)])) _
        exact k)
      obtain ⟨s1, T144, h144, q144, X144, e144, E144, S144, kk144, Zz144, Ow144, st144⟩ := ldcS (s := s) (vm0 := s.vm) X138 hx hZ hown (hw _ (List.mem_of_getElem? (i := 3) rfl)) (fun d hd => hw d (strW d hd)) e138 ((State.WarmedH.refl s).since 0) (Nat.zero_le _) (g := (mkF m 37 #[.val (.long sa), .second, .val (.long sb), .second, .val (.int fl), .val (.int p4), .val (.int p5), .val (.int (1 : Int32)), .val (.int (1 : Int32)), .unset, .unset, .unset, .unset, .unset] [(.ref oa), (.ref oa)])) rfl (hb hby at_37) (n := 4) (by decide) (by decide) (by decide) (by decide)
      have hZ := Zz144
      have hown := Ow144
      have F145 : Exa Z h144 oa "com/example/detectability/detectability/ProteinAbundance" := (A138.ext E144)
      have F146 : Fld Z h144 oa "com/example/detectability/detectability/ProteinAbundance" "name" "Ljava/lang/String;" .null := (F139.ext E144)
      have F147 : Fld Z h144 oa "com/example/detectability/detectability/ProteinAbundance" "spectra" "J" (.long (0 : Int64)) := (F140.ext E144)
      have F148 : Fld Z h144 oa "com/example/detectability/detectability/ProteinAbundance" "abundance" "D" (.double (0 : UInt64)) := (F141.ext E144)
      have c149 : ∀ t, Steps p.tables e below (T144.setTop (mkF m 39 #[.val (.long sa), .second, .val (.long sb), .second, .val (.int fl), .val (.int p4), .val (.int p5), .val (.int (1 : Int32)), .val (.int (1 : Int32)), .unset, .unset, .unset, .unset, .unset] [(.ref s1), (.ref oa), (.ref oa)])) t → Steps p.tables e below (s₁.setTop (entryFrame m #[(.long sa), (.long sb), (.int fl), (.int p4), (.int p5)] maxLocals)) t := fun t k => c143 t (st144 _ k)
      obtain ⟨da, hda⟩ : ∃ v : UInt64, FP.i2d (p4 &&& (255 : Int32)) = v := ⟨_, rfl⟩
      have c150 : ∀ t, Steps p.tables e below (T144.setTop (mkF m 47 #[.val (.long sa), .second, .val (.long sb), .second, .val (.int fl), .val (.int p4), .val (.int p5), .val (.int (1 : Int32)), .val (.int (1 : Int32)), .unset, .unset, .unset, .unset, .unset] [(.double da), (.long sa), (.ref s1), (.ref oa), (.ref oa)])) t → Steps p.tables e below (s₁.setTop (entryFrame m #[(.long sa), (.long sb), (.int fl), (.int p4), (.int p5)] maxLocals)) t := fun t k => c149 t (by
        show Steps p.tables e below (T144.setTop (mkF m 39 #[.val (.long sa), .second, .val (.long sb), .second, .val (.int fl), .val (.int p4), .val (.int p5), .val (.int (1 : Int32)), .val (.int (1 : Int32)), .unset, .unset, .unset, .unset, .unset] [(.ref s1), (.ref oa), (.ref oa)])) _
        refine XT.lloadN X144.here hx rfl (hb hby at_39) rfl ?_
        show Steps p.tables e below (T144.setTop (mkF m 40 #[.val (.long sa), .second, .val (.long sb), .second, .val (.int fl), .val (.int p4), .val (.int p5), .val (.int (1 : Int32)), .val (.int (1 : Int32)), .unset, .unset, .unset, .unset, .unset] [(.long sa), (.ref s1), (.ref oa), (.ref oa)])) _
        refine XS.iload X144.here hx rfl (hb hby at_40) rfl ?_
        show Steps p.tables e below (T144.setTop (mkF m 42 #[.val (.long sa), .second, .val (.long sb), .second, .val (.int fl), .val (.int p4), .val (.int p5), .val (.int (1 : Int32)), .val (.int (1 : Int32)), .unset, .unset, .unset, .unset, .unset] [(.int p4), (.long sa), (.ref s1), (.ref oa), (.ref oa)])) _
        refine XS.sipush X144.here hx rfl (hb hby at_42) ?_
        show Steps p.tables e below (T144.setTop (mkF m 45 #[.val (.long sa), .second, .val (.long sb), .second, .val (.int fl), .val (.int p4), .val (.int p5), .val (.int (1 : Int32)), .val (.int (1 : Int32)), .unset, .unset, .unset, .unset, .unset] [(.int (255 : Int32)), (.int p4), (.long sa), (.ref s1), (.ref oa), (.ref oa)])) _
        refine XS.iand X144.here hx rfl (hb hby at_45) rfl ?_
        show Steps p.tables e below (T144.setTop (mkF m 46 #[.val (.long sa), .second, .val (.long sb), .second, .val (.int fl), .val (.int p4), .val (.int p5), .val (.int (1 : Int32)), .val (.int (1 : Int32)), .unset, .unset, .unset, .unset, .unset] [(.int (p4 &&& (255 : Int32))), (.long sa), (.ref s1), (.ref oa), (.ref oa)])) _
        refine XS.i2dS X144.here hx rfl (hb hby at_46) rfl hda ?_
        show Steps p.tables e below (T144.setTop (mkF m 47 #[.val (.long sa), .second, .val (.long sb), .second, .val (.int fl), .val (.int p4), .val (.int p5), .val (.int (1 : Int32)), .val (.int (1 : Int32)), .unset, .unset, .unset, .unset, .unset] [(.double da), (.long sa), (.ref s1), (.ref oa), (.ref oa)])) _
        exact k)
      obtain ⟨_, _, ⟨T151, L151, k151', n151⟩, -, X151, ⟨Lc151, hQ151, l151, y151, z151⟩, st151⟩ := X144.specialBack hx (y := (⟨"com/example/detectability/detectability/ProteinAbundance", "<init>", "(Ljava/lang/String;JD)V"⟩ : MethodName)) rfl hown (mvT hZ (hw _ (List.mem_of_getElem? (i := 35) rfl))) (mvT hZ (hw _ (List.mem_of_getElem? (i := 36) rfl))) (mvT hZ (hw _ (List.mem_of_getElem? (i := 37) rfl))) (by decide) (backOf (W := 1) (rm_pi l Z a0 hw [] oa s1 sa da h144 n0 (Nat.le_trans (Nat.le_trans Z0 E138.1) E144.1) F145 F146 F147 F148 (Nat.le_trans Z0 (Nat.le_of_eq g138.symm))) hZ (hw _ (List.mem_of_getElem? (i := 37) rfl)) (hw _ (List.mem_of_getElem? (i := 34) rfl)) (by decide) (by decide)) (g := (mkF m 47 #[.val (.long sa), .second, .val (.long sb), .second, .val (.int fl), .val (.int p4), .val (.int p5), .val (.int (1 : Int32)), .val (.int (1 : Int32)), .unset, .unset, .unset, .unset, .unset] [(.double da), (.long sa), (.ref s1), (.ref oa), (.ref oa)])) rfl (by rw [hml]; rfl) (Steps.refl _) (a := oa) (argsL := [(.ref s1), (.long sa), (.double da)]) (rest := [(.ref oa)]) (lenOf pd__Ljava_lang_String_JD_V rfl) rfl (by show 2 * 0 + _ ≤ _; exact Nat.le_of_eq rfl) (hb hby at_47) (fun _ _ => ⟨rfl, e144, (by decide : 3 + 0 ≤ _), (by decide : 11 + 0 ≤ _)⟩)
      dsimp only [Pt.U, Pt.locs, Pt.cells, Pt.slots] at X151 l151 y151 z151 st151 hQ151
      subst l151 y151 z151
      obtain ⟨rfl, N151, K151, G151_0, G151_1, G151_2, G151_3⟩ := hQ151
      have M151 := Fr.app N0 N151
      have F152 : Exa Z T151.heap oa "com/example/detectability/detectability/ProteinAbundance" := (F145.keep K151)
      have c153 : ∀ t, Steps p.tables e below (T151.setTop (mkF m 50 #[.val (.long sa), .second, .val (.long sb), .second, .val (.int fl), .val (.int p4), .val (.int p5), .val (.int (1 : Int32)), .val (.int (1 : Int32)), .unset, .unset, .unset, .unset, .unset] [(.ref oa)])) t → Steps p.tables e below (s₁.setTop (entryFrame m #[(.long sa), (.long sb), (.int fl), (.int p4), (.int p5)] maxLocals)) t := fun t k => c150 t (st151.trans k)
      have c154 : ∀ t, Steps p.tables e below (T151.setTop (mkF m 61 #[.val (.long sa), .second, .val (.long sb), .second, .val (.int fl), .val (.int p4), .val (.int p5), .val (.int (1 : Int32)), .val (.int (1 : Int32)), .val (.ref oa), .unset, .unset, .unset, .unset] [])) t → Steps p.tables e below (s₁.setTop (entryFrame m #[(.long sa), (.long sb), (.int fl), (.int p4), (.int p5)] maxLocals)) t := fun t k => c153 t (by
        show Steps p.tables e below (T151.setTop (mkF m 50 #[.val (.long sa), .second, .val (.long sb), .second, .val (.int fl), .val (.int p4), .val (.int p5), .val (.int (1 : Int32)), .val (.int (1 : Int32)), .unset, .unset, .unset, .unset, .unset] [(.ref oa)])) _
        refine XS.goto X151.here hx rfl (pc0 := 50) (pc' := 54) rfl (hb hby at_50) (by decide) (by decide) ?_
        show Steps p.tables e below (T151.setTop (mkF m 54 #[.val (.long sa), .second, .val (.long sb), .second, .val (.int fl), .val (.int p4), .val (.int p5), .val (.int (1 : Int32)), .val (.int (1 : Int32)), .unset, .unset, .unset, .unset, .unset] [(.ref oa)])) _
        refine XS.astore X151.here hx rfl (hb hby at_54) rfl rfl (l' := #[.val (.long sa), .second, .val (.long sb), .second, .val (.int fl), .val (.int p4), .val (.int p5), .val (.int (1 : Int32)), .val (.int (1 : Int32)), .val (.ref oa), .unset, .unset, .unset, .unset]) rfl ?_
        show Steps p.tables e below (T151.setTop (mkF m 56 #[.val (.long sa), .second, .val (.long sb), .second, .val (.int fl), .val (.int p4), .val (.int p5), .val (.int (1 : Int32)), .val (.int (1 : Int32)), .val (.ref oa), .unset, .unset, .unset, .unset] [])) _
        refine XS.iload X151.here hx rfl (hb hby at_56) rfl ?_
        show Steps p.tables e below (T151.setTop (mkF m 58 #[.val (.long sa), .second, .val (.long sb), .second, .val (.int fl), .val (.int p4), .val (.int p5), .val (.int (1 : Int32)), .val (.int (1 : Int32)), .val (.ref oa), .unset, .unset, .unset, .unset] [(.int (1 : Int32))])) _
        refine XS.ifNo X151.here hx rfl (hb hby at_58) rfl (XT.i0_eq_f (by decide)) ?_
        show Steps p.tables e below (T151.setTop (mkF m 61 #[.val (.long sa), .second, .val (.long sb), .second, .val (.int fl), .val (.int p4), .val (.int p5), .val (.int (1 : Int32)), .val (.int (1 : Int32)), .val (.ref oa), .unset, .unset, .unset, .unset] [])) _
        exact k)
      obtain ⟨T155, h155, X155, e155, E155, A155, D155, -, st155⟩ := newO X151 hx hZ hown (hw _ (List.mem_of_getElem? (i := 32) rfl)) (hw _ (List.mem_of_getElem? (i := 33) rfl)) (hw _ (List.mem_of_getElem? (i := 34) rfl)) rfl (g := (mkF m 61 #[.val (.long sa), .second, .val (.long sb), .second, .val (.int fl), .val (.int p4), .val (.int p5), .val (.int (1 : Int32)), .val (.int (1 : Int32)), .val (.ref oa), .unset, .unset, .unset, .unset] [])) rfl (hb hby at_61) (by decide) (by decide)
      obtain ⟨ob, g155⟩ : ∃ z, z = T151.heap.size := ⟨_, rfl⟩
      rw [← g155] at A155 D155 st155
      have F156 : Exa Z h155 oa "com/example/detectability/detectability/ProteinAbundance" := (G151_0.ext E155)
      have F157 : Fld Z h155 oa "com/example/detectability/detectability/ProteinAbundance" "name" "Ljava/lang/String;" (.ref s1) := (G151_1.ext E155)
      have F158 : Fld Z h155 oa "com/example/detectability/detectability/ProteinAbundance" "spectra" "J" (.long sa) := (G151_2.ext E155)
      have F159 : Fld Z h155 oa "com/example/detectability/detectability/ProteinAbundance" "abundance" "D" (.double da) := (G151_3.ext E155)
      have F160 : Fld Z h155 ob "com/example/detectability/detectability/ProteinAbundance" "name" "Ljava/lang/String;" .null := (D155 (Or.inr (hw _ (List.mem_of_getElem? (i := 40) rfl))) (ty := (.object "java/lang/String")) (by decide))
      have F161 : Fld Z h155 ob "com/example/detectability/detectability/ProteinAbundance" "spectra" "J" (.long (0 : Int64)) := (D155 (Or.inr (hw _ (List.mem_of_getElem? (i := 42) rfl))) (ty := .long) (by decide))
      have F162 : Fld Z h155 ob "com/example/detectability/detectability/ProteinAbundance" "abundance" "D" (.double (0 : UInt64)) := (D155 (Or.inr (hw _ (List.mem_of_getElem? (i := 44) rfl))) (ty := .double) (by decide))
      have c163 : ∀ t, Steps p.tables e below (T155.setTop (mkF m 64 #[.val (.long sa), .second, .val (.long sb), .second, .val (.int fl), .val (.int p4), .val (.int p5), .val (.int (1 : Int32)), .val (.int (1 : Int32)), .val (.ref oa), .unset, .unset, .unset, .unset] [(.ref ob)])) t → Steps p.tables e below (s₁.setTop (entryFrame m #[(.long sa), (.long sb), (.int fl), (.int p4), (.int p5)] maxLocals)) t := fun t k => c154 t (st155 _ k)
      have c164 : ∀ t, Steps p.tables e below (T155.setTop (mkF m 65 #[.val (.long sa), .second, .val (.long sb), .second, .val (.int fl), .val (.int p4), .val (.int p5), .val (.int (1 : Int32)), .val (.int (1 : Int32)), .val (.ref oa), .unset, .unset, .unset, .unset] [(.ref ob), (.ref ob)])) t → Steps p.tables e below (s₁.setTop (entryFrame m #[(.long sa), (.long sb), (.int fl), (.int p4), (.int p5)] maxLocals)) t := fun t k => c163 t (by
        show Steps p.tables e below (T155.setTop (mkF m 64 #[.val (.long sa), .second, .val (.long sb), .second, .val (.int fl), .val (.int p4), .val (.int p5), .val (.int (1 : Int32)), .val (.int (1 : Int32)), .val (.ref oa), .unset, .unset, .unset, .unset] [(.ref ob)])) _
        refine XS.dup X155.here hx rfl (hb hby at_64) rfl rfl ?_
        show Steps p.tables e below (T155.setTop (mkF m 65 #[.val (.long sa), .second, .val (.long sb), .second, .val (.int fl), .val (.int p4), .val (.int p5), .val (.int (1 : Int32)), .val (.int (1 : Int32)), .val (.ref oa), .unset, .unset, .unset, .unset] [(.ref ob), (.ref ob)])) _
        exact k)
      obtain ⟨s2, T165, h165, q165, X165, e165, E165, S165, kk165, Zz165, Ow165, st165⟩ := ldcS (s := s) (vm0 := T144.vm) X155 hx hZ hown (hw _ (List.mem_of_getElem? (i := 3) rfl)) (fun d hd => hw d (strW d hd)) e155 S144 (Nat.le_trans (Nat.le_trans kk144 K151.1) E155.1) (g := (mkF m 65 #[.val (.long sa), .second, .val (.long sb), .second, .val (.int fl), .val (.int p4), .val (.int p5), .val (.int (1 : Int32)), .val (.int (1 : Int32)), .val (.ref oa), .unset, .unset, .unset, .unset] [(.ref ob), (.ref ob)])) rfl (hb hby at_65) (n := 4) (by decide) (by decide) (by decide) (by decide)
      have hZ := Zz165
      have hown := Ow165
      have F166 : Exa Z h165 oa "com/example/detectability/detectability/ProteinAbundance" := (F156.ext E165)
      have F167 : Fld Z h165 oa "com/example/detectability/detectability/ProteinAbundance" "name" "Ljava/lang/String;" (.ref s1) := (F157.ext E165)
      have F168 : Fld Z h165 oa "com/example/detectability/detectability/ProteinAbundance" "spectra" "J" (.long sa) := (F158.ext E165)
      have F169 : Fld Z h165 oa "com/example/detectability/detectability/ProteinAbundance" "abundance" "D" (.double da) := (F159.ext E165)
      have F170 : Exa Z h165 ob "com/example/detectability/detectability/ProteinAbundance" := (A155.ext E165)
      have F171 : Fld Z h165 ob "com/example/detectability/detectability/ProteinAbundance" "name" "Ljava/lang/String;" .null := (F160.ext E165)
      have F172 : Fld Z h165 ob "com/example/detectability/detectability/ProteinAbundance" "spectra" "J" (.long (0 : Int64)) := (F161.ext E165)
      have F173 : Fld Z h165 ob "com/example/detectability/detectability/ProteinAbundance" "abundance" "D" (.double (0 : UInt64)) := (F162.ext E165)
      have c174 : ∀ t, Steps p.tables e below (T165.setTop (mkF m 67 #[.val (.long sa), .second, .val (.long sb), .second, .val (.int fl), .val (.int p4), .val (.int p5), .val (.int (1 : Int32)), .val (.int (1 : Int32)), .val (.ref oa), .unset, .unset, .unset, .unset] [(.ref s2), (.ref ob), (.ref ob)])) t → Steps p.tables e below (s₁.setTop (entryFrame m #[(.long sa), (.long sb), (.int fl), (.int p4), (.int p5)] maxLocals)) t := fun t k => c164 t (st165 _ k)
      obtain ⟨db, hdb⟩ : ∃ v : UInt64, FP.i2d (p5 &&& (255 : Int32)) = v := ⟨_, rfl⟩
      have c175 : ∀ t, Steps p.tables e below (T165.setTop (mkF m 75 #[.val (.long sa), .second, .val (.long sb), .second, .val (.int fl), .val (.int p4), .val (.int p5), .val (.int (1 : Int32)), .val (.int (1 : Int32)), .val (.ref oa), .unset, .unset, .unset, .unset] [(.double db), (.long sb), (.ref s2), (.ref ob), (.ref ob)])) t → Steps p.tables e below (s₁.setTop (entryFrame m #[(.long sa), (.long sb), (.int fl), (.int p4), (.int p5)] maxLocals)) t := fun t k => c174 t (by
        show Steps p.tables e below (T165.setTop (mkF m 67 #[.val (.long sa), .second, .val (.long sb), .second, .val (.int fl), .val (.int p4), .val (.int p5), .val (.int (1 : Int32)), .val (.int (1 : Int32)), .val (.ref oa), .unset, .unset, .unset, .unset] [(.ref s2), (.ref ob), (.ref ob)])) _
        refine XT.lloadN X165.here hx rfl (hb hby at_67) rfl ?_
        show Steps p.tables e below (T165.setTop (mkF m 68 #[.val (.long sa), .second, .val (.long sb), .second, .val (.int fl), .val (.int p4), .val (.int p5), .val (.int (1 : Int32)), .val (.int (1 : Int32)), .val (.ref oa), .unset, .unset, .unset, .unset] [(.long sb), (.ref s2), (.ref ob), (.ref ob)])) _
        refine XS.iload X165.here hx rfl (hb hby at_68) rfl ?_
        show Steps p.tables e below (T165.setTop (mkF m 70 #[.val (.long sa), .second, .val (.long sb), .second, .val (.int fl), .val (.int p4), .val (.int p5), .val (.int (1 : Int32)), .val (.int (1 : Int32)), .val (.ref oa), .unset, .unset, .unset, .unset] [(.int p5), (.long sb), (.ref s2), (.ref ob), (.ref ob)])) _
        refine XS.sipush X165.here hx rfl (hb hby at_70) ?_
        show Steps p.tables e below (T165.setTop (mkF m 73 #[.val (.long sa), .second, .val (.long sb), .second, .val (.int fl), .val (.int p4), .val (.int p5), .val (.int (1 : Int32)), .val (.int (1 : Int32)), .val (.ref oa), .unset, .unset, .unset, .unset] [(.int (255 : Int32)), (.int p5), (.long sb), (.ref s2), (.ref ob), (.ref ob)])) _
        refine XS.iand X165.here hx rfl (hb hby at_73) rfl ?_
        show Steps p.tables e below (T165.setTop (mkF m 74 #[.val (.long sa), .second, .val (.long sb), .second, .val (.int fl), .val (.int p4), .val (.int p5), .val (.int (1 : Int32)), .val (.int (1 : Int32)), .val (.ref oa), .unset, .unset, .unset, .unset] [(.int (p5 &&& (255 : Int32))), (.long sb), (.ref s2), (.ref ob), (.ref ob)])) _
        refine XS.i2dS X165.here hx rfl (hb hby at_74) rfl hdb ?_
        show Steps p.tables e below (T165.setTop (mkF m 75 #[.val (.long sa), .second, .val (.long sb), .second, .val (.int fl), .val (.int p4), .val (.int p5), .val (.int (1 : Int32)), .val (.int (1 : Int32)), .val (.ref oa), .unset, .unset, .unset, .unset] [(.double db), (.long sb), (.ref s2), (.ref ob), (.ref ob)])) _
        exact k)
      obtain ⟨_, _, ⟨T176, L176, k176', n176⟩, -, X176, ⟨Lc176, hQ176, l176, y176, z176⟩, st176⟩ := X165.specialBack hx (y := (⟨"com/example/detectability/detectability/ProteinAbundance", "<init>", "(Ljava/lang/String;JD)V"⟩ : MethodName)) rfl hown (mvT hZ (hw _ (List.mem_of_getElem? (i := 35) rfl))) (mvT hZ (hw _ (List.mem_of_getElem? (i := 36) rfl))) (mvT hZ (hw _ (List.mem_of_getElem? (i := 37) rfl))) (by decide) (backOf (W := 1) (rm_pi l Z a0 hw [] ob s2 sb db h165 n0 (Nat.le_trans (Nat.le_trans (Nat.le_trans (Nat.le_trans (Nat.le_trans Z0 E138.1) E144.1) K151.1) E155.1) E165.1) F170 F171 F172 F173 (Nat.le_trans (Nat.le_trans (Nat.le_trans (Nat.le_trans Z0 E138.1) E144.1) K151.1) (Nat.le_of_eq g155.symm))) hZ (hw _ (List.mem_of_getElem? (i := 37) rfl)) (hw _ (List.mem_of_getElem? (i := 34) rfl)) (by decide) (by decide)) (g := (mkF m 75 #[.val (.long sa), .second, .val (.long sb), .second, .val (.int fl), .val (.int p4), .val (.int p5), .val (.int (1 : Int32)), .val (.int (1 : Int32)), .val (.ref oa), .unset, .unset, .unset, .unset] [(.double db), (.long sb), (.ref s2), (.ref ob), (.ref ob)])) rfl (by rw [hml]; rfl) (Steps.refl _) (a := ob) (argsL := [(.ref s2), (.long sb), (.double db)]) (rest := [(.ref ob)]) (lenOf pd__Ljava_lang_String_JD_V rfl) rfl (by show 2 * 0 + _ ≤ _; exact Nat.le_of_eq rfl) (hb hby at_75) (fun _ _ => ⟨rfl, e165, (by decide : 6 + 0 ≤ _), (by decide : 22 + 0 ≤ _)⟩)
      dsimp only [Pt.U, Pt.locs, Pt.cells, Pt.slots] at X176 l176 y176 z176 st176 hQ176
      subst l176 y176 z176
      obtain ⟨rfl, N176, K176, G176_0, G176_1, G176_2, G176_3⟩ := hQ176
      have M176 := Fr.app M151 N176
      have F177 : Exa Z T176.heap oa "com/example/detectability/detectability/ProteinAbundance" := (F166.keep K176)
      have F178 : Fld Z T176.heap oa "com/example/detectability/detectability/ProteinAbundance" "name" "Ljava/lang/String;" (.ref s1) := (F167.keep K176 (ninS (Nat.ne_of_lt (Nat.lt_of_lt_of_le G151_0.lt (Nat.le_of_eq g155.symm))) nin0))
      have F179 : Fld Z T176.heap oa "com/example/detectability/detectability/ProteinAbundance" "spectra" "J" (.long sa) := (F168.keep K176 (ninS (Nat.ne_of_lt (Nat.lt_of_lt_of_le G151_0.lt (Nat.le_of_eq g155.symm))) nin0))
      have F180 : Fld Z T176.heap oa "com/example/detectability/detectability/ProteinAbundance" "abundance" "D" (.double da) := (F169.keep K176 (ninS (Nat.ne_of_lt (Nat.lt_of_lt_of_le G151_0.lt (Nat.le_of_eq g155.symm))) nin0))
      have F181 : Exa Z T176.heap ob "com/example/detectability/detectability/ProteinAbundance" := (F170.keep K176)
      have c182 : ∀ t, Steps p.tables e below (T176.setTop (mkF m 78 #[.val (.long sa), .second, .val (.long sb), .second, .val (.int fl), .val (.int p4), .val (.int p5), .val (.int (1 : Int32)), .val (.int (1 : Int32)), .val (.ref oa), .unset, .unset, .unset, .unset] [(.ref ob)])) t → Steps p.tables e below (s₁.setTop (entryFrame m #[(.long sa), (.long sb), (.int fl), (.int p4), (.int p5)] maxLocals)) t := fun t k => c175 t (st176.trans k)
      have c183 : ∀ t, Steps p.tables e below (T176.setTop (mkF m 84 #[.val (.long sa), .second, .val (.long sb), .second, .val (.int fl), .val (.int p4), .val (.int p5), .val (.int (1 : Int32)), .val (.int (1 : Int32)), .val (.ref oa), .val (.ref ob), .unset, .unset, .unset] [])) t → Steps p.tables e below (s₁.setTop (entryFrame m #[(.long sa), (.long sb), (.int fl), (.int p4), (.int p5)] maxLocals)) t := fun t k => c182 t (by
        show Steps p.tables e below (T176.setTop (mkF m 78 #[.val (.long sa), .second, .val (.long sb), .second, .val (.int fl), .val (.int p4), .val (.int p5), .val (.int (1 : Int32)), .val (.int (1 : Int32)), .val (.ref oa), .unset, .unset, .unset, .unset] [(.ref ob)])) _
        refine XS.goto X176.here hx rfl (pc0 := 78) (pc' := 82) rfl (hb hby at_78) (by decide) (by decide) ?_
        show Steps p.tables e below (T176.setTop (mkF m 82 #[.val (.long sa), .second, .val (.long sb), .second, .val (.int fl), .val (.int p4), .val (.int p5), .val (.int (1 : Int32)), .val (.int (1 : Int32)), .val (.ref oa), .unset, .unset, .unset, .unset] [(.ref ob)])) _
        refine XS.astore X176.here hx rfl (hb hby at_82) rfl rfl (l' := #[.val (.long sa), .second, .val (.long sb), .second, .val (.int fl), .val (.int p4), .val (.int p5), .val (.int (1 : Int32)), .val (.int (1 : Int32)), .val (.ref oa), .val (.ref ob), .unset, .unset, .unset]) rfl ?_
        show Steps p.tables e below (T176.setTop (mkF m 84 #[.val (.long sa), .second, .val (.long sb), .second, .val (.int fl), .val (.int p4), .val (.int p5), .val (.int (1 : Int32)), .val (.int (1 : Int32)), .val (.ref oa), .val (.ref ob), .unset, .unset, .unset] [])) _
        exact k)
      obtain ⟨T184, h184, X184, e184, E184, A184, D184, -, st184⟩ := newO X176 hx hZ hown (hw _ (List.mem_of_getElem? (i := 0) rfl)) (hw _ (List.mem_of_getElem? (i := 1) rfl)) (hw _ (List.mem_of_getElem? (i := 2) rfl)) rfl (g := (mkF m 84 #[.val (.long sa), .second, .val (.long sb), .second, .val (.int fl), .val (.int p4), .val (.int p5), .val (.int (1 : Int32)), .val (.int (1 : Int32)), .val (.ref oa), .val (.ref ob), .unset, .unset, .unset] [])) rfl (hb hby at_84) (by decide) (by decide)
      obtain ⟨oc, g184⟩ : ∃ z, z = T176.heap.size := ⟨_, rfl⟩
      rw [← g184] at A184 D184 st184
      have F185 : Exa Z h184 oa "com/example/detectability/detectability/ProteinAbundance" := (F177.ext E184)
      have F186 : Fld Z h184 oa "com/example/detectability/detectability/ProteinAbundance" "name" "Ljava/lang/String;" (.ref s1) := (F178.ext E184)
      have F187 : Fld Z h184 oa "com/example/detectability/detectability/ProteinAbundance" "spectra" "J" (.long sa) := (F179.ext E184)
      have F188 : Fld Z h184 oa "com/example/detectability/detectability/ProteinAbundance" "abundance" "D" (.double da) := (F180.ext E184)
      have F189 : Exa Z h184 ob "com/example/detectability/detectability/ProteinAbundance" := (G176_0.ext E184)
      have F190 : Fld Z h184 ob "com/example/detectability/detectability/ProteinAbundance" "name" "Ljava/lang/String;" (.ref s2) := (G176_1.ext E184)
      have F191 : Fld Z h184 ob "com/example/detectability/detectability/ProteinAbundance" "spectra" "J" (.long sb) := (G176_2.ext E184)
      have F192 : Fld Z h184 ob "com/example/detectability/detectability/ProteinAbundance" "abundance" "D" (.double db) := (G176_3.ext E184)
      have F193 : Fld Z h184 oc "com/example/detectability/detectability/ComparedProtein" "name" "Ljava/lang/String;" .null := (D184 (Or.inr (hw _ (List.mem_of_getElem? (i := 18) rfl))) (ty := (.object "java/lang/String")) (by decide))
      have F194 : Fld Z h184 oc "com/example/detectability/detectability/ComparedProtein" "inA" "Lcom/example/detectability/detectability/ProteinAbundance;" .null := (D184 (Or.inr (hw _ (List.mem_of_getElem? (i := 20) rfl))) (ty := (.object "com/example/detectability/detectability/ProteinAbundance")) (by decide))
      have F195 : Fld Z h184 oc "com/example/detectability/detectability/ComparedProtein" "inB" "Lcom/example/detectability/detectability/ProteinAbundance;" .null := (D184 (Or.inr (hw _ (List.mem_of_getElem? (i := 22) rfl))) (ty := (.object "com/example/detectability/detectability/ProteinAbundance")) (by decide))
      have F196 : Fld Z h184 oc "com/example/detectability/detectability/ComparedProtein" "z" "D" (.double (0 : UInt64)) := (D184 (Or.inr (hw _ (List.mem_of_getElem? (i := 24) rfl))) (ty := .double) (by decide))
      have F197 : Fld Z h184 oc "com/example/detectability/detectability/ComparedProtein" "p" "D" (.double (0 : UInt64)) := (D184 (Or.inr (hw _ (List.mem_of_getElem? (i := 26) rfl))) (ty := .double) (by decide))
      have c198 : ∀ t, Steps p.tables e below (T184.setTop (mkF m 87 #[.val (.long sa), .second, .val (.long sb), .second, .val (.int fl), .val (.int p4), .val (.int p5), .val (.int (1 : Int32)), .val (.int (1 : Int32)), .val (.ref oa), .val (.ref ob), .unset, .unset, .unset] [(.ref oc)])) t → Steps p.tables e below (s₁.setTop (entryFrame m #[(.long sa), (.long sb), (.int fl), (.int p4), (.int p5)] maxLocals)) t := fun t k => c183 t (st184 _ k)
      have c199 : ∀ t, Steps p.tables e below (T184.setTop (mkF m 88 #[.val (.long sa), .second, .val (.long sb), .second, .val (.int fl), .val (.int p4), .val (.int p5), .val (.int (1 : Int32)), .val (.int (1 : Int32)), .val (.ref oa), .val (.ref ob), .unset, .unset, .unset] [(.ref oc), (.ref oc)])) t → Steps p.tables e below (s₁.setTop (entryFrame m #[(.long sa), (.long sb), (.int fl), (.int p4), (.int p5)] maxLocals)) t := fun t k => c198 t (by
        show Steps p.tables e below (T184.setTop (mkF m 87 #[.val (.long sa), .second, .val (.long sb), .second, .val (.int fl), .val (.int p4), .val (.int p5), .val (.int (1 : Int32)), .val (.int (1 : Int32)), .val (.ref oa), .val (.ref ob), .unset, .unset, .unset] [(.ref oc)])) _
        refine XS.dup X184.here hx rfl (hb hby at_87) rfl rfl ?_
        show Steps p.tables e below (T184.setTop (mkF m 88 #[.val (.long sa), .second, .val (.long sb), .second, .val (.int fl), .val (.int p4), .val (.int p5), .val (.int (1 : Int32)), .val (.int (1 : Int32)), .val (.ref oa), .val (.ref ob), .unset, .unset, .unset] [(.ref oc), (.ref oc)])) _
        exact k)
      obtain ⟨s3, T200, h200, q200, X200, e200, E200, S200, kk200, Zz200, Ow200, st200⟩ := ldcS (s := s) (vm0 := T165.vm) X184 hx hZ hown (hw _ (List.mem_of_getElem? (i := 3) rfl)) (fun d hd => hw d (strW d hd)) e184 S165 (Nat.le_trans (Nat.le_trans kk165 K176.1) E184.1) (g := (mkF m 88 #[.val (.long sa), .second, .val (.long sb), .second, .val (.int fl), .val (.int p4), .val (.int p5), .val (.int (1 : Int32)), .val (.int (1 : Int32)), .val (.ref oa), .val (.ref ob), .unset, .unset, .unset] [(.ref oc), (.ref oc)])) rfl (hb hby at_88) (n := 4) (by decide) (by decide) (by decide) (by decide)
      have hZ := Zz200
      have hown := Ow200
      have F201 : Exa Z h200 oa "com/example/detectability/detectability/ProteinAbundance" := (F185.ext E200)
      have F202 : Fld Z h200 oa "com/example/detectability/detectability/ProteinAbundance" "name" "Ljava/lang/String;" (.ref s1) := (F186.ext E200)
      have F203 : Fld Z h200 oa "com/example/detectability/detectability/ProteinAbundance" "spectra" "J" (.long sa) := (F187.ext E200)
      have F204 : Fld Z h200 oa "com/example/detectability/detectability/ProteinAbundance" "abundance" "D" (.double da) := (F188.ext E200)
      have F205 : Exa Z h200 ob "com/example/detectability/detectability/ProteinAbundance" := (F189.ext E200)
      have F206 : Fld Z h200 ob "com/example/detectability/detectability/ProteinAbundance" "name" "Ljava/lang/String;" (.ref s2) := (F190.ext E200)
      have F207 : Fld Z h200 ob "com/example/detectability/detectability/ProteinAbundance" "spectra" "J" (.long sb) := (F191.ext E200)
      have F208 : Fld Z h200 ob "com/example/detectability/detectability/ProteinAbundance" "abundance" "D" (.double db) := (F192.ext E200)
      have F209 : Exa Z h200 oc "com/example/detectability/detectability/ComparedProtein" := (A184.ext E200)
      have F210 : Fld Z h200 oc "com/example/detectability/detectability/ComparedProtein" "name" "Ljava/lang/String;" .null := (F193.ext E200)
      have F211 : Fld Z h200 oc "com/example/detectability/detectability/ComparedProtein" "inA" "Lcom/example/detectability/detectability/ProteinAbundance;" .null := (F194.ext E200)
      have F212 : Fld Z h200 oc "com/example/detectability/detectability/ComparedProtein" "inB" "Lcom/example/detectability/detectability/ProteinAbundance;" .null := (F195.ext E200)
      have F213 : Fld Z h200 oc "com/example/detectability/detectability/ComparedProtein" "z" "D" (.double (0 : UInt64)) := (F196.ext E200)
      have F214 : Fld Z h200 oc "com/example/detectability/detectability/ComparedProtein" "p" "D" (.double (0 : UInt64)) := (F197.ext E200)
      have c215 : ∀ t, Steps p.tables e below (T200.setTop (mkF m 90 #[.val (.long sa), .second, .val (.long sb), .second, .val (.int fl), .val (.int p4), .val (.int p5), .val (.int (1 : Int32)), .val (.int (1 : Int32)), .val (.ref oa), .val (.ref ob), .unset, .unset, .unset] [(.ref s3), (.ref oc), (.ref oc)])) t → Steps p.tables e below (s₁.setTop (entryFrame m #[(.long sa), (.long sb), (.int fl), (.int p4), (.int p5)] maxLocals)) t := fun t k => c199 t (st200 _ k)
      have c216 : ∀ t, Steps p.tables e below (T200.setTop (mkF m 96 #[.val (.long sa), .second, .val (.long sb), .second, .val (.int fl), .val (.int p4), .val (.int p5), .val (.int (1 : Int32)), .val (.int (1 : Int32)), .val (.ref oa), .val (.ref ob), .unset, .unset, .unset] [(.double FP.dconst1), (.double FP.dconst0), (.ref ob), (.ref oa), (.ref s3), (.ref oc), (.ref oc)])) t → Steps p.tables e below (s₁.setTop (entryFrame m #[(.long sa), (.long sb), (.int fl), (.int p4), (.int p5)] maxLocals)) t := fun t k => c215 t (by
        show Steps p.tables e below (T200.setTop (mkF m 90 #[.val (.long sa), .second, .val (.long sb), .second, .val (.int fl), .val (.int p4), .val (.int p5), .val (.int (1 : Int32)), .val (.int (1 : Int32)), .val (.ref oa), .val (.ref ob), .unset, .unset, .unset] [(.ref s3), (.ref oc), (.ref oc)])) _
        refine XS.aload X200.here hx rfl (hb hby at_90) rfl rfl ?_
        show Steps p.tables e below (T200.setTop (mkF m 92 #[.val (.long sa), .second, .val (.long sb), .second, .val (.int fl), .val (.int p4), .val (.int p5), .val (.int (1 : Int32)), .val (.int (1 : Int32)), .val (.ref oa), .val (.ref ob), .unset, .unset, .unset] [(.ref oa), (.ref s3), (.ref oc), (.ref oc)])) _
        refine XS.aload X200.here hx rfl (hb hby at_92) rfl rfl ?_
        show Steps p.tables e below (T200.setTop (mkF m 94 #[.val (.long sa), .second, .val (.long sb), .second, .val (.int fl), .val (.int p4), .val (.int p5), .val (.int (1 : Int32)), .val (.int (1 : Int32)), .val (.ref oa), .val (.ref ob), .unset, .unset, .unset] [(.ref ob), (.ref oa), (.ref s3), (.ref oc), (.ref oc)])) _
        refine XS.dconst0 X200.here hx rfl (hb hby at_94) rfl ?_
        show Steps p.tables e below (T200.setTop (mkF m 95 #[.val (.long sa), .second, .val (.long sb), .second, .val (.int fl), .val (.int p4), .val (.int p5), .val (.int (1 : Int32)), .val (.int (1 : Int32)), .val (.ref oa), .val (.ref ob), .unset, .unset, .unset] [(.double FP.dconst0), (.ref ob), (.ref oa), (.ref s3), (.ref oc), (.ref oc)])) _
        refine XS.dconst1 X200.here hx rfl (hb hby at_95) rfl ?_
        show Steps p.tables e below (T200.setTop (mkF m 96 #[.val (.long sa), .second, .val (.long sb), .second, .val (.int fl), .val (.int p4), .val (.int p5), .val (.int (1 : Int32)), .val (.int (1 : Int32)), .val (.ref oa), .val (.ref ob), .unset, .unset, .unset] [(.double FP.dconst1), (.double FP.dconst0), (.ref ob), (.ref oa), (.ref s3), (.ref oc), (.ref oc)])) _
        exact k)
      obtain ⟨_, _, ⟨T217, L217, k217', n217⟩, -, X217, ⟨Lc217, hQ217, l217, y217, z217⟩, st217⟩ := X200.specialBack hx (y := (⟨"com/example/detectability/detectability/ComparedProtein", "<init>", "(Ljava/lang/String;Lcom/example/detectability/detectability/ProteinAbundance;Lcom/example/detectability/detectability/ProteinAbundance;DD)V"⟩ : MethodName)) rfl hown (mvT hZ (hw _ (List.mem_of_getElem? (i := 11) rfl))) (mvT hZ (hw _ (List.mem_of_getElem? (i := 12) rfl))) (mvT hZ (hw _ (List.mem_of_getElem? (i := 13) rfl))) (by decide) (backOf (W := 1) (rm_ci11 l Z a0 hw [] oc s3 oa ob FP.dconst0 FP.dconst1 h200 n0 (Nat.le_trans (Nat.le_trans (Nat.le_trans (Nat.le_trans (Nat.le_trans (Nat.le_trans (Nat.le_trans (Nat.le_trans Z0 E138.1) E144.1) K151.1) E155.1) E165.1) K176.1) E184.1) E200.1) F209 F210 F211 F212 F213 F214 (Nat.le_trans (Nat.le_trans (Nat.le_trans (Nat.le_trans (Nat.le_trans (Nat.le_trans (Nat.le_trans Z0 E138.1) E144.1) K151.1) E155.1) E165.1) K176.1) (Nat.le_of_eq g184.symm))) hZ (hw _ (List.mem_of_getElem? (i := 13) rfl)) (hw _ (List.mem_of_getElem? (i := 2) rfl)) (by decide) (by decide)) (g := (mkF m 96 #[.val (.long sa), .second, .val (.long sb), .second, .val (.int fl), .val (.int p4), .val (.int p5), .val (.int (1 : Int32)), .val (.int (1 : Int32)), .val (.ref oa), .val (.ref ob), .unset, .unset, .unset] [(.double FP.dconst1), (.double FP.dconst0), (.ref ob), (.ref oa), (.ref s3), (.ref oc), (.ref oc)])) rfl (by rw [hml]; rfl) (Steps.refl _) (a := oc) (argsL := [(.ref s3), (.ref oa), (.ref ob), (.double FP.dconst0), (.double FP.dconst1)]) (rest := [(.ref oc)]) (lenOf pd__Ljava_lang_String_Lcom_example_detectability_detectability_ProteinAbundance_Lcom_example_detectability_detectability_ProteinAbundance_DD_V rfl) rfl (by show 2 * 0 + _ ≤ _; exact Nat.le_of_eq rfl) (hb hby at_96) (fun _ _ => ⟨rfl, e200, (by decide : 9 + 0 ≤ _), (by decide : 35 + 0 ≤ _)⟩)
      dsimp only [Pt.U, Pt.locs, Pt.cells, Pt.slots] at X217 l217 y217 z217 st217 hQ217
      subst l217 y217 z217
      obtain ⟨rfl, N217, K217, G217_0, G217_1, G217_2, G217_3, G217_4, G217_5⟩ := hQ217
      have M217 := Fr.app M176 N217
      have F218 : Exa Z T217.heap oa "com/example/detectability/detectability/ProteinAbundance" := (F201.keep K217)
      have F219 : Fld Z T217.heap oa "com/example/detectability/detectability/ProteinAbundance" "name" "Ljava/lang/String;" (.ref s1) := (F202.keep K217 (ninS (Nat.ne_of_lt (Nat.lt_of_lt_of_le F177.lt (Nat.le_of_eq g184.symm))) nin0))
      have F220 : Fld Z T217.heap oa "com/example/detectability/detectability/ProteinAbundance" "spectra" "J" (.long sa) := (F203.keep K217 (ninS (Nat.ne_of_lt (Nat.lt_of_lt_of_le F177.lt (Nat.le_of_eq g184.symm))) nin0))
      have F221 : Fld Z T217.heap oa "com/example/detectability/detectability/ProteinAbundance" "abundance" "D" (.double da) := (F204.keep K217 (ninS (Nat.ne_of_lt (Nat.lt_of_lt_of_le F177.lt (Nat.le_of_eq g184.symm))) nin0))
      have F222 : Exa Z T217.heap ob "com/example/detectability/detectability/ProteinAbundance" := (F205.keep K217)
      have F223 : Fld Z T217.heap ob "com/example/detectability/detectability/ProteinAbundance" "name" "Ljava/lang/String;" (.ref s2) := (F206.keep K217 (ninS (Nat.ne_of_lt (Nat.lt_of_lt_of_le G176_0.lt (Nat.le_of_eq g184.symm))) nin0))
      have F224 : Fld Z T217.heap ob "com/example/detectability/detectability/ProteinAbundance" "spectra" "J" (.long sb) := (F207.keep K217 (ninS (Nat.ne_of_lt (Nat.lt_of_lt_of_le G176_0.lt (Nat.le_of_eq g184.symm))) nin0))
      have F225 : Fld Z T217.heap ob "com/example/detectability/detectability/ProteinAbundance" "abundance" "D" (.double db) := (F208.keep K217 (ninS (Nat.ne_of_lt (Nat.lt_of_lt_of_le G176_0.lt (Nat.le_of_eq g184.symm))) nin0))
      have F226 : Exa Z T217.heap oc "com/example/detectability/detectability/ComparedProtein" := (F209.keep K217)
      have c227 : ∀ t, Steps p.tables e below (T217.setTop (mkF m 99 #[.val (.long sa), .second, .val (.long sb), .second, .val (.int fl), .val (.int p4), .val (.int p5), .val (.int (1 : Int32)), .val (.int (1 : Int32)), .val (.ref oa), .val (.ref ob), .unset, .unset, .unset] [(.ref oc)])) t → Steps p.tables e below (s₁.setTop (entryFrame m #[(.long sa), (.long sb), (.int fl), (.int p4), (.int p5)] maxLocals)) t := fun t k => c216 t (st217.trans k)
      have c228 : ∀ t, Steps p.tables e below (T217.setTop (mkF m 115 #[.val (.long sa), .second, .val (.long sb), .second, .val (.int fl), .val (.int p4), .val (.int p5), .val (.int (1 : Int32)), .val (.int (1 : Int32)), .val (.ref oa), .val (.ref ob), .val (.ref oc), .val (.long sb), .second] [(.ref oc)])) t → Steps p.tables e below (s₁.setTop (entryFrame m #[(.long sa), (.long sb), (.int fl), (.int p4), (.int p5)] maxLocals)) t := fun t k => c227 t (by
        show Steps p.tables e below (T217.setTop (mkF m 99 #[.val (.long sa), .second, .val (.long sb), .second, .val (.int fl), .val (.int p4), .val (.int p5), .val (.int (1 : Int32)), .val (.int (1 : Int32)), .val (.ref oa), .val (.ref ob), .unset, .unset, .unset] [(.ref oc)])) _
        refine XS.astore X217.here hx rfl (hb hby at_99) rfl rfl (l' := #[.val (.long sa), .second, .val (.long sb), .second, .val (.int fl), .val (.int p4), .val (.int p5), .val (.int (1 : Int32)), .val (.int (1 : Int32)), .val (.ref oa), .val (.ref ob), .val (.ref oc), .unset, .unset]) rfl ?_
        show Steps p.tables e below (T217.setTop (mkF m 101 #[.val (.long sa), .second, .val (.long sb), .second, .val (.int fl), .val (.int p4), .val (.int p5), .val (.int (1 : Int32)), .val (.int (1 : Int32)), .val (.ref oa), .val (.ref ob), .val (.ref oc), .unset, .unset] [])) _
        refine XS.iload X217.here hx rfl (hb hby at_101) rfl ?_
        show Steps p.tables e below (T217.setTop (mkF m 103 #[.val (.long sa), .second, .val (.long sb), .second, .val (.int fl), .val (.int p4), .val (.int p5), .val (.int (1 : Int32)), .val (.int (1 : Int32)), .val (.ref oa), .val (.ref ob), .val (.ref oc), .unset, .unset] [(.int (1 : Int32))])) _
        refine XS.ifNo X217.here hx rfl (hb hby at_103) rfl (XT.i0_eq_f (by decide)) ?_
        show Steps p.tables e below (T217.setTop (mkF m 106 #[.val (.long sa), .second, .val (.long sb), .second, .val (.int fl), .val (.int p4), .val (.int p5), .val (.int (1 : Int32)), .val (.int (1 : Int32)), .val (.ref oa), .val (.ref ob), .val (.ref oc), .unset, .unset] [])) _
        refine XT.lloadN X217.here hx rfl (hb hby at_106) rfl ?_
        show Steps p.tables e below (T217.setTop (mkF m 107 #[.val (.long sa), .second, .val (.long sb), .second, .val (.int fl), .val (.int p4), .val (.int p5), .val (.int (1 : Int32)), .val (.int (1 : Int32)), .val (.ref oa), .val (.ref ob), .val (.ref oc), .unset, .unset] [(.long sb)])) _
        refine XS.goto X217.here hx rfl (pc0 := 107) (pc' := 111) rfl (hb hby at_107) (by decide) (by decide) ?_
        show Steps p.tables e below (T217.setTop (mkF m 111 #[.val (.long sa), .second, .val (.long sb), .second, .val (.int fl), .val (.int p4), .val (.int p5), .val (.int (1 : Int32)), .val (.int (1 : Int32)), .val (.ref oa), .val (.ref ob), .val (.ref oc), .unset, .unset] [(.long sb)])) _
        refine XT.lstore X217.here hx rfl (hb hby at_111) rfl (l' := #[.val (.long sa), .second, .val (.long sb), .second, .val (.int fl), .val (.int p4), .val (.int p5), .val (.int (1 : Int32)), .val (.int (1 : Int32)), .val (.ref oa), .val (.ref ob), .val (.ref oc), .val (.long sb), .second]) rfl ?_
        show Steps p.tables e below (T217.setTop (mkF m 113 #[.val (.long sa), .second, .val (.long sb), .second, .val (.int fl), .val (.int p4), .val (.int p5), .val (.int (1 : Int32)), .val (.int (1 : Int32)), .val (.ref oa), .val (.ref ob), .val (.ref oc), .val (.long sb), .second] [])) _
        refine XS.aload X217.here hx rfl (hb hby at_113) rfl rfl ?_
        show Steps p.tables e below (T217.setTop (mkF m 115 #[.val (.long sa), .second, .val (.long sb), .second, .val (.int fl), .val (.int p4), .val (.int p5), .val (.int (1 : Int32)), .val (.int (1 : Int32)), .val (.ref oa), .val (.ref ob), .val (.ref oc), .val (.long sb), .second] [(.ref oc)])) _
        exact k)
      obtain ⟨cq229, kq229, q229a, q229b, q229c⟩ := isOf hZ rfl G217_0
      obtain ⟨_, _, ⟨T229, L229, k229', n229⟩, -, X229, ⟨Lc229, hQ229, l229, y229, z229⟩, st229⟩ := X217.virtualBack hx (y := (⟨"com/example/detectability/detectability/ComparedProtein", "getSpectraB", "()J"⟩ : MethodName)) (z := (⟨"com/example/detectability/detectability/ComparedProtein", "getSpectraB", "()J"⟩ : MethodName)) hown (mvT hZ (hw _ (List.mem_of_getElem? (i := 27) rfl))) (mvT hZ (hw _ (List.mem_of_getElem? (i := 28) rfl))) (notFace_of_selects (args := #[]) (mvT hZ (hw _ (List.mem_of_getElem? (i := 30) rfl)))) (mvT hZ (hw _ (List.mem_of_getElem? (i := 30) rfl))) (mvT hZ (hw _ (List.mem_of_getElem? (i := 29) rfl))) (by decide) (backOf (W := 0) (rm_cg1 l Z a0 hw [] oc ob sb T217.heap n0 (Nat.le_trans (Nat.le_trans (Nat.le_trans (Nat.le_trans (Nat.le_trans (Nat.le_trans (Nat.le_trans (Nat.le_trans (Nat.le_trans Z0 E138.1) E144.1) K151.1) E155.1) E165.1) K176.1) E184.1) E200.1) K217.1) G217_3 F222 F224) hZ (hw _ (List.mem_of_getElem? (i := 31) rfl)) (hw _ (List.mem_of_getElem? (i := 2) rfl)) (by decide) (by decide)) q229a q229c (g := (mkF m 115 #[.val (.long sa), .second, .val (.long sb), .second, .val (.int fl), .val (.int p4), .val (.int p5), .val (.int (1 : Int32)), .val (.int (1 : Int32)), .val (.ref oa), .val (.ref ob), .val (.ref oc), .val (.long sb), .second] [(.ref oc)])) rfl (by rw [hml]; rfl) (Steps.refl _) (argsL := []) (rest := []) (lenOf pd___J rfl) rfl (by show 2 * 0 + _ ≤ _; exact Nat.le_of_eq rfl) (hb hby at_115) (fun _ _ => ⟨rfl, rfl, (by decide : 9 + 0 ≤ _), (by decide : 35 + 0 ≤ _)⟩)
      dsimp only [Pt.U, Pt.locs, Pt.cells, Pt.slots] at X229 l229 y229 z229 st229 hQ229
      subst l229 y229 z229
      obtain ⟨rfl, N229, e229⟩ := hQ229
      have M229 := Fr.app M217 N229
      have c230 : ∀ t, Steps p.tables e below (T229.setTop (mkF m 118 #[.val (.long sa), .second, .val (.long sb), .second, .val (.int fl), .val (.int p4), .val (.int p5), .val (.int (1 : Int32)), .val (.int (1 : Int32)), .val (.ref oa), .val (.ref ob), .val (.ref oc), .val (.long sb), .second] [(.long sb)])) t → Steps p.tables e below (s₁.setTop (entryFrame m #[(.long sa), (.long sb), (.int fl), (.int p4), (.int p5)] maxLocals)) t := fun t k => c228 t (st229.trans k)
      have c231 : ∀ t, Steps p.tables e below (T229.setTop (mkF m 129 #[.val (.long sa), .second, .val (.long sb), .second, .val (.int fl), .val (.int p4), .val (.int p5), .val (.int (1 : Int32)), .val (.int (1 : Int32)), .val (.ref oa), .val (.ref ob), .val (.ref oc), .val (.long sb), .second] [(.int (1 : Int32))])) t → Steps p.tables e below (s₁.setTop (entryFrame m #[(.long sa), (.long sb), (.int fl), (.int p4), (.int p5)] maxLocals)) t := fun t k => c230 t (by
        show Steps p.tables e below (T229.setTop (mkF m 118 #[.val (.long sa), .second, .val (.long sb), .second, .val (.int fl), .val (.int p4), .val (.int p5), .val (.int (1 : Int32)), .val (.int (1 : Int32)), .val (.ref oa), .val (.ref ob), .val (.ref oc), .val (.long sb), .second] [(.long sb)])) _
        refine XT.lload X229.here hx rfl (hb hby at_118) rfl ?_
        show Steps p.tables e below (T229.setTop (mkF m 120 #[.val (.long sa), .second, .val (.long sb), .second, .val (.int fl), .val (.int p4), .val (.int p5), .val (.int (1 : Int32)), .val (.int (1 : Int32)), .val (.ref oa), .val (.ref ob), .val (.ref oc), .val (.long sb), .second] [(.long sb), (.long sb)])) _
        refine XT.lcmp X229.here hx rfl (hb hby at_120) rfl ?_
        show Steps p.tables e below (T229.setTop (mkF m 121 #[.val (.long sa), .second, .val (.long sb), .second, .val (.int fl), .val (.int p4), .val (.int p5), .val (.int (1 : Int32)), .val (.int (1 : Int32)), .val (.ref oa), .val (.ref ob), .val (.ref oc), .val (.long sb), .second] [(.int (XT.cmpL sb sb))])) _
        refine XS.ifNo X229.here hx rfl (hb hby at_121) rfl (XT.ll_ne_f (rfl)) ?_
        show Steps p.tables e below (T229.setTop (mkF m 124 #[.val (.long sa), .second, .val (.long sb), .second, .val (.int fl), .val (.int p4), .val (.int p5), .val (.int (1 : Int32)), .val (.int (1 : Int32)), .val (.ref oa), .val (.ref ob), .val (.ref oc), .val (.long sb), .second] [])) _
        refine XS.iconst X229.here hx rfl (hb hby at_124) ?_
        show Steps p.tables e below (T229.setTop (mkF m 125 #[.val (.long sa), .second, .val (.long sb), .second, .val (.int fl), .val (.int p4), .val (.int p5), .val (.int (1 : Int32)), .val (.int (1 : Int32)), .val (.ref oa), .val (.ref ob), .val (.ref oc), .val (.long sb), .second] [(.int (1 : Int32))])) _
        refine XS.goto X229.here hx rfl (pc0 := 125) (pc' := 129) rfl (hb hby at_125) (by decide) (by decide) ?_
        show Steps p.tables e below (T229.setTop (mkF m 129 #[.val (.long sa), .second, .val (.long sb), .second, .val (.int fl), .val (.int p4), .val (.int p5), .val (.int (1 : Int32)), .val (.int (1 : Int32)), .val (.ref oa), .val (.ref ob), .val (.ref oc), .val (.long sb), .second] [(.int (1 : Int32))])) _
        exact k)
      have hsz : q200 ≤ T229.heap.size := by rw [e229]; exact (Nat.le_trans kk200 K217.1)
      obtain ⟨fs, hr, hrun, hended, hRW⟩ := Jvm.Stand.leaveW (s := s) (vm₁ := T200.vm) X229 S200 hsz (v := (some (.int (1 : Int32)))) (fun h => by rw [Bd.returns] at h; cases h)
      refine ⟨_, _, pre0 _ (c231 _ (retN X229 hx (t := .boolean) Bd.returns (by simp) (hb hby at_129) hr)), hrun, hended, _, _, rfl, ?_, hRW.1, hRW.2.1, hRW.2.2.1, hRW.2.2.2.mono (by decide) (by decide)⟩
      show Q_0 Z sa sb fl p4 p5 h0 n0 _ T229.heap _
      rw [e229]
      exact ⟨rfl, M229⟩
set_option maxRecDepth 65536 in
set_option maxHeartbeats 40000000 in
theorem comes_1 {Post : Tables → Env → Array Value → State → Outcome → State → Prop} (hpost : ∀ tb e args s v u, (limb_1_1.after args s (.returned v) u = true ∧ limb_1_2.after args s (.returned v) u = true ∧ True) → ReturnedEndW s (.returned v) u (Jvm.fieldLocs frame_1_writes args s ++ Jvm.arrayLocs frame_1_arrays args s ++ Jvm.staticLocs frame_1_statics s) 16 1152 → Post tb e args s (.returned v) u) :
    ArmFor flags0 classFile x code maxLocals ret World_1 tables_1 room_1 Calls_1 rest_1 Pre_1 Post := by
  intro l hfl _ _ p e ha hc hk s m args below hf hA hF happ hP
  obtain ⟨hcalls, hrest, hpre⟩ := hP
  obtain ⟨-, -, -, hnamed, -, -, -, hat⟩ := (Spec.applies_iff hf).mp happ
  obtain ⟨hg, hn⟩ := and_e (Cond.before_iff.mp (show (Jvm.Cond.and given_1 narrow_1).before args s = true from hpre))
  obtain ⟨g0, r0⟩ := and_e hg
  obtain ⟨g1, r1⟩ := and_e r0
  obtain ⟨g2, r2⟩ := and_e r1
  obtain ⟨g3, r3⟩ := and_e r2
  obtain ⟨g4, r4⟩ := and_e r3
  obtain ⟨w0, w1, w2, w3, w4, rfl⟩ : ∃ w0 w1 w2 w3 w4 : Value, args = #[w0, w1, w2, w3, w4] := by
    have hs : args.size = 5 := by simpa [Cond.value, given_1] using g0
    obtain ⟨L⟩ := args
    match L, hs with
    | [w0, w1, w2, w3, w4], _ => exact ⟨w0, w1, w2, w3, w4, rfl⟩
  have hw := fun d (hd : d ∈ tables_1) => atoms_spec (ws := Jvm.Cond.code x code maxLocals ret :: tables_1) hat d (List.mem_cons_of_mem _ hd)
  obtain ⟨i0, e0⟩ := isL_v g1
  obtain rfl : w0 = (.long i0) := Option.some.inj e0
  obtain ⟨i1, e1⟩ := isL_v g2
  obtain rfl : w1 = (.long i1) := Option.some.inj e1
  obtain ⟨i2, e2⟩ := is_v g3
  obtain rfl : w2 = (.int i2) := Option.some.inj e2
  obtain ⟨i3, e3⟩ := is_v g4
  obtain rfl : w3 = (.int i3) := Option.some.inj e3
  obtain ⟨i4, e4⟩ := is_v r4
  obtain rfl : w4 = (.int i4) := Option.some.inj e4
  obtain ⟨n, o, h1, h2, h3, _, L, rfl, ⟨rfl, N⟩, hq⟩ := rm_0 l s _ hw tables_1 i0 i1 i2 i3 i4 s.heap s.heap.size (Nat.le_refl _)  p e ha hc hk s m _ below hf ((Spec.applies_iff_loose hf).mp happ).1 ⟨rfl, State.Warmed39.refl s, rfl⟩ trivial
  refine ⟨n, _, h1, h2, h3, hpost _ _ _ _ _ _ ⟨Cond.after_iff.mpr rfl, Cond.after_iff.mpr (eq_i res_at (Term.int_eval (1)) rfl), trivial⟩ ⟨hq.1, hq.2.1, hq.2.2.1, (hq.2.2.2.sift fun y hy => Or.inr (N y hy)).mono (by decide) (by decide)⟩⟩
theorem main_1_1 : Claimed_1_1 := comes_1 fun _ _ _ _ _ _ h hF => ⟨h.1, hF⟩
theorem main_1_2 : Claimed_1_2 := comes_1 fun _ _ _ _ _ _ h hF => ⟨h.2.1, hF⟩
end Jvm.Pilot.@@N@@
namespace Jvm.Pilot.@@N@@
open Jvm Jvm.ClassFile Sem Op Lib Jvm.Free Jvm.Stand Jvm.Pilot.@@N@@.Jvm.D
/-! MADE BY PROGRAM (witnessworld.py) out of the Statement's table words and the real class files: 15 classes; the members and pool entries that the words name. The judged class is class 1, her method 1. -/
namespace start1
open Jvm.ClassFile
def u (s : String) : CpInfo := .utf8 (stringToUtf16 s)
/-- a pool by its gaps: so many unusable entries, then the entry; so many at the end -/
def gap : Nat → List CpInfo → List CpInfo
  | 0, r => r
  | n + 1, r => .unusable :: gap n r
def poolList (es : List (Nat × CpInfo)) (last : Nat) : List CpInfo := es.foldr (fun e r => gap e.1 (e.2 :: r)) (gap last [])
def pool (es : List (Nat × CpInfo)) (last : Nat) : Array CpInfo := ⟨poolList es last⟩
def fileOf (pool : Array CpInfo) (this : Nat) (attrs : Array Attribute := #[]) (ms : Array MethodInfo := #[]) (fl : Nat := 33) (sup : Nat := 0) (ifs : Array Nat := #[]) (fds : Array FieldInfo := #[]) : ClassFile where
  minorVersion := 0
  majorVersion := 65
  constantPool := pool
  accessFlags := fl
  thisClass := this
  superClass := sup
  interfaces := ifs
  fields := fds
  methods := ms
  attributes := attrs
def plain (name : String) (sup : Option ClassId) : Class where
  name := name
  kind := .ordinary
  loader := none
  accessFlags := 33
  super := sup
  interfaces := #[]
  cf := none
  fields := #[]
  methods := #[]
  instanceTypes := #[]
  staticTypes := #[]
  resolved := #[]
  callSites := []
  init := .initialized
  statics := none
  mirror := none

def pool0 : Array CpInfo := pool [(5, u "<init>"), (0, u "()V"), (1, .class_ 10), (1, u "java/lang/Object")] 113

def k0c0 : Code := { maxStack := 0, maxLocals := 1, code := object_method_1_code, exceptionTable := #[], attributes := #[] }
def k0m0 : Method := { name := "<init>", desc := "()V", sig := { parameters := [], returnType := none }, accessFlags := 1, code := some k0c0 }
/-- java/lang/Object -/
def k0 : Class := { plain "java/lang/Object" none with
  accessFlags := 33
  interfaces := #[]
  cf := some (fileOf pool0 8 #[] #[{ accessFlags := 1, nameIndex := 5, descriptorIndex := 6, attributes := #[] }] 33 0 #[] #[])
  fields := #[]
  methods := #[k0m0]
  instanceTypes := #[]
  staticTypes := #[]
  resolved := Array.replicate 124 none
  statics := none }

def pool1 : Array CpInfo := pool [(2, .class_ 4), (1, u "java/lang/Object"), (0, u "<init>"), (0, u "()V"), (0, .class_ 8), (0, u "com/example/detectability/detectability/ProteinAbundance"), (0, .string 10), (0, u "p"), (0, .methodref 7 12), (0, .nameAndType 5 13), (0, u "(Ljava/lang/String;JD)V"), (0, .class_ 15), (0, u "com/example/detectability/detectability/ComparedProtein"), (0, .methodref 14 17), (0, .nameAndType 5 18), (0, u "(Ljava/lang/String;Lcom/example/detectability/detectability/ProteinAbundance;Lcom/example/detectability/detectability/ProteinAbundance;DD)V"), (0, .methodref 14 20), (0, .nameAndType 21 22), (0, u "getSpectraB"), (0, u "()J"), (0, .class_ 24), (0, u "com/example/detectability/detectability/ComparedProteinGetSpectraBPinLaw"), (2, u "law"), (0, u "(JJIII)Z")] 3

def k1m0 : Method := { name := "<init>", desc := "()V", sig := { parameters := [], returnType := none }, accessFlags := 1, code := none }
def k1c1 : Code := { maxStack := 9, maxLocals := 14, code := code, exceptionTable := #[], attributes := #[] }
def k1m1 : Method := { name := "law", desc := "(JJIII)Z", sig := { parameters := [.long, .long, .int, .int, .int], returnType := some .boolean }, accessFlags := 9, code := some k1c1 }
/-- com/example/detectability/detectability/ComparedProteinGetSpectraBPinLaw -/
def k1 : Class := { plain "com/example/detectability/detectability/ComparedProteinGetSpectraBPinLaw" (some 0) with
  accessFlags := 49
  interfaces := #[]
  cf := some (fileOf pool1 23 #[] #[{ accessFlags := 1, nameIndex := 5, descriptorIndex := 6, attributes := #[] }, { accessFlags := 9, nameIndex := 27, descriptorIndex := 28, attributes := #[] }] 49 2 #[] #[])
  fields := #[]
  methods := #[k1m0, k1m1]
  instanceTypes := #[]
  staticTypes := #[]
  resolved := Array.replicate 32 none
  statics := none }

def pool2 : Array CpInfo := pool [(1, .methodref 2 3), (0, .class_ 4), (0, .nameAndType 5 6), (0, u "java/lang/Object"), (0, u "<init>"), (0, u "()V"), (0, .fieldref 8 9), (0, .class_ 10), (0, .nameAndType 11 12), (0, u "com/example/detectability/detectability/ComparedProtein"), (0, u "name"), (0, u "Ljava/lang/String;"), (0, .fieldref 8 14), (0, .nameAndType 15 16), (0, u "inA"), (0, u "Lcom/example/detectability/detectability/ProteinAbundance;"), (0, .fieldref 8 18), (0, .nameAndType 19 16), (0, u "inB"), (0, .fieldref 8 21), (0, .nameAndType 22 23), (0, u "z"), (0, u "D"), (0, .fieldref 8 25), (0, .nameAndType 26 23), (0, u "p"), (0, .methodref 28 29), (0, .class_ 30), (0, .nameAndType 31 32), (0, u "com/example/detectability/detectability/ProteinAbundance"), (0, u "getSpectra"), (0, u "()J"), (20, u "(Ljava/lang/String;Lcom/example/detectability/detectability/ProteinAbundance;Lcom/example/detectability/detectability/ProteinAbundance;DD)V"), (6, u "getSpectraB")] 7

def k2c0 : Code := { maxStack := 3, maxLocals := 8, code := prog_4_method_1_code, exceptionTable := #[], attributes := #[] }
def k2m0 : Method := { name := "<init>", desc := "(Ljava/lang/String;Lcom/example/detectability/detectability/ProteinAbundance;Lcom/example/detectability/detectability/ProteinAbundance;DD)V", sig := { parameters := [(.object "java/lang/String"), (.object "com/example/detectability/detectability/ProteinAbundance"), (.object "com/example/detectability/detectability/ProteinAbundance"), .double, .double], returnType := none }, accessFlags := 0, code := some k2c0 }
def k2c1 : Code := { maxStack := 2, maxLocals := 1, code := prog_4_method_4_code, exceptionTable := #[], attributes := #[] }
def k2m1 : Method := { name := "getSpectraB", desc := "()J", sig := { parameters := [], returnType := some .long }, accessFlags := 1, code := some k2c1 }
/-- com/example/detectability/detectability/ComparedProtein -/
def k2 : Class := { plain "com/example/detectability/detectability/ComparedProtein" (some 0) with
  accessFlags := 33
  interfaces := #[]
  cf := some (fileOf pool2 8 #[] #[{ accessFlags := 0, nameIndex := 5, descriptorIndex := 53, attributes := #[] }, { accessFlags := 1, nameIndex := 60, descriptorIndex := 32, attributes := #[] }] 33 2 #[] #[{ accessFlags := 18, nameIndex := 11, descriptorIndex := 12, attributes := #[] }, { accessFlags := 18, nameIndex := 15, descriptorIndex := 16, attributes := #[] }, { accessFlags := 18, nameIndex := 19, descriptorIndex := 16, attributes := #[] }, { accessFlags := 18, nameIndex := 22, descriptorIndex := 23, attributes := #[] }, { accessFlags := 18, nameIndex := 26, descriptorIndex := 23, attributes := #[] }])
  fields := #[{ name := "name", type := (.object "java/lang/String"), accessFlags := 18, slot := 0, constantValue := 0 }, { name := "inA", type := (.object "com/example/detectability/detectability/ProteinAbundance"), accessFlags := 18, slot := 1, constantValue := 0 }, { name := "inB", type := (.object "com/example/detectability/detectability/ProteinAbundance"), accessFlags := 18, slot := 2, constantValue := 0 }, { name := "z", type := .double, accessFlags := 18, slot := 3, constantValue := 0 }, { name := "p", type := .double, accessFlags := 18, slot := 4, constantValue := 0 }]
  methods := #[k2m0, k2m1]
  instanceTypes := #[(.object "java/lang/String"), (.object "com/example/detectability/detectability/ProteinAbundance"), (.object "com/example/detectability/detectability/ProteinAbundance"), .double, .double]
  staticTypes := #[]
  resolved := Array.replicate 68 none
  statics := none }

def pool3 : Array CpInfo := pool [(1, .class_ 2), (0, u "java/io/Serializable"), (0, .class_ 4), (0, u "java/lang/Object")] 2

/-- java/io/Serializable -/
def k3 : Class := { plain "java/io/Serializable" (some 0) with
  accessFlags := 1537
  interfaces := #[]
  cf := some (fileOf pool3 1 #[] #[] 1537 3 #[] #[])
  fields := #[]
  methods := #[]
  instanceTypes := #[]
  staticTypes := #[]
  resolved := Array.replicate 7 none
  statics := none }

def pool4 : Array CpInfo := pool [(1, .class_ 2), (0, u "java/lang/Comparable"), (0, .class_ 4), (0, u "java/lang/Object")] 7

/-- java/lang/Comparable -/
def k4 : Class := { plain "java/lang/Comparable" (some 0) with
  accessFlags := 1537
  interfaces := #[]
  cf := some (fileOf pool4 1 #[] #[] 1537 3 #[] #[])
  fields := #[]
  methods := #[]
  instanceTypes := #[]
  staticTypes := #[]
  resolved := Array.replicate 12 none
  statics := none }

def pool5 : Array CpInfo := pool [(2, .class_ 4), (1, u "java/lang/CharSequence"), (42, .class_ 48), (0, u "java/lang/CharSequence$1CodePointIterator"), (10, .class_ 60), (0, u "java/lang/CharSequence$1CharIterator"), (5, .class_ 67), (0, u "java/lang/Object")] 63

/-- java/lang/CharSequence -/
def k5 : Class := { plain "java/lang/CharSequence" (some 0) with
  accessFlags := 1537
  interfaces := #[]
  cf := some (fileOf pool5 2 #[.nestMembers #[47, 59]] #[] 1537 66 #[] #[])
  fields := #[]
  methods := #[]
  instanceTypes := #[]
  staticTypes := #[]
  resolved := Array.replicate 131 none
  statics := none }

def pool6 : Array CpInfo := pool [(1, .class_ 2), (0, u "java/lang/constant/Constable"), (0, .class_ 4), (0, u "java/lang/Object")] 6

/-- java/lang/constant/Constable -/
def k6 : Class := { plain "java/lang/constant/Constable" (some 0) with
  accessFlags := 1537
  interfaces := #[]
  cf := some (fileOf pool6 1 #[] #[] 1537 3 #[] #[])
  fields := #[]
  methods := #[]
  instanceTypes := #[]
  staticTypes := #[]
  resolved := Array.replicate 11 none
  statics := none }

def pool7 : Array CpInfo := pool [(1, .class_ 2), (0, u "java/lang/constant/ConstantDesc"), (0, .class_ 4), (0, u "java/lang/Object")] 32

/-- java/lang/constant/ConstantDesc -/
def k7 : Class := { plain "java/lang/constant/ConstantDesc" (some 0) with
  accessFlags := 1537
  interfaces := #[]
  cf := some (fileOf pool7 1 #[] #[] 1537 3 #[] #[])
  fields := #[]
  methods := #[]
  instanceTypes := #[]
  staticTypes := #[]
  resolved := Array.replicate 37 none
  statics := none }

def pool8 : Array CpInfo := pool [(2, .class_ 4), (1, u "java/lang/Object"), (0, u "<init>"), (0, u "()V"), (3, .class_ 12), (1, u "java/lang/String"), (0, u "value"), (0, u "[B"), (2, u "coder"), (0, u "B"), (2, u "hash"), (0, u "I"), (2, u "hashIsZero"), (0, u "Z"), (13, u "COMPACT_STRINGS"), (534, .class_ 576), (0, u "java/lang/CharSequence"), (22, u "CASE_INSENSITIVE_ORDER"), (0, u "Ljava/util/Comparator;"), (500, u "serialPersistentFields"), (0, u "[Ljava/io/ObjectStreamField;"), (0, .class_ 1104), (0, u "java/lang/String$CaseInsensitiveComparator"), (1, .class_ 1107), (0, u "java/io/Serializable"), (0, .class_ 1109), (0, u "java/lang/Comparable"), (0, .class_ 1111), (0, u "java/lang/constant/Constable"), (0, .class_ 1113), (0, u "java/lang/constant/ConstantDesc"), (2, u "serialVersionUID"), (0, u "J"), (3, u "REPL"), (0, u "C"), (2, u "LATIN1"), (1, u "UTF16")] 323

def k8m0 : Method := { name := "<init>", desc := "()V", sig := { parameters := [], returnType := none }, accessFlags := 1, code := none }
/-- java/lang/String -/
def k8 : Class := { plain "java/lang/String" (some 0) with
  accessFlags := 49
  interfaces := #[3, 4, 5, 6, 7]
  cf := some (fileOf pool8 10 #[.nestMembers #[1103]] #[{ accessFlags := 1, nameIndex := 5, descriptorIndex := 6, attributes := #[] }] 49 2 #[1106, 1108, 575, 1110, 1112] #[{ accessFlags := 18, nameIndex := 13, descriptorIndex := 14, attributes := #[] }, { accessFlags := 18, nameIndex := 17, descriptorIndex := 18, attributes := #[] }, { accessFlags := 2, nameIndex := 21, descriptorIndex := 22, attributes := #[] }, { accessFlags := 2, nameIndex := 25, descriptorIndex := 26, attributes := #[] }, { accessFlags := 26, nameIndex := 1116, descriptorIndex := 1117, attributes := #[] }, { accessFlags := 24, nameIndex := 40, descriptorIndex := 26, attributes := #[] }, { accessFlags := 26, nameIndex := 1101, descriptorIndex := 1102, attributes := #[] }, { accessFlags := 26, nameIndex := 1121, descriptorIndex := 1122, attributes := #[] }, { accessFlags := 25, nameIndex := 599, descriptorIndex := 600, attributes := #[] }, { accessFlags := 24, nameIndex := 1125, descriptorIndex := 18, attributes := #[] }, { accessFlags := 24, nameIndex := 1127, descriptorIndex := 18, attributes := #[] }])
  fields := #[{ name := "value", type := (.array .byte), accessFlags := 18, slot := 0, constantValue := 0 }, { name := "coder", type := .byte, accessFlags := 18, slot := 1, constantValue := 0 }, { name := "hash", type := .int, accessFlags := 2, slot := 2, constantValue := 0 }, { name := "hashIsZero", type := .boolean, accessFlags := 2, slot := 3, constantValue := 0 }, { name := "serialVersionUID", type := .long, accessFlags := 26, slot := 0, constantValue := 0 }, { name := "COMPACT_STRINGS", type := .boolean, accessFlags := 24, slot := 1, constantValue := 0 }, { name := "serialPersistentFields", type := (.array (.object "java/io/ObjectStreamField")), accessFlags := 26, slot := 2, constantValue := 0 }, { name := "REPL", type := .char, accessFlags := 26, slot := 3, constantValue := 0 }, { name := "CASE_INSENSITIVE_ORDER", type := (.object "java/util/Comparator"), accessFlags := 25, slot := 4, constantValue := 0 }, { name := "LATIN1", type := .byte, accessFlags := 24, slot := 5, constantValue := 0 }, { name := "UTF16", type := .byte, accessFlags := 24, slot := 6, constantValue := 0 }]
  methods := #[k8m0]
  instanceTypes := #[(.array .byte), .byte, .int, .boolean]
  staticTypes := #[.long, .boolean, (.array (.object "java/io/ObjectStreamField")), .char, (.object "java/util/Comparator"), .byte, .byte]
  resolved := Array.replicate 1451 none
  statics := none }

def pool9 : Array CpInfo := pool [(1, .methodref 2 3), (0, .class_ 4), (0, .nameAndType 5 6), (0, u "java/lang/Object"), (0, u "<init>"), (0, u "()V"), (0, .fieldref 8 9), (0, .class_ 10), (0, .nameAndType 11 12), (0, u "com/example/detectability/detectability/ProteinAbundance"), (0, u "name"), (0, u "Ljava/lang/String;"), (0, .fieldref 8 14), (0, .nameAndType 15 16), (0, u "spectra"), (0, u "J"), (0, .fieldref 8 18), (0, .nameAndType 19 20), (0, u "abundance"), (0, u "D"), (0, u "(Ljava/lang/String;JD)V"), (4, u "getSpectra"), (0, u "()J")] 4

def k9c0 : Code := { maxStack := 3, maxLocals := 6, code := prog_30_method_1_code, exceptionTable := #[], attributes := #[] }
def k9m0 : Method := { name := "<init>", desc := "(Ljava/lang/String;JD)V", sig := { parameters := [(.object "java/lang/String"), .long, .double], returnType := none }, accessFlags := 1, code := some k9c0 }
def k9c1 : Code := { maxStack := 2, maxLocals := 1, code := prog_30_method_3_code, exceptionTable := #[], attributes := #[] }
def k9m1 : Method := { name := "getSpectra", desc := "()J", sig := { parameters := [], returnType := some .long }, accessFlags := 1, code := some k9c1 }
/-- com/example/detectability/detectability/ProteinAbundance -/
def k9 : Class := { plain "com/example/detectability/detectability/ProteinAbundance" (some 0) with
  accessFlags := 33
  interfaces := #[]
  cf := some (fileOf pool9 8 #[] #[{ accessFlags := 1, nameIndex := 5, descriptorIndex := 21, attributes := #[] }, { accessFlags := 1, nameIndex := 26, descriptorIndex := 27, attributes := #[] }] 33 2 #[] #[{ accessFlags := 18, nameIndex := 11, descriptorIndex := 12, attributes := #[] }, { accessFlags := 18, nameIndex := 15, descriptorIndex := 16, attributes := #[] }, { accessFlags := 18, nameIndex := 19, descriptorIndex := 20, attributes := #[] }])
  fields := #[{ name := "name", type := (.object "java/lang/String"), accessFlags := 18, slot := 0, constantValue := 0 }, { name := "spectra", type := .long, accessFlags := 18, slot := 1, constantValue := 0 }, { name := "abundance", type := .double, accessFlags := 18, slot := 2, constantValue := 0 }]
  methods := #[k9m0, k9m1]
  instanceTypes := #[(.object "java/lang/String"), .long, .double]
  staticTypes := #[]
  resolved := Array.replicate 32 none
  statics := none }

def pool10 : Array CpInfo := pool [(1, u "java/lang/Cloneable"), (0, .class_ 1), (0, u "java/lang/Object"), (0, .class_ 3)] 3

/-- java/lang/Cloneable -/
def k10 : Class := { plain "java/lang/Cloneable" (some 0) with
  accessFlags := 1537
  interfaces := #[]
  cf := some (fileOf pool10 2 #[] #[] 1537 4 #[] #[])
  fields := #[]
  methods := #[]
  instanceTypes := #[]
  staticTypes := #[]
  resolved := Array.replicate 8 none
  statics := none }

/-- the primitive byte -/
def k11 : Class := { plain "byte" none with kind := .primitive 'B', accessFlags := 0x411 }
/-- [B -/
def k12 : Class := { plain "[B" (some 0) with kind := .array 11 .byte, interfaces := #[10, 3], accessFlags := 1041 }

/-- the primitive int -/
def k13 : Class := { plain "int" none with kind := .primitive 'I', accessFlags := 0x411 }
/-- [I -/
def k14 : Class := { plain "[I" (some 0) with kind := .array 13 .int, interfaces := #[10, 3], accessFlags := 1041 }

def heap : Heap := #[]
def classes : Array Class := #[k0, k1, k2, k3, k4, k5, k6, k7, k8, k9, k10, k11, k12, k13, k14]
def interned : List (Array UInt16 × Addr) := []
def slotsUsed : Nat := 0
def theMethod : MethodId := ⟨1, 1⟩
def args0 : Array Value := #[.long 5, .long 7, .int 3, .int 1, .int 2]
def aboutOver (below : List Frame) : State where
  vm := { classes := classes, interned := interned.toArray }
  heap := heap
  slotsUsed := slotsUsed
  threads := #[{ frames := .invoking theMethod args0 :: below }]
def below0 : List Frame := [.native { method := ⟨0, 0⟩, args := #[] }]
def about1 : State := aboutOver below0
def p0 : Program := .bare "" "" ""
def e0 : Env := launch0.env 0 0 0
theorem w_frames : about1.frames = Frame.invoking theMethod args0 :: below0 := rfl
set_option maxRecDepth 65536 in
theorem w_args : argsFit about1.vm theMethod args0 = true := by decide +kernel
set_option maxRecDepth 65536 in
theorem w_heap : heapFits about1 = true := by decide +kernel
set_option maxRecDepth 65536 in
theorem w_runnable : about1.curStatus? = some .runnable := by decide +kernel
set_option maxRecDepth 65536 in
theorem w_alone : about1.alone = true := by decide +kernel
set_option maxRecDepth 65536 in
theorem w_named : about1.methodNamed? x = some theMethod := by decide +kernel
set_option maxRecDepth 65536 in
theorem w_hears : about1.hears theMethod below0 = true := by decide +kernel
set_option maxRecDepth 65536 in
theorem w_ripe : about1.ripe theMethod args0 below0 = true := by decide +kernel
theorem w_running : about1.status = .running := rfl
set_option maxRecDepth 65536 in
theorem w_room : about1.hasRoom e0.platform room_1 = true :=
  launch0.hasRoom_least _ room_1 (by decide +kernel) (by decide +kernel) (by decide +kernel) (by decide +kernel) (by decide +kernel) (by decide +kernel)
theorem allAtoms_all (ts : List Jvm.Cond) (a : Array Jvm.Value) (st : Jvm.State) : (allAtoms ts).before a st = ts.all (fun c => c.before a st) := by
  induction ts with
  | nil => rfl
  | cons c t ih =>
    show (Jvm.Cond.and c (allAtoms t)).before a st = _
    rw [Jvm.Cond.before_and, ih, List.all_cons]
def words1 : List Jvm.Cond := Jvm.Cond.code x code maxLocals ret :: tables_1
/-- a 'code' word, met by the world's own term for the bytes: nothing is compared byte by byte -/
theorem code_word {y : MethodName} {bytes : ByteArray} {mx : Nat} {rt : Option FieldType} {a : Array Value} {s : State} {m : MethodId} {meth : Method} {c : Code} (h1 : s.methodNamed? y = some m) (h2 : s.vm.method? m = some meth) (h3 : meth.code = some c) (h4 : c.code = bytes)
    (h5 : (c.maxLocals == mx && c.exceptionTable.isEmpty && decide (c.maxStack ≤ mostOperands) && decide (meth.sig.returnType = rt) && !meth.locks && decide (parseMethodDescriptor y.desc = some meth.sig)) = true) : (Jvm.Cond.code y bytes mx rt).before a s = true := by
  simp only [Bool.and_eq_true, beq_iff_eq, Bool.not_eq_true', decide_eq_true_eq] at h5
  obtain ⟨⟨⟨⟨⟨g1, g2⟩, g3⟩, g4⟩, g5⟩, g6⟩ := h5
  simp [Cond.before, Cond.holds, Cond.value, h1, h2, h3, h4, g1, g2, g3, g4, g5, g6]
def isCode : Jvm.Cond → Bool
  | .code _ _ _ _ => true
  | _ => false
theorem all_split {L : List Jvm.Cond} {P : Jvm.Cond → Bool} (h1 : L.all (fun c => isCode c || P c) = true) (h2 : ∀ c ∈ L.filter isCode, P c = true) : L.all P = true := by
  refine List.all_eq_true.mpr fun c hc => ?_
  have h := List.all_eq_true.mp h1 c hc
  rcases Bool.eq_false_or_eq_true (isCode c) with hi | hi
  · exact h2 c (List.mem_filter.mpr ⟨hc, hi⟩)
  · simpa [hi] using h
set_option maxRecDepth 65536 in
theorem w_c0 : (Jvm.Cond.code x code maxLocals ret).before args0 about1 = true := code_word (m := ⟨1, 1⟩) (meth := k1m1) (c := k1c1) (by decide +kernel) rfl rfl rfl (by decide +kernel)
set_option maxRecDepth 65536 in
theorem w_c1 : (Jvm.Cond.code ({ cls := "com/example/detectability/detectability/ComparedProtein", name := "<init>", desc := "(Ljava/lang/String;Lcom/example/detectability/detectability/ProteinAbundance;Lcom/example/detectability/detectability/ProteinAbundance;DD)V" } : Jvm.MethodName) prog_4_method_1_code (8 : Nat) (Option.none : Option Jvm.ClassFile.FieldType)).before args0 about1 = true := code_word (m := ⟨2, 0⟩) (meth := k2m0) (c := k2c0) (by decide +kernel) rfl rfl rfl (by decide +kernel)
set_option maxRecDepth 65536 in
theorem w_c2 : (Jvm.Cond.code ({ cls := "java/lang/Object", name := "<init>", desc := "()V" } : Jvm.MethodName) object_method_1_code (1 : Nat) (Option.none : Option Jvm.ClassFile.FieldType)).before args0 about1 = true := code_word (m := ⟨0, 0⟩) (meth := k0m0) (c := k0c0) (by decide +kernel) rfl rfl rfl (by decide +kernel)
set_option maxRecDepth 65536 in
theorem w_c3 : (Jvm.Cond.code ({ cls := "com/example/detectability/detectability/ComparedProtein", name := "getSpectraB", desc := "()J" } : Jvm.MethodName) prog_4_method_4_code (1 : Nat) (Option.some Jvm.ClassFile.FieldType.long)).before args0 about1 = true := code_word (m := ⟨2, 1⟩) (meth := k2m1) (c := k2c1) (by decide +kernel) rfl rfl rfl (by decide +kernel)
set_option maxRecDepth 65536 in
theorem w_c4 : (Jvm.Cond.code ({ cls := "com/example/detectability/detectability/ProteinAbundance", name := "<init>", desc := "(Ljava/lang/String;JD)V" } : Jvm.MethodName) prog_30_method_1_code (6 : Nat) (Option.none : Option Jvm.ClassFile.FieldType)).before args0 about1 = true := code_word (m := ⟨9, 0⟩) (meth := k9m0) (c := k9c0) (by decide +kernel) rfl rfl rfl (by decide +kernel)
set_option maxRecDepth 65536 in
theorem w_c5 : (Jvm.Cond.code ({ cls := "com/example/detectability/detectability/ProteinAbundance", name := "getSpectra", desc := "()J" } : Jvm.MethodName) prog_30_method_3_code (1 : Nat) (Option.some Jvm.ClassFile.FieldType.long)).before args0 about1 = true := code_word (m := ⟨9, 1⟩) (meth := k9m1) (c := k9c1) (by decide +kernel) rfl rfl rfl (by decide +kernel)
def codes1 : List Jvm.Cond := [Jvm.Cond.code x code maxLocals ret, Jvm.Cond.code ({ cls := "com/example/detectability/detectability/ComparedProtein", name := "<init>", desc := "(Ljava/lang/String;Lcom/example/detectability/detectability/ProteinAbundance;Lcom/example/detectability/detectability/ProteinAbundance;DD)V" } : Jvm.MethodName) prog_4_method_1_code (8 : Nat) (Option.none : Option Jvm.ClassFile.FieldType), Jvm.Cond.code ({ cls := "java/lang/Object", name := "<init>", desc := "()V" } : Jvm.MethodName) object_method_1_code (1 : Nat) (Option.none : Option Jvm.ClassFile.FieldType), Jvm.Cond.code ({ cls := "com/example/detectability/detectability/ComparedProtein", name := "getSpectraB", desc := "()J" } : Jvm.MethodName) prog_4_method_4_code (1 : Nat) (Option.some Jvm.ClassFile.FieldType.long), Jvm.Cond.code ({ cls := "com/example/detectability/detectability/ProteinAbundance", name := "<init>", desc := "(Ljava/lang/String;JD)V" } : Jvm.MethodName) prog_30_method_1_code (6 : Nat) (Option.none : Option Jvm.ClassFile.FieldType), Jvm.Cond.code ({ cls := "com/example/detectability/detectability/ProteinAbundance", name := "getSpectra", desc := "()J" } : Jvm.MethodName) prog_30_method_3_code (1 : Nat) (Option.some Jvm.ClassFile.FieldType.long)]
set_option maxRecDepth 65536 in
theorem codes_eq : words1.filter isCode = codes1 := rfl
theorem w_codes : ∀ c ∈ words1.filter isCode, c.before args0 about1 = true := by
  rw [codes_eq]
  intro c hc
  simp only [codes1, List.mem_cons, List.not_mem_nil, or_false] at hc
  rcases hc with rfl | rfl | rfl | rfl | rfl | rfl
  · exact w_c0
  · exact w_c1
  · exact w_c2
  · exact w_c3
  · exact w_c4
  · exact w_c5
set_option maxRecDepth 65536 in
theorem w_t1 : (words1.take 24).all (fun c => isCode c || c.before args0 about1) = true := by decide +kernel
set_option maxRecDepth 65536 in
theorem w_t2 : ((words1.drop 24).take 24).all (fun c => isCode c || c.before args0 about1) = true := by decide +kernel
set_option maxRecDepth 65536 in
theorem w_t3 : ((words1.drop 24).drop 24).all (fun c => isCode c || c.before args0 about1) = true := by decide +kernel
theorem w_tables : (allAtoms (Jvm.Cond.code x code maxLocals ret :: tables_1)).before args0 about1 = true := by
  rw [allAtoms_all]
  show words1.all (fun c => c.before args0 about1) = true
  refine all_split ?_ w_codes
  rw [← List.take_append_drop 24 words1, List.all_append, w_t1, ← List.take_append_drop 24 (words1.drop 24), List.all_append, w_t2, w_t3]
  rfl
set_option maxRecDepth 65536 in
theorem w_case : (Jvm.Cond.and given_1 narrow_1).before args0 about1 = true := by decide +kernel
theorem w_applies : (headSpec (Jvm.Cond.code x code maxLocals ret :: tables_1) room_1).applies x e0.platform about1 = true :=
  (Spec.applies_iff w_frames).mpr ⟨w_running, w_runnable, w_alone, w_named, w_hears, w_ripe, w_room, w_tables⟩
theorem atStart : AtStart classFile x code maxLocals ret World_1 tables_1 room_1 Calls_1 rest_1 Pre_1 launch0 p0 e0 about1 theMethod args0 below0 :=
  ⟨lists_1, trivial, launch0.admits_env _ _ _, launch0.least_env, fairChoices_fair.cas, fairChoices_fair.clock, w_frames, w_args, w_heap, w_applies, trivial, trivial, w_case⟩
end start1
theorem witness_1 : WitnessClaimed_1 := ⟨start1.p0, start1.e0, start1.about1, start1.theMethod, start1.args0, start1.below0, start1.atStart⟩
end Jvm.Pilot.@@N@@
