import JvmDerived
import JvmDerived.Pilot.@@N@@Statement
import JvmDerived.Pilot.@@N@@Code
set_option linter.unusedVariables false
set_option linter.unusedSimpArgs false
@@BLOCK:NumsL.lean.txt@@
namespace Jvm.RoadKit
open Sem ClassFile Op Lib Jvm.Stand Jvm.Free Jvm.LawKit
section New
variable {p : Program} {l : Launch} {e : Env} {R : Room} {s : State} {m : MethodId} {args : Array Value} {below : List Frame} {meth : Method} {c : Code} {T : State} {locs : List Loc} {cells slots : Nat}
theorem retI (X : Stand p l e R s m args below meth c T locs cells slots) (hx : p.tables.exec = Jvm.exec) {pc : Nat} {Ls : Array Slot} {z : Int32} {rest : List Value} (hret : meth.sig.returnType = some .int) (hd : decode c.code pc = .ok (.ireturn, 1)) {fs : List Frame}
    (hl : ∀ (f : JFrame) (acts : List Action), f.method = m → f.locked = none → f.entered = [] → (doReturn e (T.setTop f) acts (some (.int z))).1 = T.setFrames fs) : Steps p.tables e below (T.setTop (mkF m pc Ls (.int z :: rest))) (T.setFrames fs) := by
  have hm' : T.vm.method? m = some meth := X.method'
  have hn : narrow .int (.int z) = .int z := rfl
  show Steps p.tables e below (T.setTop { method := m, pc := pc, locals := Ls, stack := _ :: rest, locked := none }) _
  jvm_step X.here [X.here.top, hx, hd, hm', hret, hn]
  first | (intro acts; rw [hl _ acts rfl rfl rfl]) | rw [hl _ _ rfl rfl rfl]
  exact Steps.refl _
theorem retD (X : Stand p l e R s m args below meth c T locs cells slots) (hx : p.tables.exec = Jvm.exec) {pc : Nat} {Ls : Array Slot} {z : UInt64} {rest : List Value} (hret : meth.sig.returnType = some .double) (hd : decode c.code pc = .ok (.dreturn, 1)) {fs : List Frame}
    (hl : ∀ (f : JFrame) (acts : List Action), f.method = m → f.locked = none → f.entered = [] → (doReturn e (T.setTop f) acts (some (.double z))).1 = T.setFrames fs) : Steps p.tables e below (T.setTop (mkF m pc Ls (.double z :: rest))) (T.setFrames fs) := by
  have hm' : T.vm.method? m = some meth := X.method'
  have hn : narrow .double (.double z) = .double z := rfl
  show Steps p.tables e below (T.setTop { method := m, pc := pc, locals := Ls, stack := _ :: rest, locked := none }) _
  jvm_step X.here [X.here.top, hx, hd, hm', hret, hn]
  first | (intro acts; rw [hl _ acts rfl rfl rfl]) | rw [hl _ _ rfl rfl rfl]
  exact Steps.refl _
end New
end Jvm.RoadKit
namespace Jvm.OwnFP
open Sem ClassFile Op Lib
theorem rem32_eq (x y : Int32) : x - x / y * y = x % y := Int32.toInt_inj.mp (by
  have a := (x % y).toInt_lt; have b := (x % y).le_toInt
  rw [Int32.toInt_mod] at a b ⊢
  rw [Int32.toInt_sub, Int32.toInt_mul, Int32.toInt_div, Int.bmod_mul_bmod, Int.sub_bmod_bmod, Int.mul_comm, ← Int.tmod_def]
  exact Jvm.Kit.bmod32 b a)
theorem cat1R {w : Value} (h : w.isRef = true) : w.category = 1 := by
  cases w <;> first | rfl | cases h
theorem rem64_eq (x y : Int64) : x - x / y * y = x % y := Int64.toInt_inj.mp (by rw [Jvm.Kit.i64_rem, Int64.toInt_mod])
theorem iremM {tb : Tables} [Ours tb] {e : Env} {below : List Frame} {T target : State} {m : MethodId} {c : Code} {g : JFrame} (h : At T m c below) (hx : tb.exec = Jvm.exec) (hg : g.method = m) {x y : Int32} {rest : List Value} (hd : decode c.code g.pc = .ok (.irem, 1)) (hs : g.stack = .int y :: .int x :: rest) (hy : y ≠ 0)
    (hr : Steps tb e below (T.setTop { g with pc := g.pc + 1, stack := .int (x % y) :: rest }) target) : Steps tb e below (T.setTop g) target := Jvm.Free.XS.irem h hx hg hd hs hy (by rw [rem32_eq]; exact hr)
theorem lremM {tb : Tables} [Ours tb] {e : Env} {below : List Frame} {T target : State} {m : MethodId} {c : Code} {g : JFrame} (h : At T m c below) (hx : tb.exec = Jvm.exec) (hg : g.method = m) {x y : Int64} {rest : List Value} (hd : decode c.code g.pc = .ok (.lrem, 1)) (hs : g.stack = .long y :: .long x :: rest) (hy : y ≠ 0)
    (hr : Steps tb e below (T.setTop { g with pc := g.pc + 1, stack := .long (x % y) :: rest }) target) : Steps tb e below (T.setTop g) target := Jvm.Free.XS.lrem h hx hg hd hs hy (by rw [rem64_eq]; exact hr)
end Jvm.OwnFP
namespace Jvm.OwnFP
open Jvm.FP.Core
/-! doubles by their values in units of 2^-1074: rounding is monotone, numbers of the format round to themselves -/
def zv (a : UInt64) : Int := zval b64 (val64 a)
/-- z (in units) is a number of the format -/
def Rep (z : Int) : Prop := ∃ V : Datum, Jvm.FP.Core.fits b64 V ∧ V ≠ .nan ∧ zval b64 V = z
abbrev O : Int := (one64 : Int)
theorem mmmc (a b c d : Int) : a * b * (c * d) = a * c * (b * d) := by rw [Int.mul_assoc, Int.mul_assoc, Int.mul_left_comm b]
theorem O_pos : 0 < O := by have := one64_pos; show (0 : Int) < (one64 : Int); omega
theorem qmax_b64 : b64.qmax = 971 := by decide +kernel
theorem signed_nat (n : Int) : signed (decide (n < 0)) n.natAbs = n := by
  unfold signed
  by_cases h : n < 0
  · simp only [h, decide_true, if_true]; omega
  · simp only [h, decide_false, Bool.false_eq_true, if_false]; omega
theorem rep_lt {n : Int} (k : Nat) (hn : n.natAbs < 9007199254740992) (hk : k ≤ 2000) : Rep (n * ((2 ^ k : Nat) : Int)) := by
  obtain ⟨c', q', h1, h2⟩ := round_exact good_b64 (decide (n < 0)) (c := n.natAbs) (q := (k : Int) - 1074) (Nat.lt_of_lt_of_le hn (by decide +kernel)) (by rw [qmin_b64]; omega) (by rw [qmax_b64]; omega)
  refine ⟨round b64 (.fin (decide (n < 0)) n.natAbs ((k : Int) - 1074)), round_fits good_b64 _, ?_, ?_⟩
  · rw [h1]; exact Datum.noConfusion
  · rw [h1]
    show signed (decide (n < 0)) (inUnits c' q' b64.qmin) = _
    rw [h2]
    unfold inUnits
    rw [qmin_b64, signed_mul, signed_nat, show ((k : Int) - 1074 - -1074).toNat = k by omega]
theorem rep_le {n : Int} (k : Nat) (hn : n.natAbs ≤ 9007199254740992) (hk : k ≤ 1999) : Rep (n * ((2 ^ k : Nat) : Int)) := by
  by_cases h : n.natAbs < 9007199254740992
  · exact rep_lt k h (by omega)
  · have h2 : n = 9007199254740992 ∨ n = -9007199254740992 := by omega
    have e : ∀ m : Int, (m * 2) * ((2 ^ k : Nat) : Int) = m * ((2 ^ (k + 1) : Nat) : Int) := fun m => by
      rw [Nat.pow_succ, Int.natCast_mul, Int.mul_assoc, Int.mul_comm 2]; rfl
    rcases h2 with rfl | rfl
    · rw [show (9007199254740992 : Int) = 4503599627370496 * 2 by decide, e]; exact rep_lt (k + 1) (by decide) (by omega)
    · rw [show (-9007199254740992 : Int) = -4503599627370496 * 2 by decide, e]; exact rep_lt (k + 1) (by decide) (by omega)
theorem pow_split (k j : Nat) : ((2 ^ (k + j) : Nat) : Int) = ((2 ^ k : Nat) : Int) * ((2 ^ j : Nat) : Int) := by rw [Nat.pow_add, Int.natCast_mul]
theorem pow_O (j : Nat) (hj : j ≤ 1074) : O = ((2 ^ j : Nat) : Int) * ((2 ^ (1074 - j) : Nat) : Int) := by
  rw [← pow_split, show j + (1074 - j) = 1074 by omega]; rfl
/-- a whole number -/
theorem rep_int {n : Int} (hn : n.natAbs ≤ 9007199254740992) : Rep (n * O) := by
  have := rep_le (n := n) 1074 hn (by decide)
  exact this
/-- n halves .. : n / 2^j -/
theorem rep_frac {n : Int} (j : Nat) (hj : j ≤ 1074) {z : Int} (hn : n.natAbs ≤ 9007199254740992) (h : z * ((2 ^ j : Nat) : Int) = n * O) : Rep z := by
  have h1 := rep_le (n := n) (1074 - j) hn (by omega)
  have hp : (0 : Int) < ((2 ^ j : Nat) : Int) := Int.natCast_pos.mpr (Nat.two_pow_pos j)
  have e : z = n * ((2 ^ (1074 - j) : Nat) : Int) := by
    refine Int.eq_of_mul_eq_mul_right (Int.ne_of_gt hp) ?_
    rw [h, pow_O j hj, Int.mul_assoc, Int.mul_comm ((2 ^ (1074 - j) : Nat) : Int)]
  rw [e]; exact h1
theorem Rep.neg {z : Int} (h : Rep z) : Rep (-z) := by
  obtain ⟨V, h1, h2, rfl⟩ := h
  exact ⟨negate V, negate_fits h1, negate_ne_nan h2, zval_negate b64 V⟩
theorem rep_zv {a : UInt64} (h : val64 a ≠ .nan) : Rep (zv a) := ⟨val64 a, val64_fits a, h, rfl⟩
theorem fin_of {a : UInt64} (h : DFin a) : ∃ s c q, val64 a = .fin s c q ∧ Jvm.FP.Core.fits b64 (.fin s c q) := by
  obtain ⟨s, c, q, h⟩ := h
  exact ⟨s, c, q, h, h ▸ val64_fits a⟩
/-! whole numbers -/
theorem l2d_le {n : Int64} {z : Int} (hz : Rep z) (h : n.toInt * O ≤ z) : zv (Jvm.FP.l2d n) ≤ z := by
  obtain ⟨V, fV, nV, rfl⟩ := hz
  show zval b64 (val64 (l2d n)) ≤ _
  rw [val64_l2d]
  refine zval_round_le good_b64 fV nV (e0 := b64.qmin) (Int.le_refl _) (by decide +kernel) ?_
  rw [ofInt_units b64, pow_qmin64, Int.sub_self]
  show _ ≤ _ * ((1 : Nat) : Int)
  rw [show ((1 : Nat) : Int) = 1 from rfl, Int.mul_one]; exact h
theorem l2d_ge {n : Int64} {z : Int} (hz : Rep z) (h : z ≤ n.toInt * O) : z ≤ zv (Jvm.FP.l2d n) := by
  obtain ⟨V, fV, nV, rfl⟩ := hz
  show _ ≤ zval b64 (val64 (l2d n))
  rw [val64_l2d]
  refine zval_round_ge good_b64 fV nV (e0 := b64.qmin) (Int.le_refl _) (by decide +kernel) ?_
  rw [ofInt_units b64, pow_qmin64, Int.sub_self]
  show _ * ((1 : Nat) : Int) ≤ _
  rw [show ((1 : Nat) : Int) = 1 from rfl, Int.mul_one]; exact h
theorem l2d_eq {n : Int64} (h : n.toInt.natAbs ≤ 9007199254740992) : zv (Jvm.FP.l2d n) = n.toInt * O :=
  Int.le_antisymm (l2d_le (rep_int h) (Int.le_refl _)) (l2d_ge (rep_int h) (Int.le_refl _))
theorem i2d_eq (n : Int32) : zv (Jvm.FP.i2d n) = n.toInt * O := DInt_zval (i2d_int n)
theorem l2dF (n : Int64) : DFin (Jvm.FP.l2d n) := l2d_fin n
theorem i2dF (n : Int32) : DFin (Jvm.FP.i2d n) := i2d_fin n
/-! products -/
theorem mul_le {a b : UInt64} {z : Int} (ha : DFin a) (hb : DFin b) (hz : Rep z) (h : zv a * zv b ≤ z * O) : zv (Jvm.FP.dmul a b) ≤ z := by
  obtain ⟨V, fV, nV, rfl⟩ := hz
  obtain ⟨s, c, q, ea, fa⟩ := fin_of ha
  obtain ⟨t, d, r, eb, fb⟩ := fin_of hb
  unfold zv at h ⊢
  rw [ea, eb] at h
  show zval b64 (val64 (dmul a b)) ≤ _
  rw [val64_dmul, ea, eb]
  obtain ⟨h1, h2, h3⟩ := product_units fa fb
  rw [h1]
  refine zval_round_le good_b64 fV nV (e0 := 2 * b64.qmin) (by rw [qmin_b64]; decide) h2 ?_
  rw [h3, signed_xor, show (b64.qmin - 2 * b64.qmin).toNat = (-b64.qmin).toNat by omega, pow_qmin64]
  exact h
theorem mul_ge {a b : UInt64} {z : Int} (ha : DFin a) (hb : DFin b) (hz : Rep z) (h : z * O ≤ zv a * zv b) : z ≤ zv (Jvm.FP.dmul a b) := by
  obtain ⟨V, fV, nV, rfl⟩ := hz
  obtain ⟨s, c, q, ea, fa⟩ := fin_of ha
  obtain ⟨t, d, r, eb, fb⟩ := fin_of hb
  unfold zv at h ⊢
  rw [ea, eb] at h
  show _ ≤ zval b64 (val64 (dmul a b))
  rw [val64_dmul, ea, eb]
  obtain ⟨h1, h2, h3⟩ := product_units fa fb
  rw [h1]
  refine zval_round_ge good_b64 fV nV (e0 := 2 * b64.qmin) (by rw [qmin_b64]; decide) h2 ?_
  rw [h3, signed_xor, show (b64.qmin - 2 * b64.qmin).toNat = (-b64.qmin).toNat by omega, pow_qmin64]
  exact h
theorem mul_eq {a b : UInt64} {z : Int} (ha : DFin a) (hb : DFin b) (hz : Rep z) (h : zv a * zv b = z * O) : zv (Jvm.FP.dmul a b) = z :=
  Int.le_antisymm (mul_le ha hb hz (Int.le_of_eq h)) (mul_ge ha hb hz (Int.le_of_eq h.symm))
/-! sums -/
theorem add_le {a b : UInt64} {z : Int} (ha : DFin a) (hb : DFin b) (hz : Rep z) (h : zv a + zv b ≤ z) : zv (Jvm.FP.dadd a b) ≤ z := by
  obtain ⟨V, fV, nV, rfl⟩ := hz
  show zval b64 (val64 (dadd a b)) ≤ _
  rw [val64_dadd]
  exact sum_le good_b64 ha hb (val64_fits a) (val64_fits b) fV nV h
theorem add_ge {a b : UInt64} {z : Int} (ha : DFin a) (hb : DFin b) (hz : Rep z) (h : z ≤ zv a + zv b) : z ≤ zv (Jvm.FP.dadd a b) := by
  obtain ⟨V, fV, nV, rfl⟩ := hz
  show _ ≤ zval b64 (val64 (dadd a b))
  rw [val64_dadd]
  exact sum_ge good_b64 ha hb (val64_fits a) (val64_fits b) fV nV h
theorem add_eq {a b : UInt64} {z : Int} (ha : DFin a) (hb : DFin b) (hz : Rep z) (h : zv a + zv b = z) : zv (Jvm.FP.dadd a b) = z :=
  Int.le_antisymm (add_le ha hb hz (Int.le_of_eq h)) (add_ge ha hb hz (Int.le_of_eq h.symm))
theorem fin_negate {b : UInt64} (hb : DFin b) : ∃ s c q, negate (val64 b) = .fin s c q := by
  obtain ⟨s, c, q, h⟩ := hb
  rw [h]; exact ⟨_, _, _, rfl⟩
theorem sub_le {a b : UInt64} {z : Int} (ha : DFin a) (hb : DFin b) (hz : Rep z) (h : zv a - zv b ≤ z) : zv (Jvm.FP.dsub a b) ≤ z := by
  obtain ⟨V, fV, nV, rfl⟩ := hz
  show zval b64 (val64 (dsub a b)) ≤ _
  rw [val64_dsub]
  refine sum_le good_b64 ha (fin_negate hb) (val64_fits a) (negate_fits (val64_fits b)) fV nV ?_
  rw [zval_negate]; unfold zv at h; omega
theorem sub_ge {a b : UInt64} {z : Int} (ha : DFin a) (hb : DFin b) (hz : Rep z) (h : z ≤ zv a - zv b) : z ≤ zv (Jvm.FP.dsub a b) := by
  obtain ⟨V, fV, nV, rfl⟩ := hz
  show _ ≤ zval b64 (val64 (dsub a b))
  rw [val64_dsub]
  refine sum_ge good_b64 ha (fin_negate hb) (val64_fits a) (negate_fits (val64_fits b)) fV nV ?_
  rw [zval_negate]; unfold zv at h; omega
theorem sub_eq {a b : UInt64} {z : Int} (ha : DFin a) (hb : DFin b) (hz : Rep z) (h : zv a - zv b = z) : zv (Jvm.FP.dsub a b) = z :=
  Int.le_antisymm (sub_le ha hb hz (Int.le_of_eq h)) (sub_ge ha hb hz (Int.le_of_eq h.symm))
/-! quotients -/
theorem ratio_le {s : Bool} {A B : Nat} {e e0 : Int} {V : Datum} (hB : 0 < B) (hV : Jvm.FP.Core.fits b64 V) (hn : V ≠ .nan) (h0 : e0 ≤ b64.qmin) (h0e : e0 ≤ e)
    (h : signed s (inUnits A e e0) ≤ zval b64 V * ((2 ^ (b64.qmin - e0).toNat * B : Nat) : Int)) : zval b64 (roundRatio b64 s A B e) ≤ zval b64 V := by
  have hle := zmag_roundRatio_le good_b64 (s := s) (A := A) hB hV hn h0 h0e
  have hge := zmag_roundRatio_ge good_b64 (s := s) (A := A) hB hV h0 h0e
  have hP : 0 < 2 ^ (b64.qmin - e0).toNat * B := Nat.mul_pos (Nat.two_pow_pos _) hB
  rw [Nat.mul_assoc] at hle hge
  unfold zval at h ⊢
  rw [sgn_roundRatio]
  rw [← signed_mul] at h
  have hz : zmag b64 V * (2 ^ (b64.qmin - e0).toNat * B) = 0 → zmag b64 V = 0 := by
    intro h
    rcases Nat.mul_eq_zero.mp h with h | h <;> omega
  generalize zmag b64 V * (2 ^ (b64.qmin - e0).toNat * B) = vP at *
  generalize sgn V = t at *
  cases s <;> cases t <;> simp only [signed, if_true, Bool.false_eq_true, if_false] at h ⊢
  · have := hle (by omega); omega
  · have := hle (by omega); have := hz (by omega); omega
  · omega
  · have := hge (by omega); omega
theorem signed_flip (s : Bool) (m : Nat) : signed (!s) m = -signed s m := by cases s <;> simp [signed]
theorem ratio_ge {s : Bool} {A B : Nat} {e e0 : Int} {V : Datum} (hB : 0 < B) (hV : Jvm.FP.Core.fits b64 V) (hn : V ≠ .nan) (h0 : e0 ≤ b64.qmin) (h0e : e0 ≤ e)
    (h : zval b64 V * ((2 ^ (b64.qmin - e0).toNat * B : Nat) : Int) ≤ signed s (inUnits A e e0)) : zval b64 V ≤ zval b64 (roundRatio b64 s A B e) := by
  have h1 := ratio_le (s := !s) (A := A) (e := e) (V := negate V) hB (negate_fits hV) (negate_ne_nan hn) h0 h0e (by
    rw [zval_negate, Int.neg_mul, signed_flip]; omega)
  rw [zval_negate, ← negate_roundRatio, zval_negate] at h1
  omega
theorem zval_fin (s : Bool) (c : Nat) (q : Int) : zval b64 (.fin s c q) = signed s c * ((2 ^ (q - b64.qmin).toNat : Nat) : Int) := by
  show signed s (inUnits c q b64.qmin) = _
  unfold inUnits; rw [signed_mul]
theorem pow_mul_eq {a b c d : Nat} (h : a + b = c + d) : (2 ^ a * 2 ^ b : Nat) = 2 ^ c * 2 ^ d := by rw [← Nat.pow_add, ← Nat.pow_add, h]
/-- how c·2^q / (d·2^r) ≤ z reads in units -/
theorem div_units {s : Bool} {c d : Nat} {q r : Int} (hq : b64.qmin ≤ q) (hr : b64.qmin ≤ r) :
    ∃ (x y : Nat), (signed s (inUnits c (q - r) (min b64.qmin (q - r)))) * ((2 ^ x : Nat) : Int) = (signed s c * ((2 ^ (q - b64.qmin).toNat : Nat) : Int)) * O * ((2 ^ y : Nat) : Int) ∧
      ∀ z : Int, (z * ((2 ^ (b64.qmin - min b64.qmin (q - r)).toNat * d : Nat) : Int)) * ((2 ^ x : Nat) : Int) = z * ((d : Int) * ((2 ^ (r - b64.qmin).toNat : Nat) : Int)) * ((2 ^ y : Nat) : Int) := by
  have hO : O = ((2 ^ (-b64.qmin).toNat : Nat) : Int) := by rw [pow_qmin64]
  have hqm : b64.qmin ≤ 0 := by rw [qmin_b64]; decide
  refine ⟨(r - 2 * b64.qmin + min b64.qmin (q - r)).toNat, (-(r - 2 * b64.qmin + min b64.qmin (q - r))).toNat, ?_, fun z => ?_⟩
  · unfold inUnits
    rw [signed_mul, hO]
    have e : (q - r - min b64.qmin (q - r)).toNat + (r - 2 * b64.qmin + min b64.qmin (q - r)).toNat = ((q - b64.qmin).toNat + (-b64.qmin).toNat) + (-(r - 2 * b64.qmin + min b64.qmin (q - r))).toNat := by omega
    have e2 := pow_mul_eq e
    rw [Nat.pow_add _ (q - b64.qmin).toNat] at e2
    have e3 : (((2 ^ (q - r - min b64.qmin (q - r)).toNat : Nat) : Int)) * ((2 ^ (r - 2 * b64.qmin + min b64.qmin (q - r)).toNat : Nat) : Int) = ((2 ^ (q - b64.qmin).toNat : Nat) : Int) * ((2 ^ (-b64.qmin).toNat : Nat) : Int) * ((2 ^ (-(r - 2 * b64.qmin + min b64.qmin (q - r))).toNat : Nat) : Int) := by
      rw [← Int.natCast_mul, ← Int.natCast_mul, ← Int.natCast_mul, e2]
    rw [Int.mul_assoc, e3]; simp only [Int.mul_assoc]
  · have e : (b64.qmin - min b64.qmin (q - r)).toNat + (r - 2 * b64.qmin + min b64.qmin (q - r)).toNat = (r - b64.qmin).toNat + (-(r - 2 * b64.qmin + min b64.qmin (q - r))).toNat := by omega
    have e2 := pow_mul_eq e
    have e3 : ((2 ^ (b64.qmin - min b64.qmin (q - r)).toNat * d : Nat) : Int) * ((2 ^ (r - 2 * b64.qmin + min b64.qmin (q - r)).toNat : Nat) : Int) = ((d : Int) * ((2 ^ (r - b64.qmin).toNat : Nat) : Int)) * ((2 ^ (-(r - 2 * b64.qmin + min b64.qmin (q - r))).toNat : Nat) : Int) := by
      rw [← Int.natCast_mul, ← Int.natCast_mul, ← Int.natCast_mul, Nat.mul_right_comm, e2, Nat.mul_comm d, Nat.mul_right_comm]
    rw [Int.mul_assoc, e3]; simp only [Int.mul_assoc]
theorem pos_fin {s : Bool} {c : Nat} {q : Int} (h : 0 < signed s c * ((2 ^ (q - b64.qmin).toNat : Nat) : Int)) : s = false ∧ 0 < c := by
  have hp : (0 : Int) < ((2 ^ (q - b64.qmin).toNat : Nat) : Int) := Int.natCast_pos.mpr (Nat.two_pow_pos _)
  have h1 : 0 < signed s c := by
    refine Int.lt_of_not_ge fun hle => ?_
    have := Int.mul_le_mul_of_nonneg_right hle (Int.le_of_lt hp)
    omega
  cases s
  · exact ⟨rfl, by simp only [signed, Bool.false_eq_true, if_false] at h1; omega⟩
  · simp only [signed, if_true] at h1; omega
theorem div_parts {a b : UInt64} (ha : DFin a) (hb : DFin b) (hp : 0 < zv b) : ∃ s c q d r, val64 (Jvm.FP.ddiv a b) = roundRatio b64 s c d (q - r) ∧ 0 < d ∧ b64.qmin ≤ q ∧ b64.qmin ≤ r ∧
    zv a = signed s c * ((2 ^ (q - b64.qmin).toNat : Nat) : Int) ∧ zv b = (d : Int) * ((2 ^ (r - b64.qmin).toNat : Nat) : Int) := by
  obtain ⟨s, c, q, ea, fa⟩ := fin_of ha
  obtain ⟨t, d, r, eb, fb⟩ := fin_of hb
  unfold zv at hp ⊢
  rw [eb, zval_fin] at hp
  obtain ⟨rfl, hd⟩ := pos_fin hp
  refine ⟨s, c, q, d, r, ?_, hd, fa.2.1, fb.2.1, ?_, ?_⟩
  · show val64 (ddiv a b) = _
    rw [val64_ddiv, ea, eb]
    show (if d = 0 then _ else roundRatio b64 (s != false) c d (q - r)) = _
    rw [if_neg (by omega)]
    cases s <;> rfl
  · rw [ea, zval_fin]
  · rw [eb, zval_fin]; rfl
theorem div_le {a b : UInt64} {z : Int} (ha : DFin a) (hb : DFin b) (hp : 0 < zv b) (hz : Rep z) (h : zv a * O ≤ z * zv b) : zv (Jvm.FP.ddiv a b) ≤ z := by
  obtain ⟨s, c, q, d, r, e1, hd, hq, hr, e2, e3⟩ := div_parts ha hb hp
  obtain ⟨V, fV, nV, rfl⟩ := hz
  unfold zv at h ⊢
  rw [e1]
  refine ratio_le hd fV nV (e0 := min b64.qmin (q - r)) (by omega) (by omega) ?_
  obtain ⟨x, y, u1, u2⟩ := div_units (s := s) (c := c) (d := d) hq hr
  refine Int.le_of_mul_le_mul_right (a := ((2 ^ x : Nat) : Int)) ?_ (Int.natCast_pos.mpr (Nat.two_pow_pos x))
  rw [u1, u2]
  refine Int.mul_le_mul_of_nonneg_right ?_ (Int.natCast_nonneg _)
  rw [← e2, ← e3]; exact h
theorem div_ge {a b : UInt64} {z : Int} (ha : DFin a) (hb : DFin b) (hp : 0 < zv b) (hz : Rep z) (h : z * zv b ≤ zv a * O) : z ≤ zv (Jvm.FP.ddiv a b) := by
  obtain ⟨s, c, q, d, r, e1, hd, hq, hr, e2, e3⟩ := div_parts ha hb hp
  obtain ⟨V, fV, nV, rfl⟩ := hz
  unfold zv at h ⊢
  rw [e1]
  refine ratio_ge hd fV nV (e0 := min b64.qmin (q - r)) (by omega) (by omega) ?_
  obtain ⟨x, y, u1, u2⟩ := div_units (s := s) (c := c) (d := d) hq hr
  refine Int.le_of_mul_le_mul_right (a := ((2 ^ x : Nat) : Int)) ?_ (Int.natCast_pos.mpr (Nat.two_pow_pos x))
  rw [u1, u2]
  refine Int.mul_le_mul_of_nonneg_right ?_ (Int.natCast_nonneg _)
  rw [← e2, ← e3]; exact h
theorem div_eq {a b : UInt64} {z : Int} (ha : DFin a) (hb : DFin b) (hp : 0 < zv b) (hz : Rep z) (h : zv a * O = z * zv b) : zv (Jvm.FP.ddiv a b) = z :=
  Int.le_antisymm (div_le ha hb hp hz (Int.le_of_eq h)) (div_ge ha hb hp hz (Int.le_of_eq h.symm))
/-! no NaNs, finite results -/
theorem nn_fin {a : UInt64} (h : DFin a) : Jvm.Free.Fl.NoNaN64 a := Jvm.Free.Fl.val64_no.mpr h.ne_nan
theorem nn_mul {a b : UInt64} (ha : DFin a) (hb : DFin b) : Jvm.Free.Fl.NoNaN64 (Jvm.FP.dmul a b) := Jvm.Free.Fl.noNaN64_no.mpr (dmul_out ha hb)
theorem nn_add {a b : UInt64} (ha : DFin a) (hb : DFin b) : Jvm.Free.Fl.NoNaN64 (Jvm.FP.dadd a b) := Jvm.Free.Fl.noNaN64_no.mpr (dadd_out ha.notNaN hb)
theorem nn_sub {a b : UInt64} (ha : DFin a) (hb : DFin b) : Jvm.Free.Fl.NoNaN64 (Jvm.FP.dsub a b) := Jvm.Free.Fl.noNaN64_no.mpr (dsub_out ha.notNaN hb)
theorem zv_zero {a : UInt64} (h : DZero a) : zv a = 0 := h.zval
theorem nn_div {a b : UInt64} (ha : DFin a) (hb : DFin b) (hz : zv b ≠ 0) : Jvm.Free.Fl.NoNaN64 (Jvm.FP.ddiv a b) := Jvm.Free.Fl.noNaN64_no.mpr (ddiv_out ha.notNaN hb fun q => hz (zv_zero q))
theorem nn_ne {a : UInt64} (h : Jvm.Free.Fl.NoNaN64 a) : val64 a ≠ .nan := Jvm.Free.Fl.val64_no.mp h
theorem top_big : 18446744073709551616 * one64 < b64.tails * 2 ^ (b64.exps - 2) := by decide +kernel
theorem zmag_zv (a : UInt64) : ((zmag b64 (val64 a) : Nat) : Int) = zv a ∨ ((zmag b64 (val64 a) : Nat) : Int) = -zv a := by
  unfold zv zval
  cases sgn (val64 a) <;> simp [signed]
theorem fin_of_zv {a : UInt64} (h : Jvm.Free.Fl.NoNaN64 a) (h1 : -(18446744073709551616 * O) ≤ zv a) (h2 : zv a ≤ 18446744073709551616 * O) : DFin a := by
  have hn := nn_ne h
  cases e : val64 a with
  | nan => exact absurd e hn
  | fin s c q => exact ⟨s, c, q, e⟩
  | inf s =>
    exfalso
    have hz : zmag b64 (val64 a) = b64.tails * 2 ^ (b64.exps - 2) := by rw [e]; rfl
    have ht := top_big
    have hc := zmag_zv a
    rw [hz] at hc
    generalize b64.tails * 2 ^ (b64.exps - 2) = T at *
    unfold O at h1 h2
    rcases hc with hc | hc <;> omega
/-! comparisons -/
theorem cmp_zv {a b : UInt64} (ha : Jvm.Free.Fl.NoNaN64 a) (hb : Jvm.Free.Fl.NoNaN64 b) : Jvm.FP.dcmp a b = some (compare (zv a) (zv b)) := dcmp_zval (nn_ne ha) (nn_ne hb)
theorem compare_if (x y : Int) : compare x y = if x < y then .lt else if x = y then .eq else .gt := rfl
open Jvm.Op in
theorem if_lt {a b : UInt64} (ha : Jvm.Free.Fl.NoNaN64 a) (hb : Jvm.Free.Fl.NoNaN64 b) (o : Jvm.ClassFile.CmpOp) : ifCond.holds .lt (cmpValue (Jvm.FP.dcmp a b) o) = decide (zv a < zv b) := by
  rw [cmp_zv ha hb, compare_if]; by_cases h1 : zv a < zv b
  · simp only [h1, if_true]; cases o <;> decide
  · by_cases h2 : zv a = zv b
    · simp only [h1, h2, Int.lt_irrefl, if_true, if_false]; cases o <;> decide
    · simp only [h1, h2, if_false]; cases o <;> decide
open Jvm.Op in
theorem if_ge {a b : UInt64} (ha : Jvm.Free.Fl.NoNaN64 a) (hb : Jvm.Free.Fl.NoNaN64 b) (o : Jvm.ClassFile.CmpOp) : ifCond.holds .ge (cmpValue (Jvm.FP.dcmp a b) o) = decide (zv b ≤ zv a) := by
  rw [cmp_zv ha hb, compare_if]; by_cases h1 : zv a < zv b
  · have : ¬ zv b ≤ zv a := by omega
    simp only [h1, this, if_true]; cases o <;> decide
  · have : zv b ≤ zv a := by omega
    by_cases h2 : zv a = zv b
    · simp only [h1, h2, this, Int.lt_irrefl, Int.le_refl, if_true, if_false]; cases o <;> decide
    · simp only [h1, h2, this, if_false]; cases o <;> decide
open Jvm.Op in
theorem if_gt {a b : UInt64} (ha : Jvm.Free.Fl.NoNaN64 a) (hb : Jvm.Free.Fl.NoNaN64 b) (o : Jvm.ClassFile.CmpOp) : ifCond.holds .gt (cmpValue (Jvm.FP.dcmp a b) o) = decide (zv b < zv a) := by
  rw [cmp_zv ha hb, compare_if]; by_cases h1 : zv a < zv b
  · have : ¬ zv b < zv a := by omega
    simp only [h1, this, if_true]; cases o <;> decide
  · by_cases h2 : zv a = zv b
    · simp only [h1, h2, Int.lt_irrefl, if_true, if_false]; cases o <;> decide
    · have : zv b < zv a := by omega
      simp only [h1, h2, this, if_false]; cases o <;> decide
open Jvm.Op in
theorem if_le {a b : UInt64} (ha : Jvm.Free.Fl.NoNaN64 a) (hb : Jvm.Free.Fl.NoNaN64 b) (o : Jvm.ClassFile.CmpOp) : ifCond.holds .le (cmpValue (Jvm.FP.dcmp a b) o) = decide (zv a ≤ zv b) := by
  rw [cmp_zv ha hb, compare_if]; by_cases h1 : zv a < zv b
  · have : zv a ≤ zv b := by omega
    simp only [h1, this, if_true]; cases o <;> decide
  · by_cases h2 : zv a = zv b
    · simp only [h1, h2, Int.lt_irrefl, Int.le_refl, if_true, if_false]; cases o <;> decide
    · have : ¬ zv a ≤ zv b := by omega
      simp only [h1, h2, this, if_false]; cases o <;> decide
open Jvm.Op in
theorem if_eq {a b : UInt64} (ha : Jvm.Free.Fl.NoNaN64 a) (hb : Jvm.Free.Fl.NoNaN64 b) (o : Jvm.ClassFile.CmpOp) : ifCond.holds .eq (cmpValue (Jvm.FP.dcmp a b) o) = decide (zv a = zv b) := by
  rw [cmp_zv ha hb, compare_if]; by_cases h1 : zv a < zv b
  · have : ¬ zv a = zv b := by omega
    simp only [h1, this, if_true]; cases o <;> decide
  · by_cases h2 : zv a = zv b
    · simp only [h2, Int.lt_irrefl, if_true, if_false]; cases o <;> decide
    · simp only [h1, h2, if_false]; cases o <;> decide
open Jvm.Op in
theorem if_ne {a b : UInt64} (ha : Jvm.Free.Fl.NoNaN64 a) (hb : Jvm.Free.Fl.NoNaN64 b) (o : Jvm.ClassFile.CmpOp) : ifCond.holds .ne (cmpValue (Jvm.FP.dcmp a b) o) = decide (¬ zv a = zv b) := by
  rw [cmp_zv ha hb, compare_if]; by_cases h1 : zv a < zv b
  · have : ¬ zv a = zv b := by omega
    simp only [h1, this, if_true]; cases o <;> decide
  · by_cases h2 : zv a = zv b
    · simp only [h2, Int.lt_irrefl, if_true, if_false]; cases o <;> decide
    · simp only [h1, h2, if_false]; cases o <;> decide
/-! longs and ints compared -/
open Jvm.Op Jvm.RoadKit in
theorem lw (cd : Jvm.ClassFile.Cond) (x y : Int64) : ifCond.holds cd (lcmpW x y) = (match cd with | .lt => decide (x.toInt < y.toInt) | .le => decide (x.toInt ≤ y.toInt) | .gt => decide (y.toInt < x.toInt) | .ge => decide (y.toInt ≤ x.toInt) | .eq => decide (x.toInt = y.toInt) | .ne => decide (¬ x.toInt = y.toInt)) := by
  unfold lcmpW
  simp only [gt_iff_lt, Int64.lt_iff_toInt_lt, ← Int64.toInt_inj]
  by_cases h1 : y.toInt < x.toInt
  · rw [if_pos h1]
    cases cd <;> simp only [h1, show ¬ x.toInt < y.toInt by omega, show ¬ x.toInt ≤ y.toInt by omega, show y.toInt ≤ x.toInt by omega, show ¬ x.toInt = y.toInt by omega] <;> decide
  · rw [if_neg h1]
    by_cases h2 : x.toInt = y.toInt
    · rw [if_pos h2, h2]
      cases cd <;> simp only [Int.lt_irrefl, Int.le_refl] <;> decide
    · rw [if_neg h2]
      cases cd <;> simp only [h1, h2, show x.toInt < y.toInt by omega, show x.toInt ≤ y.toInt by omega, show ¬ y.toInt ≤ x.toInt by omega] <;> decide
theorem i0_iff (x : Int32) : x = 0 ↔ x.toInt = 0 := by rw [← Int32.toInt_inj]; rfl
open Jvm.Op in
theorem iw (cd : Jvm.ClassFile.Cond) (x : Int32) : ifCond.holds cd x = (match cd with | .lt => decide (x.toInt < 0) | .le => decide (x.toInt ≤ 0) | .gt => decide (0 < x.toInt) | .ge => decide (0 ≤ x.toInt) | .eq => decide (x.toInt = 0) | .ne => decide (¬ x.toInt = 0)) := by
  have e0 : (0 : Int32).toInt = 0 := by decide
  cases cd <;> simp only [ifCond.holds, gt_iff_lt, ge_iff_le, Int32.lt_iff_toInt_lt, Int32.le_iff_toInt_le, e0]
  · by_cases h : x = 0
    · subst h; decide
    · have h' : ¬ x.toInt = 0 := fun q => h ((i0_iff x).mpr q)
      simp [h, h']
  · by_cases h : x = 0
    · subst h; decide
    · have h' : ¬ x.toInt = 0 := fun q => h ((i0_iff x).mpr q)
      simp [h, h']
end Jvm.OwnFP
namespace Jvm.OwnFP
open Jvm.FP.Core
/-! whole numbers that doubles hold exactly (the library's DInt) -/
theorem absmul {x y : Int} {A B : Nat} (hx : x.natAbs ≤ A) (hy : y.natAbs ≤ B) : (x * y).natAbs ≤ A * B := by rw [Int.natAbs_mul]; exact Nat.mul_le_mul hx hy
theorem nn_int {i : Int} {a : UInt64} (h : DInt i a) : Jvm.Free.Fl.NoNaN64 a := Jvm.Free.Fl.val64_no.mpr (DInt_ne_nan h)
theorem zv_int {i : Int} {a : UInt64} (h : DInt i a) : zv a = i * O := DInt_zval h
theorem cmp_int {i j : Int} {a b : UInt64} (ha : DInt i a) (hb : DInt j b) : Jvm.FP.dcmp a b = some (compare i j) := dcmp_int ha hb
open Jvm.Op in
theorem ne_int {i : Int} {a b : UInt64} (ha : DInt i a) (hb : DInt i b) (o : Jvm.ClassFile.CmpOp) : ifCond.holds .ne (cmpValue (Jvm.FP.dcmp a b) o) = false := by
  rw [cmp_int ha hb, compare_self_int]; cases o <;> decide
open Jvm.Op in
theorem lt_int {i j : Int} {a b : UInt64} (ha : DInt i a) (hb : DInt j b) (o : Jvm.ClassFile.CmpOp) : ifCond.holds .lt (cmpValue (Jvm.FP.dcmp a b) o) = decide (i < j) := by
  rw [cmp_int ha hb, compare_if]; by_cases h1 : i < j
  · simp only [h1, if_true]; cases o <;> decide
  · by_cases h2 : i = j
    · simp only [h2, Int.lt_irrefl, if_true, if_false]; cases o <;> decide
    · simp only [h1, h2, if_false]; cases o <;> decide
theorem int_d0 : DInt 0 Jvm.FP.dconst0 := by
  have h := l2d_int (a := 0) (by decide)
  have e : l2d 0 = Jvm.FP.dconst0 := by decide +kernel
  rw [e] at h; exact h
end Jvm.OwnFP
namespace Jvm.Pilot.@@N@@
open Jvm Jvm.ClassFile Sem Op Lib Jvm.Free Jvm.Stand Jvm.LawKit Jvm.RoadKit Bundle Jvm.Pilot.@@N@@.Jvm.D
def v5_15 (d1 : UInt64) (d2 : UInt64) (w_x_w_from_a0 : UInt64) (w_y_w_to_a0 : UInt64) (w_y_w_from_a0 : UInt64) (w_x_w_to_a0 : UInt64) : UInt64 := (FP.dsub w_x_w_to_a0 w_x_w_from_a0)
def v5_32 (d1 : UInt64) (d2 : UInt64) (w_x_w_from_a0 : UInt64) (w_y_w_to_a0 : UInt64) (w_y_w_from_a0 : UInt64) (w_x_w_to_a0 : UInt64) : UInt64 := (FP.dsub w_y_w_to_a0 w_y_w_from_a0)
def j5_61_s0 (d1 : UInt64) (d2 : UInt64) (w_x_w_from_a0 : UInt64) (w_y_w_to_a0 : UInt64) (w_y_w_from_a0 : UInt64) (w_x_w_to_a0 : UInt64) : Int32 := if ifCond.holds .lt (cmpValue (FP.dcmp (FP.dsub (FP.dmul (v5_15 d1 d2 w_x_w_from_a0 w_y_w_to_a0 w_y_w_from_a0 w_x_w_to_a0) (FP.dsub d2 w_y_w_from_a0)) (FP.dmul (v5_32 d1 d2 w_x_w_from_a0 w_y_w_to_a0 w_y_w_from_a0 w_x_w_to_a0) (FP.dsub d1 w_x_w_from_a0))) FP.dconst0) .l) = true then (0 : Int32) else (1 : Int32)
def v0_4 (p0 : Int32) (p1 : Int32) (p2 : Int32) (p3 : Int32) (p4 : Int32) (p5 : Int32) : Int32 := (p0 % (1048576 : Int32))
def v0_10 (p0 : Int32) (p1 : Int32) (p2 : Int32) (p3 : Int32) (p4 : Int32) (p5 : Int32) : Int32 := (p1 % (1048576 : Int32))
def v0_16 (p0 : Int32) (p1 : Int32) (p2 : Int32) (p3 : Int32) (p4 : Int32) (p5 : Int32) : Int32 := (p2 % (1048576 : Int32))
def v0_22 (p0 : Int32) (p1 : Int32) (p2 : Int32) (p3 : Int32) (p4 : Int32) (p5 : Int32) : Int32 := (p3 % (1048576 : Int32))
def v0_29 (p0 : Int32) (p1 : Int32) (p2 : Int32) (p3 : Int32) (p4 : Int32) (p5 : Int32) : Int32 := (p4 % (1048576 : Int32))
def v0_36 (p0 : Int32) (p1 : Int32) (p2 : Int32) (p3 : Int32) (p4 : Int32) (p5 : Int32) : Int32 := (p5 % (1048576 : Int32))
def v0_120 (p0 : Int32) (p1 : Int32) (p2 : Int32) (p3 : Int32) (p4 : Int32) (p5 : Int32) : Int64 := ((((((((v0_4 p0 p1 p2 p3 p4 p5).toInt64) * ((v0_22 p0 p1 p2 p3 p4 p5).toInt64)) - (((v0_16 p0 p1 p2 p3 p4 p5).toInt64) * ((v0_10 p0 p1 p2 p3 p4 p5).toInt64))) + (((v0_16 p0 p1 p2 p3 p4 p5).toInt64) * ((v0_36 p0 p1 p2 p3 p4 p5).toInt64))) - (((v0_29 p0 p1 p2 p3 p4 p5).toInt64) * ((v0_22 p0 p1 p2 p3 p4 p5).toInt64))) + (((v0_29 p0 p1 p2 p3 p4 p5).toInt64) * ((v0_10 p0 p1 p2 p3 p4 p5).toInt64))) - (((v0_4 p0 p1 p2 p3 p4 p5).toInt64) * ((v0_36 p0 p1 p2 p3 p4 p5).toInt64)))
def j0_126_s0 (p0 : Int32) (p1 : Int32) (p2 : Int32) (p3 : Int32) (p4 : Int32) (p5 : Int32) : Int32 := if ifCond.holds .lt (lcmpW (v0_120 p0 p1 p2 p3 p4 p5) (0 : Int64)) = true then (0 : Int32) else (1 : Int32)
def j0_149_s0 (p0 : Int32) (p1 : Int32) (p2 : Int32) (p3 : Int32) (p4 : Int32) (p5 : Int32) : Int32 := if if_icmp.holds .ne (nar .boolean (j5_61_s0 (FP.i2d (v0_29 p0 p1 p2 p3 p4 p5)) (FP.i2d (v0_36 p0 p1 p2 p3 p4 p5)) (FP.i2d (v0_4 p0 p1 p2 p3 p4 p5)) (FP.i2d (v0_22 p0 p1 p2 p3 p4 p5)) (FP.i2d (v0_10 p0 p1 p2 p3 p4 p5)) (FP.i2d (v0_16 p0 p1 p2 p3 p4 p5)))) (j0_126_s0 p0 p1 p2 p3 p4 p5) = true then (0 : Int32) else (1 : Int32)
section Own
open Jvm.OwnFP Jvm.FP.Core
theorem own_rem (p : Int32) : (p % (1048576 : Int32)).toInt.natAbs ≤ 1048575 := by
  rw [Jvm.Kit.i32_rem, show (1048576 : Int32).toInt = 1048576 by decide]
  have h1 := Int.tmod_lt_of_pos p.toInt (b := 1048576) (by decide)
  have h2 := Int.lt_tmod_of_pos p.toInt (b := 1048576) (by decide)
  omega
/-- the difference of two such, as a double -/
theorem own_sub {x y : Int32} (hx : x.toInt.natAbs ≤ 1048575) (hy : y.toInt.natAbs ≤ 1048575) : DInt (x.toInt - y.toInt) (FP.dsub (FP.i2d x) (FP.i2d y)) ∧ (x.toInt - y.toInt).natAbs ≤ 2097150 :=
  ⟨dsub_int (i2d_int x) (i2d_int y) (Nat.le_trans (show _ ≤ 2097150 by omega) (by decide)), by omega⟩
theorem own_mul {i j : Int} {a b : UInt64} (ha : DInt i a ∧ i.natAbs ≤ 2097150) (hb : DInt j b ∧ j.natAbs ≤ 2097150) : DInt (i * j) (FP.dmul a b) ∧ (i * j).natAbs ≤ 4398038122500 := by
  have h := absmul ha.2 hb.2
  exact ⟨dmul_int ha.1 hb.1 (Nat.le_trans h (by decide)), h⟩
theorem own_d {i j : Int} {a b : UInt64} (ha : DInt i a ∧ i.natAbs ≤ 4398038122500) (hb : DInt j b ∧ j.natAbs ≤ 4398038122500) : DInt (i - j) (FP.dsub a b) :=
  dsub_int ha.1 hb.1 (Nat.le_trans (show _ ≤ 8796076245000 by omega) (by decide))
section V
variable (a b c d e f : Int32)
theorem own_fx : (v0_4 a b c d e f).toInt.natAbs ≤ 1048575 := own_rem a
theorem own_fy : (v0_10 a b c d e f).toInt.natAbs ≤ 1048575 := own_rem b
theorem own_tx : (v0_16 a b c d e f).toInt.natAbs ≤ 1048575 := own_rem c
theorem own_ty : (v0_22 a b c d e f).toInt.natAbs ≤ 1048575 := own_rem d
theorem own_px : (v0_29 a b c d e f).toInt.natAbs ≤ 1048575 := own_rem e
theorem own_py : (v0_36 a b c d e f).toInt.natAbs ≤ 1048575 := own_rem f
theorem own_s14 : type_of% (own_sub (own_tx a b c d e f) (own_fx a b c d e f)) := own_sub (own_tx a b c d e f) (own_fx a b c d e f)
theorem own_s31 : type_of% (own_sub (own_ty a b c d e f) (own_fy a b c d e f)) := own_sub (own_ty a b c d e f) (own_fy a b c d e f)
theorem own_s44 : type_of% (own_sub (own_py a b c d e f) (own_fy a b c d e f)) := own_sub (own_py a b c d e f) (own_fy a b c d e f)
theorem own_s56 : type_of% (own_sub (own_px a b c d e f) (own_fx a b c d e f)) := own_sub (own_px a b c d e f) (own_fx a b c d e f)
theorem own_m45 : type_of% (own_mul (own_s14 a b c d e f) (own_s44 a b c d e f)) := own_mul (own_s14 a b c d e f) (own_s44 a b c d e f)
theorem own_m57 : type_of% (own_mul (own_s31 a b c d e f) (own_s56 a b c d e f)) := own_mul (own_s31 a b c d e f) (own_s56 a b c d e f)
theorem own_d58 : type_of% (own_d (own_m45 a b c d e f) (own_m57 a b c d e f)) := own_d (own_m45 a b c d e f) (own_m57 a b c d e f)
theorem own_h14 : type_of% (nn_int (own_s14 a b c d e f).1) := nn_int (own_s14 a b c d e f).1
theorem own_h31 : type_of% (nn_int (own_s31 a b c d e f).1) := nn_int (own_s31 a b c d e f).1
theorem own_h44 : type_of% (nn_int (own_s44 a b c d e f).1) := nn_int (own_s44 a b c d e f).1
theorem own_h45 : type_of% (nn_int (own_m45 a b c d e f).1) := nn_int (own_m45 a b c d e f).1
theorem own_h56 : type_of% (nn_int (own_s56 a b c d e f).1) := nn_int (own_s56 a b c d e f).1
theorem own_h57 : type_of% (nn_int (own_m57 a b c d e f).1) := nn_int (own_m57 a b c d e f).1
theorem own_h58 : type_of% (nn_int (own_d58 a b c d e f)) := nn_int (own_d58 a b c d e f)
end V
theorem own_p {x y : Int32} (hx : x.toInt.natAbs ≤ 1048575) (hy : y.toInt.natAbs ≤ 1048575) : (x.toInt64 * y.toInt64).toInt = x.toInt * y.toInt ∧ (x.toInt * y.toInt).natAbs ≤ 1099509530625 := by
  have h := absmul hx hy
  refine ⟨?_, h⟩
  rw [Jvm.Kit.i64_mul] <;> rw [Int32.toInt_toInt64, Int32.toInt_toInt64] <;> omega
theorem own_pb {x y : Int32} (hx : x.toInt.natAbs ≤ 1048575) (hy : y.toInt.natAbs ≤ 1048575) : (x.toInt64 * y.toInt64).toInt = x.toInt * y.toInt ∧ -1099509530625 ≤ x.toInt * y.toInt ∧ x.toInt * y.toInt ≤ 1099509530625 := by
  have h := own_p hx hy
  exact ⟨h.1, by omega, by omega⟩
theorem own_alg (fx fy tx ty px py : Int) : fx * ty - tx * fy + tx * py - px * ty + px * fy - fx * py = (tx - fx) * (py - fy) - (ty - fy) * (px - fx) := by
  rw [Int.sub_mul, Int.mul_sub, Int.mul_sub, Int.sub_mul, Int.mul_sub, Int.mul_sub, Int.mul_comm ty px, Int.mul_comm ty fx, Int.mul_comm fy px, Int.mul_comm fy fx]
  omega
theorem own_area6 {fx fy tx ty px py : Int32} (h1 : fx.toInt.natAbs ≤ 1048575) (h2 : fy.toInt.natAbs ≤ 1048575) (h3 : tx.toInt.natAbs ≤ 1048575) (h4 : ty.toInt.natAbs ≤ 1048575) (h5 : px.toInt.natAbs ≤ 1048575) (h6 : py.toInt.natAbs ≤ 1048575) :
    (fx.toInt64 * ty.toInt64 - tx.toInt64 * fy.toInt64 + tx.toInt64 * py.toInt64 - px.toInt64 * ty.toInt64 + px.toInt64 * fy.toInt64 - fx.toInt64 * py.toInt64).toInt = (tx.toInt - fx.toInt) * (py.toInt - fy.toInt) - (ty.toInt - fy.toInt) * (px.toInt - fx.toInt) := by
  rw [← own_alg]
  have m1 := own_pb h1 h4
  have m2 := own_pb h3 h2
  have m3 := own_pb h3 h6
  have m4 := own_pb h5 h4
  have m5 := own_pb h5 h2
  have m6 := own_pb h1 h6
  clear h1 h2 h3 h4 h5 h6
  have e1 : (fx.toInt64 * ty.toInt64 - tx.toInt64 * fy.toInt64).toInt = fx.toInt * ty.toInt - tx.toInt * fy.toInt := by
    rw [Jvm.Kit.i64_sub] <;> rw [m1.1, m2.1] <;> omega
  have e2 := Jvm.Kit.i64_add (x := fx.toInt64 * ty.toInt64 - tx.toInt64 * fy.toInt64) (y := tx.toInt64 * py.toInt64) (by rw [e1, m3.1]; omega) (by rw [e1, m3.1]; omega)
  rw [e1, m3.1] at e2
  have e3 := Jvm.Kit.i64_sub (x := fx.toInt64 * ty.toInt64 - tx.toInt64 * fy.toInt64 + tx.toInt64 * py.toInt64) (y := px.toInt64 * ty.toInt64) (by rw [e2, m4.1]; omega) (by rw [e2, m4.1]; omega)
  rw [e2, m4.1] at e3
  have e4 := Jvm.Kit.i64_add (x := fx.toInt64 * ty.toInt64 - tx.toInt64 * fy.toInt64 + tx.toInt64 * py.toInt64 - px.toInt64 * ty.toInt64) (y := px.toInt64 * fy.toInt64) (by rw [e3, m5.1]; omega) (by rw [e3, m5.1]; omega)
  rw [e3, m5.1] at e4
  have e5 := Jvm.Kit.i64_sub (x := fx.toInt64 * ty.toInt64 - tx.toInt64 * fy.toInt64 + tx.toInt64 * py.toInt64 - px.toInt64 * ty.toInt64 + px.toInt64 * fy.toInt64) (y := fx.toInt64 * py.toInt64) (by rw [e4, m6.1]; omega) (by rw [e4, m6.1]; omega)
  rw [e4, m6.1] at e5
  exact e5
theorem own_area (a b c d e f : Int32) : (v0_120 a b c d e f).toInt = ((v0_16 a b c d e f).toInt - (v0_4 a b c d e f).toInt) * ((v0_36 a b c d e f).toInt - (v0_10 a b c d e f).toInt) - ((v0_22 a b c d e f).toInt - (v0_10 a b c d e f).toInt) * ((v0_29 a b c d e f).toInt - (v0_4 a b c d e f).toInt) :=
  own_area6 (own_fx a b c d e f) (own_fy a b c d e f) (own_tx a b c d e f) (own_ty a b c d e f) (own_px a b c d e f) (own_py a b c d e f)
theorem own_res (a b c d e f : Int32) : j0_149_s0 a b c d e f = 1 := by
  have hd := own_d58 a b c d e f
  have hl := lt_int hd int_d0 .l
  have ha := own_area a b c d e f
  rw [← ha] at hl
  unfold j0_149_s0 j0_126_s0 j5_61_s0 v5_15 v5_32
  rw [lw, hl]
  simp only [show (0 : Int64).toInt = 0 by decide]
  by_cases h : (v0_120 a b c d e f).toInt < 0
  · rw [show decide ((v0_120 a b c d e f).toInt < 0) = true from decide_eq_true h]; decide
  · rw [show decide ((v0_120 a b c d e f).toInt < 0) = false from decide_eq_false h]; decide
end Own
theorem d2_0 : decode jdk_30_method_1_code 0 = .ok (.aload_n 0, 1) := by decide +kernel
theorem d2_1 : decode jdk_30_method_1_code 1 = .ok (.invokespecial 1, 3) := by decide +kernel
theorem d2_4 : decode jdk_30_method_1_code 4 = .ok (.return_, 1) := by decide +kernel
theorem pn_2 : plainName "java/lang/Record" = true := by first | (simp [plainName, overriddenIn]; done) | decide +kernel
theorem pd_0 : parseMethodDescriptor "()V" = some ⟨[], none⟩ := by decide +kernel
theorem pd_1 : parseMethodDescriptor "()D" = some ⟨[], some .double⟩ := by decide +kernel
theorem pd_2 : parseMethodDescriptor "(DD)V" = some ⟨[.double, .double], none⟩ := by decide +kernel
theorem pd_3 : parseMethodDescriptor "(Lcom/example/ped3/ped3/model/Position;Lcom/example/ped3/ped3/model/Position;)V" = some ⟨[(.object "com/example/ped3/ped3/model/Position"), (.object "com/example/ped3/ped3/model/Position")], none⟩ := by decide +kernel
theorem pd_4 : parseMethodDescriptor "(DD)Z" = some ⟨[.double, .double], some .boolean⟩ := by decide +kernel
theorem ef_2 (m : MethodId) (a0 : Addr) : entryFrame m #[(.ref a0)] 1 = mkF m 0 #[.val (.ref a0)] [] := by first | (simp [entryFrame, mkF, argsToLocals, Value.category]; done) | rfl
def Q2 (Z : State) (a0 : Addr) (h0 : Heap) (n0 : Nat) (v : Option Value) (h : Heap) (L : List Loc) : Prop := v = none ∧ Fr n0 L ∧ h = h0
set_option maxRecDepth 65536 in
set_option maxHeartbeats 40000000 in
theorem rm2 (l : Launch) (Z : State) (aw : Array Value) (hw : ∀ d ∈ tables_1, d.before aw Z = true) (ws : List Jvm.Cond) (a0 : Addr) (h0 : Heap) (n0 : Nat) (Z0 : n0 ≤ h0.size) :
    MetFree l (⟨"java/lang/Record", "<init>", "()V"⟩ : MethodName) (head1 (Jvm.Cond.code (⟨"java/lang/Record", "<init>", "()V"⟩ : MethodName) jdk_30_method_1_code 1 none :: ws) ({ frames := 1, cells := 0, slots := 0, locals := 12 } : Room)) (fun a U => a = #[(.ref a0)] ∧ Z.Warmed39 U.vm ∧ U.heap = h0) (fun _ _ _ _ _ => True) (fun _ U o U' => ∃ v L, o = .returned v ∧ Q2 Z a0 h0 n0 v U'.heap L ∧ FrameEnd U o U' L ({ frames := 1, cells := 0, slots := 0, locals := 12 } : Room).cells ({ frames := 1, cells := 0, slots := 0, locals := 12 } : Room).slots) := by
  refine MetFree.of_bodySF (plainFor_of_name pn_2) hisR ?_
  intro p e s m args below meth c s₁ Bd hml0 hP hK
  obtain ⟨rfl, hZ, hh⟩ := hP
  have hx := Bd.exec
  have hby := Bd.bytes
  have hml : c.maxLocals = 1 := hml0
  have hown : s.vm.findClass "java/lang/Record" = some m.cls := findClass_of_methodNamed Bd.named
  have hnm := (name_of_methodNamed Bd.named Bd.method).1
  have X0 : Stand p l e ({ frames := 1, cells := 0, slots := 0, locals := 12 } : Room) s m #[(.ref a0)] below meth c s₁ [] 0 0 := Stand.of_body Bd
  have e0 : s₁.heap = h0 := by rw [← hh, Bd.state]; rfl
  have N0 := Fr.nil n0
  have pre0 : ∀ t, Steps p.tables e below (s₁.setTop (mkF m 0 #[.val (.ref a0)] [])) t → Steps p.tables e below (s₁.setTop (entryFrame m #[(.ref a0)] 1)) t := fun t k => castTop (ef_2 m a0) k
  obtain ⟨T1, X1, e1, st1⟩ := initO X0 hx hZ hown (hw _ (List.mem_of_getElem? (i := 15) rfl)) (hw _ (List.mem_of_getElem? (i := 16) rfl)) (hw _ (List.mem_of_getElem? (i := 17) rfl)) e0 (g := (mkF m 1 #[.val (.ref a0)] [(.ref a0)])) rfl (by rw [hml]; rfl) rfl (hb hby d2_1) (by decide) (W := 0) (by show 2 * 0 + _ ≤ _; exact Nat.le_of_eq rfl) (by decide)
  obtain ⟨fs, hr, hrun, hended, hW, hsame⟩ := X1.leave (v := none) (fun _ => rfl)
  refine ⟨_, _, pre0 _ ?_, hrun, hended, _, _, rfl, ?_, ⟨_, rfl⟩, hW, hsame.mono (by decide) (by decide)⟩
  · show Steps p.tables e below (s₁.setTop (mkF m 0 #[.val (.ref a0)] [])) _
    refine XS.aloadN X0.here hx rfl (hb hby d2_0) rfl rfl ?_
    show Steps p.tables e below (s₁.setTop (mkF m 1 #[.val (.ref a0)] [(.ref a0)])) _
    refine st1 _ ?_
    show Steps p.tables e below (T1.setTop (mkF m 4 #[.val (.ref a0)] [])) _
    exact X1.returnOut hx Bd.returns (hb hby d2_4) hr
  · show Q2 Z a0 h0 n0 _ T1.heap _
    rw [e1]
    exact ⟨rfl, N0, rfl⟩
theorem d1_0 : decode prog_12_method_1_code 0 = .ok (.aload_n 0, 1) := by decide +kernel
theorem d1_1 : decode prog_12_method_1_code 1 = .ok (.invokespecial 1, 3) := by decide +kernel
theorem d1_4 : decode prog_12_method_1_code 4 = .ok (.aload_n 0, 1) := by decide +kernel
theorem d1_5 : decode prog_12_method_1_code 5 = .ok (.dload_n 1, 1) := by decide +kernel
theorem d1_6 : decode prog_12_method_1_code 6 = .ok (.putfield 7, 3) := by decide +kernel
theorem d1_9 : decode prog_12_method_1_code 9 = .ok (.aload_n 0, 1) := by decide +kernel
theorem d1_10 : decode prog_12_method_1_code 10 = .ok (.dload_n 3, 1) := by decide +kernel
theorem d1_11 : decode prog_12_method_1_code 11 = .ok (.putfield 13, 3) := by decide +kernel
theorem d1_14 : decode prog_12_method_1_code 14 = .ok (.return_, 1) := by decide +kernel
theorem pn_1 : plainName "com/example/ped3/ped3/model/Position" = true := by first | (simp [plainName, overriddenIn]; done) | decide +kernel
theorem ef_1 (m : MethodId) (a0 : Addr) (d1 : UInt64) (d2 : UInt64) : entryFrame m #[(.ref a0), (.double d1), (.double d2)] 5 = mkF m 0 #[.val (.ref a0), .val (.double d1), .second, .val (.double d2), .second] [] := by first | (simp [entryFrame, mkF, argsToLocals, Value.category]; done) | rfl
def Q1 (Z : State) (a0 : Addr) (d1 : UInt64) (d2 : UInt64) (u_x_a0 : Value) (u_y_a0 : Value) (h0 : Heap) (n0 : Nat) (v : Option Value) (h : Heap) (L : List Loc) : Prop := v = none ∧ Fr n0 L ∧ Keep h0 h [a0] ∧ Exa Z h a0 "com/example/ped3/ped3/model/Position" ∧ Fld Z h a0 "com/example/ped3/ped3/model/Position" "x" "D" (.double d1) ∧ Fld Z h a0 "com/example/ped3/ped3/model/Position" "y" "D" (.double d2)
set_option maxRecDepth 65536 in
set_option maxHeartbeats 40000000 in
theorem rm1 (l : Launch) (Z : State) (aw : Array Value) (hw : ∀ d ∈ tables_1, d.before aw Z = true) (ws : List Jvm.Cond) (a0 : Addr) (d1 : UInt64) (d2 : UInt64) (u_x_a0 : Value) (u_y_a0 : Value) (h0 : Heap) (n0 : Nat) (Z0 : n0 ≤ h0.size) (F_is_a0 : Exa Z h0 a0 "com/example/ped3/ped3/model/Position") (F_x_a0 : Fld Z h0 a0 "com/example/ped3/ped3/model/Position" "x" "D" u_x_a0) (F_y_a0 : Fld Z h0 a0 "com/example/ped3/ped3/model/Position" "y" "D" u_y_a0) (g_a0 : n0 ≤ a0) :
    MetFree l (⟨"com/example/ped3/ped3/model/Position", "<init>", "(DD)V"⟩ : MethodName) (head1 (Jvm.Cond.code (⟨"com/example/ped3/ped3/model/Position", "<init>", "(DD)V"⟩ : MethodName) prog_12_method_1_code 5 none :: ws) ({ frames := 2, cells := 0, slots := 0, locals := 24 } : Room)) (fun a U => a = #[(.ref a0), (.double d1), (.double d2)] ∧ Z.Warmed39 U.vm ∧ U.heap = h0) (fun _ _ _ _ _ => True) (fun _ U o U' => ∃ v L, o = .returned v ∧ Q1 Z a0 d1 d2 u_x_a0 u_y_a0 h0 n0 v U'.heap L ∧ FrameEnd U o U' L ({ frames := 2, cells := 0, slots := 0, locals := 24 } : Room).cells ({ frames := 2, cells := 0, slots := 0, locals := 24 } : Room).slots) := by
  refine MetFree.of_bodySF (plainFor_of_name pn_1) hisR ?_
  intro p e s m args below meth c s₁ Bd hml0 hP hK
  obtain ⟨rfl, hZ, hh⟩ := hP
  have hx := Bd.exec
  have hby := Bd.bytes
  have hml : c.maxLocals = 5 := hml0
  have hown : s.vm.findClass "com/example/ped3/ped3/model/Position" = some m.cls := findClass_of_methodNamed Bd.named
  have hnm := (name_of_methodNamed Bd.named Bd.method).1
  have X0 : Stand p l e ({ frames := 2, cells := 0, slots := 0, locals := 24 } : Room) s m #[(.ref a0), (.double d1), (.double d2)] below meth c s₁ [] 0 0 := Stand.of_body Bd
  have e0 : s₁.heap = h0 := by rw [← hh, Bd.state]; rfl
  have N0 := Fr.nil n0
  have pre0 : ∀ t, Steps p.tables e below (s₁.setTop (mkF m 0 #[.val (.ref a0), .val (.double d1), .second, .val (.double d2), .second] [])) t → Steps p.tables e below (s₁.setTop (entryFrame m #[(.ref a0), (.double d1), (.double d2)] 5)) t := fun t k => castTop (ef_1 m a0 d1 d2) k
  obtain ⟨_, _, ⟨T1, L1, k1, n1⟩, -, X1, ⟨Lc1, hQ1, l1, y1, z1'⟩, st1⟩ := X0.specialBack hx (y := (⟨"java/lang/Record", "<init>", "()V"⟩ : MethodName)) rfl hown (mvT hZ (hw _ (List.mem_of_getElem? (i := 10) rfl))) (mvT hZ (hw _ (List.mem_of_getElem? (i := 11) rfl))) (mvT hZ (hw _ (List.mem_of_getElem? (i := 14) rfl))) (by decide) (backOf (W := 0) (rm2 l Z aw hw [] a0 h0 n0 Z0 ) hZ (hw _ (List.mem_of_getElem? (i := 14) rfl)) (hw _ (List.mem_of_getElem? (i := 13) rfl)) (by decide) (by decide)) (g := (mkF m 1 #[.val (.ref a0), .val (.double d1), .second, .val (.double d2), .second] [(.ref a0)])) rfl (by rw [hml]; rfl) (Steps.refl _) (a := a0) (argsL := []) (rest := []) (lenOf pd_0 rfl) rfl (by show 2 * 0 + _ ≤ _; exact Nat.le_of_eq rfl) (hb hby d1_1) (fun _ _ => ⟨rfl, e0, (by decide : 0 + 0 ≤ _), (by decide : 0 + 0 ≤ _)⟩)
  dsimp only [Pt.U, Pt.locs, Pt.cells, Pt.slots] at X1 l1 y1 z1' st1 hQ1
  subst l1 y1 z1'
  obtain ⟨rfl, N1q, hq1⟩ := hQ1
  have f1_0 : Exa Z T1.heap a0 "com/example/ped3/ped3/model/Position" := by rw [hq1]; exact F_is_a0
  have f1_1 : Fld Z T1.heap a0 "com/example/ped3/ped3/model/Position" "x" "D" u_x_a0 := by rw [hq1]; exact F_x_a0
  have f1_2 : Fld Z T1.heap a0 "com/example/ped3/ped3/model/Position" "y" "D" u_y_a0 := by rw [hq1]; exact F_y_a0
  have z1 : n0 ≤ T1.heap.size := by rw [hq1]; exact Z0
  have K1 : Keep h0 T1.heap [a0] := by rw [hq1]; exact (Keep.refl h0 [a0])
  have N1 := Fr.app N0 N1q
  obtain ⟨T2, h2, X2, e2, W2, st2⟩ := putF X1 hx hZ hown (host := "") (Or.inl (hw _ (List.mem_of_getElem? (i := 18) rfl))) Via.refl rfl f1_1 f1_0 (Or.inr ⟨(hw _ (List.mem_of_getElem? (i := 19) rfl)), rfl, hnm⟩) (hw _ (List.mem_of_getElem? (i := 5) rfl)) (ty := .double) (by decide) rfl rfl (g := (mkF m 6 #[.val (.ref a0), .val (.double d1), .second, .val (.double d2), .second] [(.double d1), (.ref a0)])) rfl rfl (hb hby d1_6)
  have f2_0 : Exa Z h2 a0 "com/example/ped3/ped3/model/Position" := f1_0.wr W2
  have f2_1 : Fld Z h2 a0 "com/example/ped3/ped3/model/Position" "x" "D" (.double d1) := f1_1.same W2
  have f2_2 : Fld Z h2 a0 "com/example/ped3/ped3/model/Position" "y" "D" u_y_a0 := f1_2.other W2 (Or.inr (slot_ne (Or.inr (hw _ (List.mem_of_getElem? (i := 21) rfl))) (Or.inr (hw _ (List.mem_of_getElem? (i := 19) rfl))) (by decide) (t := .double) (t' := .double) (by decide) (by decide)))
  have K2 : Keep h0 h2 [a0] := K1.wr W2 (Or.inl (List.mem_of_getElem? (i := 0) rfl))
  have N2 := Fr.snoc X2 N1 g_a0
  have z2 : n0 ≤ h2.size := Nat.le_trans z1 (Keep.of_wr W2).1
  obtain ⟨T3, h3, X3, e3, W3, st3⟩ := putF X2 hx hZ hown (host := "") (Or.inl (hw _ (List.mem_of_getElem? (i := 20) rfl))) Via.refl e2 f2_2 f2_0 (Or.inr ⟨(hw _ (List.mem_of_getElem? (i := 21) rfl)), rfl, hnm⟩) (hw _ (List.mem_of_getElem? (i := 5) rfl)) (ty := .double) (by decide) rfl rfl (g := (mkF m 11 #[.val (.ref a0), .val (.double d1), .second, .val (.double d2), .second] [(.double d2), (.ref a0)])) rfl rfl (hb hby d1_11)
  have f3_0 : Exa Z h3 a0 "com/example/ped3/ped3/model/Position" := f2_0.wr W3
  have f3_1 : Fld Z h3 a0 "com/example/ped3/ped3/model/Position" "x" "D" (.double d1) := f2_1.other W3 (Or.inr (slot_ne (Or.inr (hw _ (List.mem_of_getElem? (i := 19) rfl))) (Or.inr (hw _ (List.mem_of_getElem? (i := 21) rfl))) (by decide) (t := .double) (t' := .double) (by decide) (by decide)))
  have f3_2 : Fld Z h3 a0 "com/example/ped3/ped3/model/Position" "y" "D" (.double d2) := f2_2.same W3
  have K3 : Keep h0 h3 [a0] := K2.wr W3 (Or.inl (List.mem_of_getElem? (i := 0) rfl))
  have N3 := Fr.snoc X3 N2 g_a0
  have z3 : n0 ≤ h3.size := Nat.le_trans z2 (Keep.of_wr W3).1
  obtain ⟨fs, hr, hrun, hended, hW, hsame⟩ := X3.leave (v := none) (fun _ => rfl)
  refine ⟨_, _, pre0 _ ?_, hrun, hended, _, _, rfl, ?_, ⟨_, rfl⟩, hW, hsame.mono (by decide) (by decide)⟩
  · show Steps p.tables e below (s₁.setTop (mkF m 0 #[.val (.ref a0), .val (.double d1), .second, .val (.double d2), .second] [])) _
    refine XS.aloadN X0.here hx rfl (hb hby d1_0) rfl rfl ?_
    show Steps p.tables e below (s₁.setTop (mkF m 1 #[.val (.ref a0), .val (.double d1), .second, .val (.double d2), .second] [(.ref a0)])) _
    refine st1.trans ?_
    show Steps p.tables e below (T1.setTop (mkF m 4 #[.val (.ref a0), .val (.double d1), .second, .val (.double d2), .second] [])) _
    refine XS.aloadN X1.here hx rfl (hb hby d1_4) rfl rfl ?_
    show Steps p.tables e below (T1.setTop (mkF m 5 #[.val (.ref a0), .val (.double d1), .second, .val (.double d2), .second] [(.ref a0)])) _
    refine XS.dloadN X1.here hx rfl (hb hby d1_5) rfl ?_
    show Steps p.tables e below (T1.setTop (mkF m 6 #[.val (.ref a0), .val (.double d1), .second, .val (.double d2), .second] [(.double d1), (.ref a0)])) _
    refine st2 _ ?_
    show Steps p.tables e below (T2.setTop (mkF m 9 #[.val (.ref a0), .val (.double d1), .second, .val (.double d2), .second] [])) _
    refine XS.aloadN X2.here hx rfl (hb hby d1_9) rfl rfl ?_
    show Steps p.tables e below (T2.setTop (mkF m 10 #[.val (.ref a0), .val (.double d1), .second, .val (.double d2), .second] [(.ref a0)])) _
    refine XS.dloadN X2.here hx rfl (hb hby d1_10) rfl ?_
    show Steps p.tables e below (T2.setTop (mkF m 11 #[.val (.ref a0), .val (.double d1), .second, .val (.double d2), .second] [(.double d2), (.ref a0)])) _
    refine st3 _ ?_
    show Steps p.tables e below (T3.setTop (mkF m 14 #[.val (.ref a0), .val (.double d1), .second, .val (.double d2), .second] [])) _
    exact X3.returnOut hx Bd.returns (hb hby d1_14) hr
  · show Q1 Z a0 d1 d2 u_x_a0 u_y_a0 h0 n0 _ T3.heap _
    rw [e3]
    exact ⟨rfl, N3, K3, f3_0, f3_1, f3_2⟩
theorem d4_0 : decode prog_13_method_1_code 0 = .ok (.aload_n 0, 1) := by decide +kernel
theorem d4_1 : decode prog_13_method_1_code 1 = .ok (.invokespecial 1, 3) := by decide +kernel
theorem d4_4 : decode prog_13_method_1_code 4 = .ok (.aload_n 0, 1) := by decide +kernel
theorem d4_5 : decode prog_13_method_1_code 5 = .ok (.aload_n 1, 1) := by decide +kernel
theorem d4_6 : decode prog_13_method_1_code 6 = .ok (.putfield 7, 3) := by decide +kernel
theorem d4_9 : decode prog_13_method_1_code 9 = .ok (.aload_n 0, 1) := by decide +kernel
theorem d4_10 : decode prog_13_method_1_code 10 = .ok (.aload_n 2, 1) := by decide +kernel
theorem d4_11 : decode prog_13_method_1_code 11 = .ok (.putfield 13, 3) := by decide +kernel
theorem d4_14 : decode prog_13_method_1_code 14 = .ok (.return_, 1) := by decide +kernel
theorem pn_4 : plainName "com/example/ped3/ped3/model/Wall" = true := by first | (simp [plainName, overriddenIn]; done) | decide +kernel
theorem ef_4 (m : MethodId) (a0 : Addr) (a1 : Addr) (a2 : Addr) : entryFrame m #[(.ref a0), (.ref a1), (.ref a2)] 3 = mkF m 0 #[.val (.ref a0), .val (.ref a1), .val (.ref a2)] [] := by first | (simp [entryFrame, mkF, argsToLocals, Value.category]; done) | rfl
def Q4 (Z : State) (a0 : Addr) (a1 : Addr) (a2 : Addr) (u_from_a0 : Value) (u_to_a0 : Value) (h0 : Heap) (n0 : Nat) (v : Option Value) (h : Heap) (L : List Loc) : Prop := v = none ∧ Fr n0 L ∧ Keep h0 h [a0] ∧ Exa Z h a0 "com/example/ped3/ped3/model/Wall" ∧ Fld Z h a0 "com/example/ped3/ped3/model/Wall" "from" "Lcom/example/ped3/ped3/model/Position;" (.ref a1) ∧ Fld Z h a0 "com/example/ped3/ped3/model/Wall" "to" "Lcom/example/ped3/ped3/model/Position;" (.ref a2)
set_option maxRecDepth 65536 in
set_option maxHeartbeats 40000000 in
theorem rm4 (l : Launch) (Z : State) (aw : Array Value) (hw : ∀ d ∈ tables_1, d.before aw Z = true) (ws : List Jvm.Cond) (a0 : Addr) (a1 : Addr) (a2 : Addr) (u_from_a0 : Value) (u_to_a0 : Value) (h0 : Heap) (n0 : Nat) (Z0 : n0 ≤ h0.size) (F_is_a0 : Exa Z h0 a0 "com/example/ped3/ped3/model/Wall") (F_from_a0 : Fld Z h0 a0 "com/example/ped3/ped3/model/Wall" "from" "Lcom/example/ped3/ped3/model/Position;" u_from_a0) (F_to_a0 : Fld Z h0 a0 "com/example/ped3/ped3/model/Wall" "to" "Lcom/example/ped3/ped3/model/Position;" u_to_a0) (g_a0 : n0 ≤ a0) :
    MetFree l (⟨"com/example/ped3/ped3/model/Wall", "<init>", "(Lcom/example/ped3/ped3/model/Position;Lcom/example/ped3/ped3/model/Position;)V"⟩ : MethodName) (head1 (Jvm.Cond.code (⟨"com/example/ped3/ped3/model/Wall", "<init>", "(Lcom/example/ped3/ped3/model/Position;Lcom/example/ped3/ped3/model/Position;)V"⟩ : MethodName) prog_13_method_1_code 3 none :: ws) ({ frames := 2, cells := 0, slots := 0, locals := 24 } : Room)) (fun a U => a = #[(.ref a0), (.ref a1), (.ref a2)] ∧ Z.Warmed39 U.vm ∧ U.heap = h0) (fun _ _ _ _ _ => True) (fun _ U o U' => ∃ v L, o = .returned v ∧ Q4 Z a0 a1 a2 u_from_a0 u_to_a0 h0 n0 v U'.heap L ∧ FrameEnd U o U' L ({ frames := 2, cells := 0, slots := 0, locals := 24 } : Room).cells ({ frames := 2, cells := 0, slots := 0, locals := 24 } : Room).slots) := by
  refine MetFree.of_bodySF (plainFor_of_name pn_4) hisR ?_
  intro p e s m args below meth c s₁ Bd hml0 hP hK
  obtain ⟨rfl, hZ, hh⟩ := hP
  have hx := Bd.exec
  have hby := Bd.bytes
  have hml : c.maxLocals = 3 := hml0
  have hown : s.vm.findClass "com/example/ped3/ped3/model/Wall" = some m.cls := findClass_of_methodNamed Bd.named
  have hnm := (name_of_methodNamed Bd.named Bd.method).1
  have X0 : Stand p l e ({ frames := 2, cells := 0, slots := 0, locals := 24 } : Room) s m #[(.ref a0), (.ref a1), (.ref a2)] below meth c s₁ [] 0 0 := Stand.of_body Bd
  have e0 : s₁.heap = h0 := by rw [← hh, Bd.state]; rfl
  have N0 := Fr.nil n0
  have pre0 : ∀ t, Steps p.tables e below (s₁.setTop (mkF m 0 #[.val (.ref a0), .val (.ref a1), .val (.ref a2)] [])) t → Steps p.tables e below (s₁.setTop (entryFrame m #[(.ref a0), (.ref a1), (.ref a2)] 3)) t := fun t k => castTop (ef_4 m a0 a1 a2) k
  obtain ⟨_, _, ⟨T1, L1, k1, n1⟩, -, X1, ⟨Lc1, hQ1, l1, y1, z1'⟩, st1⟩ := X0.specialBack hx (y := (⟨"java/lang/Record", "<init>", "()V"⟩ : MethodName)) rfl hown (mvT hZ (hw _ (List.mem_of_getElem? (i := 25) rfl))) (mvT hZ (hw _ (List.mem_of_getElem? (i := 11) rfl))) (mvT hZ (hw _ (List.mem_of_getElem? (i := 14) rfl))) (by decide) (backOf (W := 0) (rm2 l Z aw hw [] a0 h0 n0 Z0 ) hZ (hw _ (List.mem_of_getElem? (i := 14) rfl)) (hw _ (List.mem_of_getElem? (i := 13) rfl)) (by decide) (by decide)) (g := (mkF m 1 #[.val (.ref a0), .val (.ref a1), .val (.ref a2)] [(.ref a0)])) rfl (by rw [hml]; rfl) (Steps.refl _) (a := a0) (argsL := []) (rest := []) (lenOf pd_0 rfl) rfl (by show 2 * 0 + _ ≤ _; exact Nat.le_of_eq rfl) (hb hby d4_1) (fun _ _ => ⟨rfl, e0, (by decide : 0 + 0 ≤ _), (by decide : 0 + 0 ≤ _)⟩)
  dsimp only [Pt.U, Pt.locs, Pt.cells, Pt.slots] at X1 l1 y1 z1' st1 hQ1
  subst l1 y1 z1'
  obtain ⟨rfl, N1q, hq1⟩ := hQ1
  have f1_0 : Exa Z T1.heap a0 "com/example/ped3/ped3/model/Wall" := by rw [hq1]; exact F_is_a0
  have f1_1 : Fld Z T1.heap a0 "com/example/ped3/ped3/model/Wall" "from" "Lcom/example/ped3/ped3/model/Position;" u_from_a0 := by rw [hq1]; exact F_from_a0
  have f1_2 : Fld Z T1.heap a0 "com/example/ped3/ped3/model/Wall" "to" "Lcom/example/ped3/ped3/model/Position;" u_to_a0 := by rw [hq1]; exact F_to_a0
  have z1 : n0 ≤ T1.heap.size := by rw [hq1]; exact Z0
  have K1 : Keep h0 T1.heap [a0] := by rw [hq1]; exact (Keep.refl h0 [a0])
  have N1 := Fr.app N0 N1q
  obtain ⟨T2, h2, X2, e2, W2, st2⟩ := putF X1 hx hZ hown (host := "") (Or.inl (hw _ (List.mem_of_getElem? (i := 26) rfl))) Via.refl rfl f1_1 f1_0 (Or.inr ⟨(hw _ (List.mem_of_getElem? (i := 27) rfl)), rfl, hnm⟩) (hw _ (List.mem_of_getElem? (i := 2) rfl)) (ty := (.object "com/example/ped3/ped3/model/Position")) (by decide) rfl rfl (g := (mkF m 6 #[.val (.ref a0), .val (.ref a1), .val (.ref a2)] [(.ref a1), (.ref a0)])) rfl rfl (hb hby d4_6)
  have f2_0 : Exa Z h2 a0 "com/example/ped3/ped3/model/Wall" := f1_0.wr W2
  have f2_1 : Fld Z h2 a0 "com/example/ped3/ped3/model/Wall" "from" "Lcom/example/ped3/ped3/model/Position;" (.ref a1) := f1_1.same W2
  have f2_2 : Fld Z h2 a0 "com/example/ped3/ped3/model/Wall" "to" "Lcom/example/ped3/ped3/model/Position;" u_to_a0 := f1_2.other W2 (Or.inr (slot_ne (Or.inr (hw _ (List.mem_of_getElem? (i := 29) rfl))) (Or.inr (hw _ (List.mem_of_getElem? (i := 27) rfl))) (by decide) (t := (.object "com/example/ped3/ped3/model/Position")) (t' := (.object "com/example/ped3/ped3/model/Position")) (by decide) (by decide)))
  have K2 : Keep h0 h2 [a0] := K1.wr W2 (Or.inl (List.mem_of_getElem? (i := 0) rfl))
  have N2 := Fr.snoc X2 N1 g_a0
  have z2 : n0 ≤ h2.size := Nat.le_trans z1 (Keep.of_wr W2).1
  obtain ⟨T3, h3, X3, e3, W3, st3⟩ := putF X2 hx hZ hown (host := "") (Or.inl (hw _ (List.mem_of_getElem? (i := 28) rfl))) Via.refl e2 f2_2 f2_0 (Or.inr ⟨(hw _ (List.mem_of_getElem? (i := 29) rfl)), rfl, hnm⟩) (hw _ (List.mem_of_getElem? (i := 2) rfl)) (ty := (.object "com/example/ped3/ped3/model/Position")) (by decide) rfl rfl (g := (mkF m 11 #[.val (.ref a0), .val (.ref a1), .val (.ref a2)] [(.ref a2), (.ref a0)])) rfl rfl (hb hby d4_11)
  have f3_0 : Exa Z h3 a0 "com/example/ped3/ped3/model/Wall" := f2_0.wr W3
  have f3_1 : Fld Z h3 a0 "com/example/ped3/ped3/model/Wall" "from" "Lcom/example/ped3/ped3/model/Position;" (.ref a1) := f2_1.other W3 (Or.inr (slot_ne (Or.inr (hw _ (List.mem_of_getElem? (i := 27) rfl))) (Or.inr (hw _ (List.mem_of_getElem? (i := 29) rfl))) (by decide) (t := (.object "com/example/ped3/ped3/model/Position")) (t' := (.object "com/example/ped3/ped3/model/Position")) (by decide) (by decide)))
  have f3_2 : Fld Z h3 a0 "com/example/ped3/ped3/model/Wall" "to" "Lcom/example/ped3/ped3/model/Position;" (.ref a2) := f2_2.same W3
  have K3 : Keep h0 h3 [a0] := K2.wr W3 (Or.inl (List.mem_of_getElem? (i := 0) rfl))
  have N3 := Fr.snoc X3 N2 g_a0
  have z3 : n0 ≤ h3.size := Nat.le_trans z2 (Keep.of_wr W3).1
  obtain ⟨fs, hr, hrun, hended, hW, hsame⟩ := X3.leave (v := none) (fun _ => rfl)
  refine ⟨_, _, pre0 _ ?_, hrun, hended, _, _, rfl, ?_, ⟨_, rfl⟩, hW, hsame.mono (by decide) (by decide)⟩
  · show Steps p.tables e below (s₁.setTop (mkF m 0 #[.val (.ref a0), .val (.ref a1), .val (.ref a2)] [])) _
    refine XS.aloadN X0.here hx rfl (hb hby d4_0) rfl rfl ?_
    show Steps p.tables e below (s₁.setTop (mkF m 1 #[.val (.ref a0), .val (.ref a1), .val (.ref a2)] [(.ref a0)])) _
    refine st1.trans ?_
    show Steps p.tables e below (T1.setTop (mkF m 4 #[.val (.ref a0), .val (.ref a1), .val (.ref a2)] [])) _
    refine XS.aloadN X1.here hx rfl (hb hby d4_4) rfl rfl ?_
    show Steps p.tables e below (T1.setTop (mkF m 5 #[.val (.ref a0), .val (.ref a1), .val (.ref a2)] [(.ref a0)])) _
    refine XS.aloadN X1.here hx rfl (hb hby d4_5) rfl rfl ?_
    show Steps p.tables e below (T1.setTop (mkF m 6 #[.val (.ref a0), .val (.ref a1), .val (.ref a2)] [(.ref a1), (.ref a0)])) _
    refine st2 _ ?_
    show Steps p.tables e below (T2.setTop (mkF m 9 #[.val (.ref a0), .val (.ref a1), .val (.ref a2)] [])) _
    refine XS.aloadN X2.here hx rfl (hb hby d4_9) rfl rfl ?_
    show Steps p.tables e below (T2.setTop (mkF m 10 #[.val (.ref a0), .val (.ref a1), .val (.ref a2)] [(.ref a0)])) _
    refine XS.aloadN X2.here hx rfl (hb hby d4_10) rfl rfl ?_
    show Steps p.tables e below (T2.setTop (mkF m 11 #[.val (.ref a0), .val (.ref a1), .val (.ref a2)] [(.ref a2), (.ref a0)])) _
    refine st3 _ ?_
    show Steps p.tables e below (T3.setTop (mkF m 14 #[.val (.ref a0), .val (.ref a1), .val (.ref a2)] [])) _
    exact X3.returnOut hx Bd.returns (hb hby d4_14) hr
  · show Q4 Z a0 a1 a2 u_from_a0 u_to_a0 h0 n0 _ T3.heap _
    rw [e3]
    exact ⟨rfl, N3, K3, f3_0, f3_1, f3_2⟩
theorem d6_0 : decode prog_12_method_5_code 0 = .ok (.aload_n 0, 1) := by decide +kernel
theorem d6_1 : decode prog_12_method_5_code 1 = .ok (.getfield 7, 3) := by decide +kernel
theorem d6_4 : decode prog_12_method_5_code 4 = .ok (.dreturn, 1) := by decide +kernel
theorem ef_6 (m : MethodId) (a0 : Addr) : entryFrame m #[(.ref a0)] 1 = mkF m 0 #[.val (.ref a0)] [] := by first | (simp [entryFrame, mkF, argsToLocals, Value.category]; done) | rfl
def Q6 (Z : State) (a0 : Addr) (w_x_a0 : UInt64) (h0 : Heap) (n0 : Nat) (v : Option Value) (h : Heap) (L : List Loc) : Prop := v = some (.double w_x_a0) ∧ Fr n0 L ∧ h = h0
set_option maxRecDepth 65536 in
set_option maxHeartbeats 40000000 in
theorem rm6 (l : Launch) (Z : State) (aw : Array Value) (hw : ∀ d ∈ tables_1, d.before aw Z = true) (ws : List Jvm.Cond) (a0 : Addr) (w_x_a0 : UInt64) (h0 : Heap) (n0 : Nat) (Z0 : n0 ≤ h0.size) (F_x_a0 : Fld Z h0 a0 "com/example/ped3/ped3/model/Position" "x" "D" (.double w_x_a0)) :
    MetFree l (⟨"com/example/ped3/ped3/model/Position", "x", "()D"⟩ : MethodName) (head1 (Jvm.Cond.code (⟨"com/example/ped3/ped3/model/Position", "x", "()D"⟩ : MethodName) prog_12_method_5_code 1 (some .double) :: ws) ({ frames := 0, cells := 0, slots := 0, locals := 0 } : Room)) (fun a U => a = #[(.ref a0)] ∧ Z.Warmed39 U.vm ∧ U.heap = h0) (fun _ _ _ _ _ => True) (fun _ U o U' => ∃ v L, o = .returned v ∧ Q6 Z a0 w_x_a0 h0 n0 v U'.heap L ∧ FrameEnd U o U' L ({ frames := 0, cells := 0, slots := 0, locals := 0 } : Room).cells ({ frames := 0, cells := 0, slots := 0, locals := 0 } : Room).slots) := by
  refine MetFree.of_bodySF (plainFor_of_name pn_1) hisR ?_
  intro p e s m args below meth c s₁ Bd hml0 hP hK
  obtain ⟨rfl, hZ, hh⟩ := hP
  have hx := Bd.exec
  have hby := Bd.bytes
  have hml : c.maxLocals = 1 := hml0
  have hown : s.vm.findClass "com/example/ped3/ped3/model/Position" = some m.cls := findClass_of_methodNamed Bd.named
  have hnm := (name_of_methodNamed Bd.named Bd.method).1
  have X0 : Stand p l e ({ frames := 0, cells := 0, slots := 0, locals := 0 } : Room) s m #[(.ref a0)] below meth c s₁ [] 0 0 := Stand.of_body Bd
  have e0 : s₁.heap = h0 := by rw [← hh, Bd.state]; rfl
  have N0 := Fr.nil n0
  have pre0 : ∀ t, Steps p.tables e below (s₁.setTop (mkF m 0 #[.val (.ref a0)] [])) t → Steps p.tables e below (s₁.setTop (entryFrame m #[(.ref a0)] 1)) t := fun t k => castTop (ef_6 m a0) k
  obtain ⟨T1, X1, e1, st1⟩ := getF X0 hx hZ hown (host := "") (Or.inl (hw _ (List.mem_of_getElem? (i := 18) rfl))) Via.refl e0 F_x_a0 (g := (mkF m 1 #[.val (.ref a0)] [(.ref a0)])) rfl rfl (hb hby d6_1)
  obtain ⟨fs, hr, hrun, hended, hW, hsame⟩ := X1.leave (v := some (.double w_x_a0)) (fun h => by rw [Bd.returns] at h; cases h)
  refine ⟨_, _, pre0 _ ?_, hrun, hended, _, _, rfl, ?_, ⟨_, rfl⟩, hW, hsame.mono (by decide) (by decide)⟩
  · show Steps p.tables e below (s₁.setTop (mkF m 0 #[.val (.ref a0)] [])) _
    refine XS.aloadN X0.here hx rfl (hb hby d6_0) rfl rfl ?_
    show Steps p.tables e below (s₁.setTop (mkF m 1 #[.val (.ref a0)] [(.ref a0)])) _
    refine st1 _ ?_
    show Steps p.tables e below (T1.setTop (mkF m 4 #[.val (.ref a0)] [(.double w_x_a0)])) _
    exact retD X1 hx Bd.returns (hb hby d6_4) hr
  · show Q6 Z a0 w_x_a0 h0 n0 _ T1.heap _
    rw [e1]
    exact ⟨rfl, N0, rfl⟩
theorem d7_0 : decode prog_12_method_6_code 0 = .ok (.aload_n 0, 1) := by decide +kernel
theorem d7_1 : decode prog_12_method_6_code 1 = .ok (.getfield 13, 3) := by decide +kernel
theorem d7_4 : decode prog_12_method_6_code 4 = .ok (.dreturn, 1) := by decide +kernel
theorem ef_7 (m : MethodId) (a0 : Addr) : entryFrame m #[(.ref a0)] 1 = mkF m 0 #[.val (.ref a0)] [] := by first | (simp [entryFrame, mkF, argsToLocals, Value.category]; done) | rfl
def Q7 (Z : State) (a0 : Addr) (w_y_a0 : UInt64) (h0 : Heap) (n0 : Nat) (v : Option Value) (h : Heap) (L : List Loc) : Prop := v = some (.double w_y_a0) ∧ Fr n0 L ∧ h = h0
set_option maxRecDepth 65536 in
set_option maxHeartbeats 40000000 in
theorem rm7 (l : Launch) (Z : State) (aw : Array Value) (hw : ∀ d ∈ tables_1, d.before aw Z = true) (ws : List Jvm.Cond) (a0 : Addr) (w_y_a0 : UInt64) (h0 : Heap) (n0 : Nat) (Z0 : n0 ≤ h0.size) (F_y_a0 : Fld Z h0 a0 "com/example/ped3/ped3/model/Position" "y" "D" (.double w_y_a0)) :
    MetFree l (⟨"com/example/ped3/ped3/model/Position", "y", "()D"⟩ : MethodName) (head1 (Jvm.Cond.code (⟨"com/example/ped3/ped3/model/Position", "y", "()D"⟩ : MethodName) prog_12_method_6_code 1 (some .double) :: ws) ({ frames := 0, cells := 0, slots := 0, locals := 0 } : Room)) (fun a U => a = #[(.ref a0)] ∧ Z.Warmed39 U.vm ∧ U.heap = h0) (fun _ _ _ _ _ => True) (fun _ U o U' => ∃ v L, o = .returned v ∧ Q7 Z a0 w_y_a0 h0 n0 v U'.heap L ∧ FrameEnd U o U' L ({ frames := 0, cells := 0, slots := 0, locals := 0 } : Room).cells ({ frames := 0, cells := 0, slots := 0, locals := 0 } : Room).slots) := by
  refine MetFree.of_bodySF (plainFor_of_name pn_1) hisR ?_
  intro p e s m args below meth c s₁ Bd hml0 hP hK
  obtain ⟨rfl, hZ, hh⟩ := hP
  have hx := Bd.exec
  have hby := Bd.bytes
  have hml : c.maxLocals = 1 := hml0
  have hown : s.vm.findClass "com/example/ped3/ped3/model/Position" = some m.cls := findClass_of_methodNamed Bd.named
  have hnm := (name_of_methodNamed Bd.named Bd.method).1
  have X0 : Stand p l e ({ frames := 0, cells := 0, slots := 0, locals := 0 } : Room) s m #[(.ref a0)] below meth c s₁ [] 0 0 := Stand.of_body Bd
  have e0 : s₁.heap = h0 := by rw [← hh, Bd.state]; rfl
  have N0 := Fr.nil n0
  have pre0 : ∀ t, Steps p.tables e below (s₁.setTop (mkF m 0 #[.val (.ref a0)] [])) t → Steps p.tables e below (s₁.setTop (entryFrame m #[(.ref a0)] 1)) t := fun t k => castTop (ef_7 m a0) k
  obtain ⟨T1, X1, e1, st1⟩ := getF X0 hx hZ hown (host := "") (Or.inl (hw _ (List.mem_of_getElem? (i := 20) rfl))) Via.refl e0 F_y_a0 (g := (mkF m 1 #[.val (.ref a0)] [(.ref a0)])) rfl rfl (hb hby d7_1)
  obtain ⟨fs, hr, hrun, hended, hW, hsame⟩ := X1.leave (v := some (.double w_y_a0)) (fun h => by rw [Bd.returns] at h; cases h)
  refine ⟨_, _, pre0 _ ?_, hrun, hended, _, _, rfl, ?_, ⟨_, rfl⟩, hW, hsame.mono (by decide) (by decide)⟩
  · show Steps p.tables e below (s₁.setTop (mkF m 0 #[.val (.ref a0)] [])) _
    refine XS.aloadN X0.here hx rfl (hb hby d7_0) rfl rfl ?_
    show Steps p.tables e below (s₁.setTop (mkF m 1 #[.val (.ref a0)] [(.ref a0)])) _
    refine st1 _ ?_
    show Steps p.tables e below (T1.setTop (mkF m 4 #[.val (.ref a0)] [(.double w_y_a0)])) _
    exact retD X1 hx Bd.returns (hb hby d7_4) hr
  · show Q7 Z a0 w_y_a0 h0 n0 _ T1.heap _
    rw [e1]
    exact ⟨rfl, N0, rfl⟩
theorem d5_0 : decode prog_13_method_3_code 0 = .ok (.aload_n 0, 1) := by decide +kernel
theorem d5_1 : decode prog_13_method_3_code 1 = .ok (.getfield 13, 3) := by decide +kernel
theorem d5_4 : decode prog_13_method_3_code 4 = .ok (.invokevirtual 16, 3) := by decide +kernel
theorem d5_7 : decode prog_13_method_3_code 7 = .ok (.aload_n 0, 1) := by decide +kernel
theorem d5_8 : decode prog_13_method_3_code 8 = .ok (.getfield 7, 3) := by decide +kernel
theorem d5_11 : decode prog_13_method_3_code 11 = .ok (.invokevirtual 16, 3) := by decide +kernel
theorem d5_14 : decode prog_13_method_3_code 14 = .ok (.dsub, 1) := by decide +kernel
theorem d5_15 : decode prog_13_method_3_code 15 = .ok (.dstore 5, 2) := by decide +kernel
theorem d5_17 : decode prog_13_method_3_code 17 = .ok (.aload_n 0, 1) := by decide +kernel
theorem d5_18 : decode prog_13_method_3_code 18 = .ok (.getfield 13, 3) := by decide +kernel
theorem d5_21 : decode prog_13_method_3_code 21 = .ok (.invokevirtual 22, 3) := by decide +kernel
theorem d5_24 : decode prog_13_method_3_code 24 = .ok (.aload_n 0, 1) := by decide +kernel
theorem d5_25 : decode prog_13_method_3_code 25 = .ok (.getfield 7, 3) := by decide +kernel
theorem d5_28 : decode prog_13_method_3_code 28 = .ok (.invokevirtual 22, 3) := by decide +kernel
theorem d5_31 : decode prog_13_method_3_code 31 = .ok (.dsub, 1) := by decide +kernel
theorem d5_32 : decode prog_13_method_3_code 32 = .ok (.dstore 7, 2) := by decide +kernel
theorem d5_34 : decode prog_13_method_3_code 34 = .ok (.dload 5, 2) := by decide +kernel
theorem d5_36 : decode prog_13_method_3_code 36 = .ok (.dload_n 3, 1) := by decide +kernel
theorem d5_37 : decode prog_13_method_3_code 37 = .ok (.aload_n 0, 1) := by decide +kernel
theorem d5_38 : decode prog_13_method_3_code 38 = .ok (.getfield 7, 3) := by decide +kernel
theorem d5_41 : decode prog_13_method_3_code 41 = .ok (.invokevirtual 22, 3) := by decide +kernel
theorem d5_44 : decode prog_13_method_3_code 44 = .ok (.dsub, 1) := by decide +kernel
theorem d5_45 : decode prog_13_method_3_code 45 = .ok (.dmul, 1) := by decide +kernel
theorem d5_46 : decode prog_13_method_3_code 46 = .ok (.dload 7, 2) := by decide +kernel
theorem d5_48 : decode prog_13_method_3_code 48 = .ok (.dload_n 1, 1) := by decide +kernel
theorem d5_49 : decode prog_13_method_3_code 49 = .ok (.aload_n 0, 1) := by decide +kernel
theorem d5_50 : decode prog_13_method_3_code 50 = .ok (.getfield 7, 3) := by decide +kernel
theorem d5_53 : decode prog_13_method_3_code 53 = .ok (.invokevirtual 16, 3) := by decide +kernel
theorem d5_56 : decode prog_13_method_3_code 56 = .ok (.dsub, 1) := by decide +kernel
theorem d5_57 : decode prog_13_method_3_code 57 = .ok (.dmul, 1) := by decide +kernel
theorem d5_58 : decode prog_13_method_3_code 58 = .ok (.dsub, 1) := by decide +kernel
theorem d5_59 : decode prog_13_method_3_code 59 = .ok (.dconst 0, 1) := by decide +kernel
theorem d5_60 : decode prog_13_method_3_code 60 = .ok (.dcmp .l, 1) := by decide +kernel
theorem d5_61 : decode prog_13_method_3_code 61 = .ok (.ifCond .lt 7, 3) := by decide +kernel
theorem d5_64 : decode prog_13_method_3_code 64 = .ok (.iconst 1, 1) := by decide +kernel
theorem d5_65 : decode prog_13_method_3_code 65 = .ok (.goto 4, 3) := by decide +kernel
theorem d5_68 : decode prog_13_method_3_code 68 = .ok (.iconst 0, 1) := by decide +kernel
theorem d5_69 : decode prog_13_method_3_code 69 = .ok (.ireturn, 1) := by decide +kernel
theorem ef_5 (m : MethodId) (a0 : Addr) (d1 : UInt64) (d2 : UInt64) : entryFrame m #[(.ref a0), (.double d1), (.double d2)] 9 = mkF m 0 #[.val (.ref a0), .val (.double d1), .second, .val (.double d2), .second, .unset, .unset, .unset, .unset] [] := by first | (simp [entryFrame, mkF, argsToLocals, Value.category]; done) | rfl
def Q5 (Z : State) (a0 : Addr) (d1 : UInt64) (d2 : UInt64) (w_from_a0 : Addr) (w_x_w_from_a0 : UInt64) (w_to_a0 : Addr) (w_y_w_to_a0 : UInt64) (w_y_w_from_a0 : UInt64) (w_x_w_to_a0 : UInt64) (h0 : Heap) (n0 : Nat) (v : Option Value) (h : Heap) (L : List Loc) : Prop := v = some (.int (nar .boolean (j5_61_s0 d1 d2 w_x_w_from_a0 w_y_w_to_a0 w_y_w_from_a0 w_x_w_to_a0))) ∧ Fr n0 L ∧ h = h0
set_option maxRecDepth 65536 in
set_option maxHeartbeats 40000000 in
theorem rm5 (l : Launch) (Z : State) (aw : Array Value) (hw : ∀ d ∈ tables_1, d.before aw Z = true) (ws : List Jvm.Cond) (a0 : Addr) (d1 : UInt64) (d2 : UInt64) (w_from_a0 : Addr) (w_x_w_from_a0 : UInt64) (w_to_a0 : Addr) (w_y_w_to_a0 : UInt64) (w_y_w_from_a0 : UInt64) (w_x_w_to_a0 : UInt64) (h0 : Heap) (n0 : Nat) (Z0 : n0 ≤ h0.size) (F_from_a0 : Fld Z h0 a0 "com/example/ped3/ped3/model/Wall" "from" "Lcom/example/ped3/ped3/model/Position;" (.ref w_from_a0)) (F_x_w_from_a0 : Fld Z h0 w_from_a0 "com/example/ped3/ped3/model/Position" "x" "D" (.double w_x_w_from_a0)) (F_is_w_from_a0 : Exa Z h0 w_from_a0 "com/example/ped3/ped3/model/Position") (F_to_a0 : Fld Z h0 a0 "com/example/ped3/ped3/model/Wall" "to" "Lcom/example/ped3/ped3/model/Position;" (.ref w_to_a0)) (F_y_w_to_a0 : Fld Z h0 w_to_a0 "com/example/ped3/ped3/model/Position" "y" "D" (.double w_y_w_to_a0)) (F_y_w_from_a0 : Fld Z h0 w_from_a0 "com/example/ped3/ped3/model/Position" "y" "D" (.double w_y_w_from_a0)) (F_x_w_to_a0 : Fld Z h0 w_to_a0 "com/example/ped3/ped3/model/Position" "x" "D" (.double w_x_w_to_a0)) (F_is_w_to_a0 : Exa Z h0 w_to_a0 "com/example/ped3/ped3/model/Position") (hn14 : Jvm.Free.Fl.NoNaN64 (FP.dsub w_x_w_to_a0 w_x_w_from_a0)) (hn31 : Jvm.Free.Fl.NoNaN64 (FP.dsub w_y_w_to_a0 w_y_w_from_a0)) (hn44 : Jvm.Free.Fl.NoNaN64 (FP.dsub d2 w_y_w_from_a0)) (hn45 : Jvm.Free.Fl.NoNaN64 (FP.dmul (v5_15 d1 d2 w_x_w_from_a0 w_y_w_to_a0 w_y_w_from_a0 w_x_w_to_a0) (FP.dsub d2 w_y_w_from_a0))) (hn56 : Jvm.Free.Fl.NoNaN64 (FP.dsub d1 w_x_w_from_a0)) (hn57 : Jvm.Free.Fl.NoNaN64 (FP.dmul (v5_32 d1 d2 w_x_w_from_a0 w_y_w_to_a0 w_y_w_from_a0 w_x_w_to_a0) (FP.dsub d1 w_x_w_from_a0))) (hn58 : Jvm.Free.Fl.NoNaN64 (FP.dsub (FP.dmul (v5_15 d1 d2 w_x_w_from_a0 w_y_w_to_a0 w_y_w_from_a0 w_x_w_to_a0) (FP.dsub d2 w_y_w_from_a0)) (FP.dmul (v5_32 d1 d2 w_x_w_from_a0 w_y_w_to_a0 w_y_w_from_a0 w_x_w_to_a0) (FP.dsub d1 w_x_w_from_a0)))) :
    MetFree l (⟨"com/example/ped3/ped3/model/Wall", "faces", "(DD)Z"⟩ : MethodName) (head1 (Jvm.Cond.code (⟨"com/example/ped3/ped3/model/Wall", "faces", "(DD)Z"⟩ : MethodName) prog_13_method_3_code 9 (some .boolean) :: ws) ({ frames := 1, cells := 0, slots := 0, locals := 18 } : Room)) (fun a U => a = #[(.ref a0), (.double d1), (.double d2)] ∧ Z.Warmed39 U.vm ∧ U.heap = h0) (fun _ _ _ _ _ => True) (fun _ U o U' => ∃ v L, o = .returned v ∧ Q5 Z a0 d1 d2 w_from_a0 w_x_w_from_a0 w_to_a0 w_y_w_to_a0 w_y_w_from_a0 w_x_w_to_a0 h0 n0 v U'.heap L ∧ FrameEnd U o U' L ({ frames := 1, cells := 0, slots := 0, locals := 18 } : Room).cells ({ frames := 1, cells := 0, slots := 0, locals := 18 } : Room).slots) := by
  refine MetFree.of_bodySF (plainFor_of_name pn_4) hisR ?_
  intro p e s m args below meth c s₁ Bd hml0 hP hK
  obtain ⟨rfl, hZ, hh⟩ := hP
  have hx := Bd.exec
  have hby := Bd.bytes
  have hml : c.maxLocals = 9 := hml0
  have hown : s.vm.findClass "com/example/ped3/ped3/model/Wall" = some m.cls := findClass_of_methodNamed Bd.named
  have hnm := (name_of_methodNamed Bd.named Bd.method).1
  have X0 : Stand p l e ({ frames := 1, cells := 0, slots := 0, locals := 18 } : Room) s m #[(.ref a0), (.double d1), (.double d2)] below meth c s₁ [] 0 0 := Stand.of_body Bd
  have e0 : s₁.heap = h0 := by rw [← hh, Bd.state]; rfl
  have N0 := Fr.nil n0
  have pre0 : ∀ t, Steps p.tables e below (s₁.setTop (mkF m 0 #[.val (.ref a0), .val (.double d1), .second, .val (.double d2), .second, .unset, .unset, .unset, .unset] [])) t → Steps p.tables e below (s₁.setTop (entryFrame m #[(.ref a0), (.double d1), (.double d2)] 9)) t := fun t k => castTop (ef_5 m a0 d1 d2) k
  obtain ⟨T1, X1, e1, st1⟩ := getF X0 hx hZ hown (host := "") (Or.inl (hw _ (List.mem_of_getElem? (i := 28) rfl))) Via.refl e0 F_to_a0 (g := (mkF m 1 #[.val (.ref a0), .val (.double d1), .second, .val (.double d2), .second, .unset, .unset, .unset, .unset] [(.ref a0)])) rfl rfl (hb hby d5_1)
  obtain ⟨cq2, kq2, q2a, q2b, q2c⟩ := isOf hZ e1 F_is_w_to_a0
  obtain ⟨_, _, ⟨T2, L2, k2, n2⟩, -, X2, ⟨Lc2, hQ2, l2, y2, z2'⟩, st2⟩ := X1.virtualBack hx (y := (⟨"com/example/ped3/ped3/model/Position", "x", "()D"⟩ : MethodName)) (z := (⟨"com/example/ped3/ped3/model/Position", "x", "()D"⟩ : MethodName)) hown (mvT hZ (hw _ (List.mem_of_getElem? (i := 35) rfl))) (mvT hZ (hw _ (List.mem_of_getElem? (i := 36) rfl))) (notFace_of_selects (args := #[]) (mvT hZ (hw _ (List.mem_of_getElem? (i := 38) rfl)))) (mvT hZ (hw _ (List.mem_of_getElem? (i := 38) rfl))) (mvT hZ (hw _ (List.mem_of_getElem? (i := 37) rfl))) (by decide) (backOf (W := 0) (rm6 l Z aw hw [] w_to_a0 w_x_w_to_a0 h0 n0 Z0 F_x_w_to_a0) hZ (hw _ (List.mem_of_getElem? (i := 39) rfl)) (hw _ (List.mem_of_getElem? (i := 6) rfl)) (by decide) (by decide)) q2a q2c (g := (mkF m 4 #[.val (.ref a0), .val (.double d1), .second, .val (.double d2), .second, .unset, .unset, .unset, .unset] [(.ref w_to_a0)])) rfl (by rw [hml]; rfl) (Steps.refl _) (argsL := []) (rest := []) (lenOf pd_1 rfl) rfl (by show 2 * 0 + _ ≤ _; exact Nat.le_of_eq rfl) (hb hby d5_4) (fun _ _ => ⟨rfl, e1, (by decide : 0 + 0 ≤ _), (by decide : 0 + 0 ≤ _)⟩)
  dsimp only [Pt.U, Pt.locs, Pt.cells, Pt.slots] at X2 l2 y2 z2' st2 hQ2
  subst l2 y2 z2'
  obtain ⟨rfl, N2q, hq2⟩ := hQ2
  have f2_0 : Fld Z T2.heap a0 "com/example/ped3/ped3/model/Wall" "from" "Lcom/example/ped3/ped3/model/Position;" (.ref w_from_a0) := by rw [hq2]; exact F_from_a0
  have f2_1 : Fld Z T2.heap w_from_a0 "com/example/ped3/ped3/model/Position" "x" "D" (.double w_x_w_from_a0) := by rw [hq2]; exact F_x_w_from_a0
  have f2_2 : Exa Z T2.heap w_from_a0 "com/example/ped3/ped3/model/Position" := by rw [hq2]; exact F_is_w_from_a0
  have f2_3 : Fld Z T2.heap a0 "com/example/ped3/ped3/model/Wall" "to" "Lcom/example/ped3/ped3/model/Position;" (.ref w_to_a0) := by rw [hq2]; exact F_to_a0
  have f2_4 : Fld Z T2.heap w_to_a0 "com/example/ped3/ped3/model/Position" "y" "D" (.double w_y_w_to_a0) := by rw [hq2]; exact F_y_w_to_a0
  have f2_5 : Fld Z T2.heap w_from_a0 "com/example/ped3/ped3/model/Position" "y" "D" (.double w_y_w_from_a0) := by rw [hq2]; exact F_y_w_from_a0
  have f2_6 : Fld Z T2.heap w_to_a0 "com/example/ped3/ped3/model/Position" "x" "D" (.double w_x_w_to_a0) := by rw [hq2]; exact F_x_w_to_a0
  have f2_7 : Exa Z T2.heap w_to_a0 "com/example/ped3/ped3/model/Position" := by rw [hq2]; exact F_is_w_to_a0
  have z2 : n0 ≤ T2.heap.size := by rw [hq2]; exact Z0
  have K2 : Keep h0 T2.heap [a0] := by rw [hq2]; exact (Keep.refl h0 [a0])
  have N2 := Fr.app N0 N2q
  obtain ⟨T3, X3, e3, st3⟩ := getF X2 hx hZ hown (host := "") (Or.inl (hw _ (List.mem_of_getElem? (i := 26) rfl))) Via.refl rfl f2_0 (g := (mkF m 8 #[.val (.ref a0), .val (.double d1), .second, .val (.double d2), .second, .unset, .unset, .unset, .unset] [(.ref a0), (.double w_x_w_to_a0)])) rfl rfl (hb hby d5_8)
  obtain ⟨cq4, kq4, q4a, q4b, q4c⟩ := isOf hZ e3 f2_2
  obtain ⟨_, _, ⟨T4, L4, k4, n4⟩, -, X4, ⟨Lc4, hQ4, l4, y4, z4'⟩, st4⟩ := X3.virtualBack hx (y := (⟨"com/example/ped3/ped3/model/Position", "x", "()D"⟩ : MethodName)) (z := (⟨"com/example/ped3/ped3/model/Position", "x", "()D"⟩ : MethodName)) hown (mvT hZ (hw _ (List.mem_of_getElem? (i := 35) rfl))) (mvT hZ (hw _ (List.mem_of_getElem? (i := 36) rfl))) (notFace_of_selects (args := #[]) (mvT hZ (hw _ (List.mem_of_getElem? (i := 38) rfl)))) (mvT hZ (hw _ (List.mem_of_getElem? (i := 38) rfl))) (mvT hZ (hw _ (List.mem_of_getElem? (i := 37) rfl))) (by decide) (backOf (W := 2) (rm6 l Z aw hw [] w_from_a0 w_x_w_from_a0 T2.heap n0 z2 f2_1) hZ (hw _ (List.mem_of_getElem? (i := 39) rfl)) (hw _ (List.mem_of_getElem? (i := 6) rfl)) (by decide) (by decide)) q4a q4c (g := (mkF m 11 #[.val (.ref a0), .val (.double d1), .second, .val (.double d2), .second, .unset, .unset, .unset, .unset] [(.ref w_from_a0), (.double w_x_w_to_a0)])) rfl (by rw [hml]; rfl) (Steps.refl _) (argsL := []) (rest := [(.double w_x_w_to_a0)]) (lenOf pd_1 rfl) rfl (by show 2 * 0 + _ ≤ _; exact Nat.le_of_eq rfl) (hb hby d5_11) (fun _ _ => ⟨rfl, e3, (by decide : 0 + 0 ≤ _), (by decide : 0 + 0 ≤ _)⟩)
  dsimp only [Pt.U, Pt.locs, Pt.cells, Pt.slots] at X4 l4 y4 z4' st4 hQ4
  subst l4 y4 z4'
  obtain ⟨rfl, N4q, hq4⟩ := hQ4
  have f4_0 : Fld Z T4.heap a0 "com/example/ped3/ped3/model/Wall" "from" "Lcom/example/ped3/ped3/model/Position;" (.ref w_from_a0) := by rw [hq4]; exact f2_0
  have f4_1 : Fld Z T4.heap w_from_a0 "com/example/ped3/ped3/model/Position" "x" "D" (.double w_x_w_from_a0) := by rw [hq4]; exact f2_1
  have f4_2 : Exa Z T4.heap w_from_a0 "com/example/ped3/ped3/model/Position" := by rw [hq4]; exact f2_2
  have f4_3 : Fld Z T4.heap a0 "com/example/ped3/ped3/model/Wall" "to" "Lcom/example/ped3/ped3/model/Position;" (.ref w_to_a0) := by rw [hq4]; exact f2_3
  have f4_4 : Fld Z T4.heap w_to_a0 "com/example/ped3/ped3/model/Position" "y" "D" (.double w_y_w_to_a0) := by rw [hq4]; exact f2_4
  have f4_5 : Fld Z T4.heap w_from_a0 "com/example/ped3/ped3/model/Position" "y" "D" (.double w_y_w_from_a0) := by rw [hq4]; exact f2_5
  have f4_6 : Fld Z T4.heap w_to_a0 "com/example/ped3/ped3/model/Position" "x" "D" (.double w_x_w_to_a0) := by rw [hq4]; exact f2_6
  have f4_7 : Exa Z T4.heap w_to_a0 "com/example/ped3/ped3/model/Position" := by rw [hq4]; exact f2_7
  have z4 : n0 ≤ T4.heap.size := by rw [hq4]; exact z2
  have K4 : Keep h0 T4.heap [a0] := by rw [hq4]; exact K2
  have N4 := Fr.app N2 N4q
  obtain ⟨T5, X5, e5, st5⟩ := getF X4 hx hZ hown (host := "") (Or.inl (hw _ (List.mem_of_getElem? (i := 28) rfl))) Via.refl rfl f4_3 (g := (mkF m 18 #[.val (.ref a0), .val (.double d1), .second, .val (.double d2), .second, .val (.double (v5_15 d1 d2 w_x_w_from_a0 w_y_w_to_a0 w_y_w_from_a0 w_x_w_to_a0)), .second, .unset, .unset] [(.ref a0)])) rfl rfl (hb hby d5_18)
  obtain ⟨cq6, kq6, q6a, q6b, q6c⟩ := isOf hZ e5 f4_7
  obtain ⟨_, _, ⟨T6, L6, k6, n6⟩, -, X6, ⟨Lc6, hQ6, l6, y6, z6'⟩, st6⟩ := X5.virtualBack hx (y := (⟨"com/example/ped3/ped3/model/Position", "y", "()D"⟩ : MethodName)) (z := (⟨"com/example/ped3/ped3/model/Position", "y", "()D"⟩ : MethodName)) hown (mvT hZ (hw _ (List.mem_of_getElem? (i := 40) rfl))) (mvT hZ (hw _ (List.mem_of_getElem? (i := 41) rfl))) (notFace_of_selects (args := #[]) (mvT hZ (hw _ (List.mem_of_getElem? (i := 43) rfl)))) (mvT hZ (hw _ (List.mem_of_getElem? (i := 43) rfl))) (mvT hZ (hw _ (List.mem_of_getElem? (i := 42) rfl))) (by decide) (backOf (W := 0) (rm7 l Z aw hw [] w_to_a0 w_y_w_to_a0 T4.heap n0 z4 f4_4) hZ (hw _ (List.mem_of_getElem? (i := 44) rfl)) (hw _ (List.mem_of_getElem? (i := 6) rfl)) (by decide) (by decide)) q6a q6c (g := (mkF m 21 #[.val (.ref a0), .val (.double d1), .second, .val (.double d2), .second, .val (.double (v5_15 d1 d2 w_x_w_from_a0 w_y_w_to_a0 w_y_w_from_a0 w_x_w_to_a0)), .second, .unset, .unset] [(.ref w_to_a0)])) rfl (by rw [hml]; rfl) (Steps.refl _) (argsL := []) (rest := []) (lenOf pd_1 rfl) rfl (by show 2 * 0 + _ ≤ _; exact Nat.le_of_eq rfl) (hb hby d5_21) (fun _ _ => ⟨rfl, e5, (by decide : 0 + 0 ≤ _), (by decide : 0 + 0 ≤ _)⟩)
  dsimp only [Pt.U, Pt.locs, Pt.cells, Pt.slots] at X6 l6 y6 z6' st6 hQ6
  subst l6 y6 z6'
  obtain ⟨rfl, N6q, hq6⟩ := hQ6
  have f6_0 : Fld Z T6.heap a0 "com/example/ped3/ped3/model/Wall" "from" "Lcom/example/ped3/ped3/model/Position;" (.ref w_from_a0) := by rw [hq6]; exact f4_0
  have f6_1 : Fld Z T6.heap w_from_a0 "com/example/ped3/ped3/model/Position" "x" "D" (.double w_x_w_from_a0) := by rw [hq6]; exact f4_1
  have f6_2 : Exa Z T6.heap w_from_a0 "com/example/ped3/ped3/model/Position" := by rw [hq6]; exact f4_2
  have f6_3 : Fld Z T6.heap a0 "com/example/ped3/ped3/model/Wall" "to" "Lcom/example/ped3/ped3/model/Position;" (.ref w_to_a0) := by rw [hq6]; exact f4_3
  have f6_4 : Fld Z T6.heap w_to_a0 "com/example/ped3/ped3/model/Position" "y" "D" (.double w_y_w_to_a0) := by rw [hq6]; exact f4_4
  have f6_5 : Fld Z T6.heap w_from_a0 "com/example/ped3/ped3/model/Position" "y" "D" (.double w_y_w_from_a0) := by rw [hq6]; exact f4_5
  have f6_6 : Fld Z T6.heap w_to_a0 "com/example/ped3/ped3/model/Position" "x" "D" (.double w_x_w_to_a0) := by rw [hq6]; exact f4_6
  have f6_7 : Exa Z T6.heap w_to_a0 "com/example/ped3/ped3/model/Position" := by rw [hq6]; exact f4_7
  have z6 : n0 ≤ T6.heap.size := by rw [hq6]; exact z4
  have K6 : Keep h0 T6.heap [a0] := by rw [hq6]; exact K4
  have N6 := Fr.app N4 N6q
  obtain ⟨T7, X7, e7, st7⟩ := getF X6 hx hZ hown (host := "") (Or.inl (hw _ (List.mem_of_getElem? (i := 26) rfl))) Via.refl rfl f6_0 (g := (mkF m 25 #[.val (.ref a0), .val (.double d1), .second, .val (.double d2), .second, .val (.double (v5_15 d1 d2 w_x_w_from_a0 w_y_w_to_a0 w_y_w_from_a0 w_x_w_to_a0)), .second, .unset, .unset] [(.ref a0), (.double w_y_w_to_a0)])) rfl rfl (hb hby d5_25)
  obtain ⟨cq8, kq8, q8a, q8b, q8c⟩ := isOf hZ e7 f6_2
  obtain ⟨_, _, ⟨T8, L8, k8, n8⟩, -, X8, ⟨Lc8, hQ8, l8, y8, z8'⟩, st8⟩ := X7.virtualBack hx (y := (⟨"com/example/ped3/ped3/model/Position", "y", "()D"⟩ : MethodName)) (z := (⟨"com/example/ped3/ped3/model/Position", "y", "()D"⟩ : MethodName)) hown (mvT hZ (hw _ (List.mem_of_getElem? (i := 40) rfl))) (mvT hZ (hw _ (List.mem_of_getElem? (i := 41) rfl))) (notFace_of_selects (args := #[]) (mvT hZ (hw _ (List.mem_of_getElem? (i := 43) rfl)))) (mvT hZ (hw _ (List.mem_of_getElem? (i := 43) rfl))) (mvT hZ (hw _ (List.mem_of_getElem? (i := 42) rfl))) (by decide) (backOf (W := 2) (rm7 l Z aw hw [] w_from_a0 w_y_w_from_a0 T6.heap n0 z6 f6_5) hZ (hw _ (List.mem_of_getElem? (i := 44) rfl)) (hw _ (List.mem_of_getElem? (i := 6) rfl)) (by decide) (by decide)) q8a q8c (g := (mkF m 28 #[.val (.ref a0), .val (.double d1), .second, .val (.double d2), .second, .val (.double (v5_15 d1 d2 w_x_w_from_a0 w_y_w_to_a0 w_y_w_from_a0 w_x_w_to_a0)), .second, .unset, .unset] [(.ref w_from_a0), (.double w_y_w_to_a0)])) rfl (by rw [hml]; rfl) (Steps.refl _) (argsL := []) (rest := [(.double w_y_w_to_a0)]) (lenOf pd_1 rfl) rfl (by show 2 * 0 + _ ≤ _; exact Nat.le_of_eq rfl) (hb hby d5_28) (fun _ _ => ⟨rfl, e7, (by decide : 0 + 0 ≤ _), (by decide : 0 + 0 ≤ _)⟩)
  dsimp only [Pt.U, Pt.locs, Pt.cells, Pt.slots] at X8 l8 y8 z8' st8 hQ8
  subst l8 y8 z8'
  obtain ⟨rfl, N8q, hq8⟩ := hQ8
  have f8_0 : Fld Z T8.heap a0 "com/example/ped3/ped3/model/Wall" "from" "Lcom/example/ped3/ped3/model/Position;" (.ref w_from_a0) := by rw [hq8]; exact f6_0
  have f8_1 : Fld Z T8.heap w_from_a0 "com/example/ped3/ped3/model/Position" "x" "D" (.double w_x_w_from_a0) := by rw [hq8]; exact f6_1
  have f8_2 : Exa Z T8.heap w_from_a0 "com/example/ped3/ped3/model/Position" := by rw [hq8]; exact f6_2
  have f8_3 : Fld Z T8.heap a0 "com/example/ped3/ped3/model/Wall" "to" "Lcom/example/ped3/ped3/model/Position;" (.ref w_to_a0) := by rw [hq8]; exact f6_3
  have f8_4 : Fld Z T8.heap w_to_a0 "com/example/ped3/ped3/model/Position" "y" "D" (.double w_y_w_to_a0) := by rw [hq8]; exact f6_4
  have f8_5 : Fld Z T8.heap w_from_a0 "com/example/ped3/ped3/model/Position" "y" "D" (.double w_y_w_from_a0) := by rw [hq8]; exact f6_5
  have f8_6 : Fld Z T8.heap w_to_a0 "com/example/ped3/ped3/model/Position" "x" "D" (.double w_x_w_to_a0) := by rw [hq8]; exact f6_6
  have f8_7 : Exa Z T8.heap w_to_a0 "com/example/ped3/ped3/model/Position" := by rw [hq8]; exact f6_7
  have z8 : n0 ≤ T8.heap.size := by rw [hq8]; exact z6
  have K8 : Keep h0 T8.heap [a0] := by rw [hq8]; exact K6
  have N8 := Fr.app N6 N8q
  obtain ⟨T9, X9, e9, st9⟩ := getF X8 hx hZ hown (host := "") (Or.inl (hw _ (List.mem_of_getElem? (i := 26) rfl))) Via.refl rfl f8_0 (g := (mkF m 38 #[.val (.ref a0), .val (.double d1), .second, .val (.double d2), .second, .val (.double (v5_15 d1 d2 w_x_w_from_a0 w_y_w_to_a0 w_y_w_from_a0 w_x_w_to_a0)), .second, .val (.double (v5_32 d1 d2 w_x_w_from_a0 w_y_w_to_a0 w_y_w_from_a0 w_x_w_to_a0)), .second] [(.ref a0), (.double d2), (.double (v5_15 d1 d2 w_x_w_from_a0 w_y_w_to_a0 w_y_w_from_a0 w_x_w_to_a0))])) rfl rfl (hb hby d5_38)
  obtain ⟨cq10, kq10, q10a, q10b, q10c⟩ := isOf hZ e9 f8_2
  obtain ⟨_, _, ⟨T10, L10, k10, n10⟩, -, X10, ⟨Lc10, hQ10, l10, y10, z10'⟩, st10⟩ := X9.virtualBack hx (y := (⟨"com/example/ped3/ped3/model/Position", "y", "()D"⟩ : MethodName)) (z := (⟨"com/example/ped3/ped3/model/Position", "y", "()D"⟩ : MethodName)) hown (mvT hZ (hw _ (List.mem_of_getElem? (i := 40) rfl))) (mvT hZ (hw _ (List.mem_of_getElem? (i := 41) rfl))) (notFace_of_selects (args := #[]) (mvT hZ (hw _ (List.mem_of_getElem? (i := 43) rfl)))) (mvT hZ (hw _ (List.mem_of_getElem? (i := 43) rfl))) (mvT hZ (hw _ (List.mem_of_getElem? (i := 42) rfl))) (by decide) (backOf (W := 4) (rm7 l Z aw hw [] w_from_a0 w_y_w_from_a0 T8.heap n0 z8 f8_5) hZ (hw _ (List.mem_of_getElem? (i := 44) rfl)) (hw _ (List.mem_of_getElem? (i := 6) rfl)) (by decide) (by decide)) q10a q10c (g := (mkF m 41 #[.val (.ref a0), .val (.double d1), .second, .val (.double d2), .second, .val (.double (v5_15 d1 d2 w_x_w_from_a0 w_y_w_to_a0 w_y_w_from_a0 w_x_w_to_a0)), .second, .val (.double (v5_32 d1 d2 w_x_w_from_a0 w_y_w_to_a0 w_y_w_from_a0 w_x_w_to_a0)), .second] [(.ref w_from_a0), (.double d2), (.double (v5_15 d1 d2 w_x_w_from_a0 w_y_w_to_a0 w_y_w_from_a0 w_x_w_to_a0))])) rfl (by rw [hml]; rfl) (Steps.refl _) (argsL := []) (rest := [(.double d2), (.double (v5_15 d1 d2 w_x_w_from_a0 w_y_w_to_a0 w_y_w_from_a0 w_x_w_to_a0))]) (lenOf pd_1 rfl) rfl (by show 2 * 0 + _ ≤ _; exact Nat.le_of_eq rfl) (hb hby d5_41) (fun _ _ => ⟨rfl, e9, (by decide : 0 + 0 ≤ _), (by decide : 0 + 0 ≤ _)⟩)
  dsimp only [Pt.U, Pt.locs, Pt.cells, Pt.slots] at X10 l10 y10 z10' st10 hQ10
  subst l10 y10 z10'
  obtain ⟨rfl, N10q, hq10⟩ := hQ10
  have f10_0 : Fld Z T10.heap a0 "com/example/ped3/ped3/model/Wall" "from" "Lcom/example/ped3/ped3/model/Position;" (.ref w_from_a0) := by rw [hq10]; exact f8_0
  have f10_1 : Fld Z T10.heap w_from_a0 "com/example/ped3/ped3/model/Position" "x" "D" (.double w_x_w_from_a0) := by rw [hq10]; exact f8_1
  have f10_2 : Exa Z T10.heap w_from_a0 "com/example/ped3/ped3/model/Position" := by rw [hq10]; exact f8_2
  have f10_3 : Fld Z T10.heap a0 "com/example/ped3/ped3/model/Wall" "to" "Lcom/example/ped3/ped3/model/Position;" (.ref w_to_a0) := by rw [hq10]; exact f8_3
  have f10_4 : Fld Z T10.heap w_to_a0 "com/example/ped3/ped3/model/Position" "y" "D" (.double w_y_w_to_a0) := by rw [hq10]; exact f8_4
  have f10_5 : Fld Z T10.heap w_from_a0 "com/example/ped3/ped3/model/Position" "y" "D" (.double w_y_w_from_a0) := by rw [hq10]; exact f8_5
  have f10_6 : Fld Z T10.heap w_to_a0 "com/example/ped3/ped3/model/Position" "x" "D" (.double w_x_w_to_a0) := by rw [hq10]; exact f8_6
  have f10_7 : Exa Z T10.heap w_to_a0 "com/example/ped3/ped3/model/Position" := by rw [hq10]; exact f8_7
  have z10 : n0 ≤ T10.heap.size := by rw [hq10]; exact z8
  have K10 : Keep h0 T10.heap [a0] := by rw [hq10]; exact K8
  have N10 := Fr.app N8 N10q
  obtain ⟨T11, X11, e11, st11⟩ := getF X10 hx hZ hown (host := "") (Or.inl (hw _ (List.mem_of_getElem? (i := 26) rfl))) Via.refl rfl f10_0 (g := (mkF m 50 #[.val (.ref a0), .val (.double d1), .second, .val (.double d2), .second, .val (.double (v5_15 d1 d2 w_x_w_from_a0 w_y_w_to_a0 w_y_w_from_a0 w_x_w_to_a0)), .second, .val (.double (v5_32 d1 d2 w_x_w_from_a0 w_y_w_to_a0 w_y_w_from_a0 w_x_w_to_a0)), .second] [(.ref a0), (.double d1), (.double (v5_32 d1 d2 w_x_w_from_a0 w_y_w_to_a0 w_y_w_from_a0 w_x_w_to_a0)), (.double (FP.dmul (v5_15 d1 d2 w_x_w_from_a0 w_y_w_to_a0 w_y_w_from_a0 w_x_w_to_a0) (FP.dsub d2 w_y_w_from_a0)))])) rfl rfl (hb hby d5_50)
  obtain ⟨cq12, kq12, q12a, q12b, q12c⟩ := isOf hZ e11 f10_2
  obtain ⟨_, _, ⟨T12, L12, k12, n12⟩, -, X12, ⟨Lc12, hQ12, l12, y12, z12'⟩, st12⟩ := X11.virtualBack hx (y := (⟨"com/example/ped3/ped3/model/Position", "x", "()D"⟩ : MethodName)) (z := (⟨"com/example/ped3/ped3/model/Position", "x", "()D"⟩ : MethodName)) hown (mvT hZ (hw _ (List.mem_of_getElem? (i := 35) rfl))) (mvT hZ (hw _ (List.mem_of_getElem? (i := 36) rfl))) (notFace_of_selects (args := #[]) (mvT hZ (hw _ (List.mem_of_getElem? (i := 38) rfl)))) (mvT hZ (hw _ (List.mem_of_getElem? (i := 38) rfl))) (mvT hZ (hw _ (List.mem_of_getElem? (i := 37) rfl))) (by decide) (backOf (W := 6) (rm6 l Z aw hw [] w_from_a0 w_x_w_from_a0 T10.heap n0 z10 f10_1) hZ (hw _ (List.mem_of_getElem? (i := 39) rfl)) (hw _ (List.mem_of_getElem? (i := 6) rfl)) (by decide) (by decide)) q12a q12c (g := (mkF m 53 #[.val (.ref a0), .val (.double d1), .second, .val (.double d2), .second, .val (.double (v5_15 d1 d2 w_x_w_from_a0 w_y_w_to_a0 w_y_w_from_a0 w_x_w_to_a0)), .second, .val (.double (v5_32 d1 d2 w_x_w_from_a0 w_y_w_to_a0 w_y_w_from_a0 w_x_w_to_a0)), .second] [(.ref w_from_a0), (.double d1), (.double (v5_32 d1 d2 w_x_w_from_a0 w_y_w_to_a0 w_y_w_from_a0 w_x_w_to_a0)), (.double (FP.dmul (v5_15 d1 d2 w_x_w_from_a0 w_y_w_to_a0 w_y_w_from_a0 w_x_w_to_a0) (FP.dsub d2 w_y_w_from_a0)))])) rfl (by rw [hml]; rfl) (Steps.refl _) (argsL := []) (rest := [(.double d1), (.double (v5_32 d1 d2 w_x_w_from_a0 w_y_w_to_a0 w_y_w_from_a0 w_x_w_to_a0)), (.double (FP.dmul (v5_15 d1 d2 w_x_w_from_a0 w_y_w_to_a0 w_y_w_from_a0 w_x_w_to_a0) (FP.dsub d2 w_y_w_from_a0)))]) (lenOf pd_1 rfl) rfl (by show 2 * 0 + _ ≤ _; exact Nat.le_of_eq rfl) (hb hby d5_53) (fun _ _ => ⟨rfl, e11, (by decide : 0 + 0 ≤ _), (by decide : 0 + 0 ≤ _)⟩)
  dsimp only [Pt.U, Pt.locs, Pt.cells, Pt.slots] at X12 l12 y12 z12' st12 hQ12
  subst l12 y12 z12'
  obtain ⟨rfl, N12q, hq12⟩ := hQ12
  have f12_0 : Fld Z T12.heap a0 "com/example/ped3/ped3/model/Wall" "from" "Lcom/example/ped3/ped3/model/Position;" (.ref w_from_a0) := by rw [hq12]; exact f10_0
  have f12_1 : Fld Z T12.heap w_from_a0 "com/example/ped3/ped3/model/Position" "x" "D" (.double w_x_w_from_a0) := by rw [hq12]; exact f10_1
  have f12_2 : Exa Z T12.heap w_from_a0 "com/example/ped3/ped3/model/Position" := by rw [hq12]; exact f10_2
  have f12_3 : Fld Z T12.heap a0 "com/example/ped3/ped3/model/Wall" "to" "Lcom/example/ped3/ped3/model/Position;" (.ref w_to_a0) := by rw [hq12]; exact f10_3
  have f12_4 : Fld Z T12.heap w_to_a0 "com/example/ped3/ped3/model/Position" "y" "D" (.double w_y_w_to_a0) := by rw [hq12]; exact f10_4
  have f12_5 : Fld Z T12.heap w_from_a0 "com/example/ped3/ped3/model/Position" "y" "D" (.double w_y_w_from_a0) := by rw [hq12]; exact f10_5
  have f12_6 : Fld Z T12.heap w_to_a0 "com/example/ped3/ped3/model/Position" "x" "D" (.double w_x_w_to_a0) := by rw [hq12]; exact f10_6
  have f12_7 : Exa Z T12.heap w_to_a0 "com/example/ped3/ped3/model/Position" := by rw [hq12]; exact f10_7
  have z12 : n0 ≤ T12.heap.size := by rw [hq12]; exact z10
  have K12 : Keep h0 T12.heap [a0] := by rw [hq12]; exact K10
  have N12 := Fr.app N10 N12q
  obtain ⟨fs, hr, hrun, hended, hW, hsame⟩ := X12.leave (v := some (.int (nar .boolean (j5_61_s0 d1 d2 w_x_w_from_a0 w_y_w_to_a0 w_y_w_from_a0 w_x_w_to_a0)))) (fun h => by rw [Bd.returns] at h; cases h)
  refine ⟨_, _, pre0 _ ?_, hrun, hended, _, _, rfl, ?_, ⟨_, rfl⟩, hW, hsame.mono (by decide) (by decide)⟩
  · show Steps p.tables e below (s₁.setTop (mkF m 0 #[.val (.ref a0), .val (.double d1), .second, .val (.double d2), .second, .unset, .unset, .unset, .unset] [])) _
    refine XS.aloadN X0.here hx rfl (hb hby d5_0) rfl rfl ?_
    show Steps p.tables e below (s₁.setTop (mkF m 1 #[.val (.ref a0), .val (.double d1), .second, .val (.double d2), .second, .unset, .unset, .unset, .unset] [(.ref a0)])) _
    refine st1 _ ?_
    show Steps p.tables e below (T1.setTop (mkF m 4 #[.val (.ref a0), .val (.double d1), .second, .val (.double d2), .second, .unset, .unset, .unset, .unset] [(.ref w_to_a0)])) _
    refine st2.trans ?_
    show Steps p.tables e below (T2.setTop (mkF m 7 #[.val (.ref a0), .val (.double d1), .second, .val (.double d2), .second, .unset, .unset, .unset, .unset] [(.double w_x_w_to_a0)])) _
    refine XS.aloadN X2.here hx rfl (hb hby d5_7) rfl rfl ?_
    show Steps p.tables e below (T2.setTop (mkF m 8 #[.val (.ref a0), .val (.double d1), .second, .val (.double d2), .second, .unset, .unset, .unset, .unset] [(.ref a0), (.double w_x_w_to_a0)])) _
    refine st3 _ ?_
    show Steps p.tables e below (T3.setTop (mkF m 11 #[.val (.ref a0), .val (.double d1), .second, .val (.double d2), .second, .unset, .unset, .unset, .unset] [(.ref w_from_a0), (.double w_x_w_to_a0)])) _
    refine st4.trans ?_
    show Steps p.tables e below (T4.setTop (mkF m 14 #[.val (.ref a0), .val (.double d1), .second, .val (.double d2), .second, .unset, .unset, .unset, .unset] [(.double w_x_w_from_a0), (.double w_x_w_to_a0)])) _
    refine XS.dsubS X4.here hx rfl (hb hby d5_14) rfl hn14 rfl ?_
    show Steps p.tables e below (T4.setTop (mkF m 15 #[.val (.ref a0), .val (.double d1), .second, .val (.double d2), .second, .unset, .unset, .unset, .unset] [(.double (FP.dsub w_x_w_to_a0 w_x_w_from_a0))])) _
    refine XS.dstore X4.here hx rfl (hb hby d5_15) rfl (l' := #[.val (.ref a0), .val (.double d1), .second, .val (.double d2), .second, .val (.double (v5_15 d1 d2 w_x_w_from_a0 w_y_w_to_a0 w_y_w_from_a0 w_x_w_to_a0)), .second, .unset, .unset]) rfl ?_
    show Steps p.tables e below (T4.setTop (mkF m 17 #[.val (.ref a0), .val (.double d1), .second, .val (.double d2), .second, .val (.double (v5_15 d1 d2 w_x_w_from_a0 w_y_w_to_a0 w_y_w_from_a0 w_x_w_to_a0)), .second, .unset, .unset] [])) _
    refine XS.aloadN X4.here hx rfl (hb hby d5_17) rfl rfl ?_
    show Steps p.tables e below (T4.setTop (mkF m 18 #[.val (.ref a0), .val (.double d1), .second, .val (.double d2), .second, .val (.double (v5_15 d1 d2 w_x_w_from_a0 w_y_w_to_a0 w_y_w_from_a0 w_x_w_to_a0)), .second, .unset, .unset] [(.ref a0)])) _
    refine st5 _ ?_
    show Steps p.tables e below (T5.setTop (mkF m 21 #[.val (.ref a0), .val (.double d1), .second, .val (.double d2), .second, .val (.double (v5_15 d1 d2 w_x_w_from_a0 w_y_w_to_a0 w_y_w_from_a0 w_x_w_to_a0)), .second, .unset, .unset] [(.ref w_to_a0)])) _
    refine st6.trans ?_
    show Steps p.tables e below (T6.setTop (mkF m 24 #[.val (.ref a0), .val (.double d1), .second, .val (.double d2), .second, .val (.double (v5_15 d1 d2 w_x_w_from_a0 w_y_w_to_a0 w_y_w_from_a0 w_x_w_to_a0)), .second, .unset, .unset] [(.double w_y_w_to_a0)])) _
    refine XS.aloadN X6.here hx rfl (hb hby d5_24) rfl rfl ?_
    show Steps p.tables e below (T6.setTop (mkF m 25 #[.val (.ref a0), .val (.double d1), .second, .val (.double d2), .second, .val (.double (v5_15 d1 d2 w_x_w_from_a0 w_y_w_to_a0 w_y_w_from_a0 w_x_w_to_a0)), .second, .unset, .unset] [(.ref a0), (.double w_y_w_to_a0)])) _
    refine st7 _ ?_
    show Steps p.tables e below (T7.setTop (mkF m 28 #[.val (.ref a0), .val (.double d1), .second, .val (.double d2), .second, .val (.double (v5_15 d1 d2 w_x_w_from_a0 w_y_w_to_a0 w_y_w_from_a0 w_x_w_to_a0)), .second, .unset, .unset] [(.ref w_from_a0), (.double w_y_w_to_a0)])) _
    refine st8.trans ?_
    show Steps p.tables e below (T8.setTop (mkF m 31 #[.val (.ref a0), .val (.double d1), .second, .val (.double d2), .second, .val (.double (v5_15 d1 d2 w_x_w_from_a0 w_y_w_to_a0 w_y_w_from_a0 w_x_w_to_a0)), .second, .unset, .unset] [(.double w_y_w_from_a0), (.double w_y_w_to_a0)])) _
    refine XS.dsubS X8.here hx rfl (hb hby d5_31) rfl hn31 rfl ?_
    show Steps p.tables e below (T8.setTop (mkF m 32 #[.val (.ref a0), .val (.double d1), .second, .val (.double d2), .second, .val (.double (v5_15 d1 d2 w_x_w_from_a0 w_y_w_to_a0 w_y_w_from_a0 w_x_w_to_a0)), .second, .unset, .unset] [(.double (FP.dsub w_y_w_to_a0 w_y_w_from_a0))])) _
    refine XS.dstore X8.here hx rfl (hb hby d5_32) rfl (l' := #[.val (.ref a0), .val (.double d1), .second, .val (.double d2), .second, .val (.double (v5_15 d1 d2 w_x_w_from_a0 w_y_w_to_a0 w_y_w_from_a0 w_x_w_to_a0)), .second, .val (.double (v5_32 d1 d2 w_x_w_from_a0 w_y_w_to_a0 w_y_w_from_a0 w_x_w_to_a0)), .second]) rfl ?_
    show Steps p.tables e below (T8.setTop (mkF m 34 #[.val (.ref a0), .val (.double d1), .second, .val (.double d2), .second, .val (.double (v5_15 d1 d2 w_x_w_from_a0 w_y_w_to_a0 w_y_w_from_a0 w_x_w_to_a0)), .second, .val (.double (v5_32 d1 d2 w_x_w_from_a0 w_y_w_to_a0 w_y_w_from_a0 w_x_w_to_a0)), .second] [])) _
    refine XS.dload X8.here hx rfl (hb hby d5_34) rfl ?_
    show Steps p.tables e below (T8.setTop (mkF m 36 #[.val (.ref a0), .val (.double d1), .second, .val (.double d2), .second, .val (.double (v5_15 d1 d2 w_x_w_from_a0 w_y_w_to_a0 w_y_w_from_a0 w_x_w_to_a0)), .second, .val (.double (v5_32 d1 d2 w_x_w_from_a0 w_y_w_to_a0 w_y_w_from_a0 w_x_w_to_a0)), .second] [(.double (v5_15 d1 d2 w_x_w_from_a0 w_y_w_to_a0 w_y_w_from_a0 w_x_w_to_a0))])) _
    refine XS.dloadN X8.here hx rfl (hb hby d5_36) rfl ?_
    show Steps p.tables e below (T8.setTop (mkF m 37 #[.val (.ref a0), .val (.double d1), .second, .val (.double d2), .second, .val (.double (v5_15 d1 d2 w_x_w_from_a0 w_y_w_to_a0 w_y_w_from_a0 w_x_w_to_a0)), .second, .val (.double (v5_32 d1 d2 w_x_w_from_a0 w_y_w_to_a0 w_y_w_from_a0 w_x_w_to_a0)), .second] [(.double d2), (.double (v5_15 d1 d2 w_x_w_from_a0 w_y_w_to_a0 w_y_w_from_a0 w_x_w_to_a0))])) _
    refine XS.aloadN X8.here hx rfl (hb hby d5_37) rfl rfl ?_
    show Steps p.tables e below (T8.setTop (mkF m 38 #[.val (.ref a0), .val (.double d1), .second, .val (.double d2), .second, .val (.double (v5_15 d1 d2 w_x_w_from_a0 w_y_w_to_a0 w_y_w_from_a0 w_x_w_to_a0)), .second, .val (.double (v5_32 d1 d2 w_x_w_from_a0 w_y_w_to_a0 w_y_w_from_a0 w_x_w_to_a0)), .second] [(.ref a0), (.double d2), (.double (v5_15 d1 d2 w_x_w_from_a0 w_y_w_to_a0 w_y_w_from_a0 w_x_w_to_a0))])) _
    refine st9 _ ?_
    show Steps p.tables e below (T9.setTop (mkF m 41 #[.val (.ref a0), .val (.double d1), .second, .val (.double d2), .second, .val (.double (v5_15 d1 d2 w_x_w_from_a0 w_y_w_to_a0 w_y_w_from_a0 w_x_w_to_a0)), .second, .val (.double (v5_32 d1 d2 w_x_w_from_a0 w_y_w_to_a0 w_y_w_from_a0 w_x_w_to_a0)), .second] [(.ref w_from_a0), (.double d2), (.double (v5_15 d1 d2 w_x_w_from_a0 w_y_w_to_a0 w_y_w_from_a0 w_x_w_to_a0))])) _
    refine st10.trans ?_
    show Steps p.tables e below (T10.setTop (mkF m 44 #[.val (.ref a0), .val (.double d1), .second, .val (.double d2), .second, .val (.double (v5_15 d1 d2 w_x_w_from_a0 w_y_w_to_a0 w_y_w_from_a0 w_x_w_to_a0)), .second, .val (.double (v5_32 d1 d2 w_x_w_from_a0 w_y_w_to_a0 w_y_w_from_a0 w_x_w_to_a0)), .second] [(.double w_y_w_from_a0), (.double d2), (.double (v5_15 d1 d2 w_x_w_from_a0 w_y_w_to_a0 w_y_w_from_a0 w_x_w_to_a0))])) _
    refine XS.dsubS X10.here hx rfl (hb hby d5_44) rfl hn44 rfl ?_
    show Steps p.tables e below (T10.setTop (mkF m 45 #[.val (.ref a0), .val (.double d1), .second, .val (.double d2), .second, .val (.double (v5_15 d1 d2 w_x_w_from_a0 w_y_w_to_a0 w_y_w_from_a0 w_x_w_to_a0)), .second, .val (.double (v5_32 d1 d2 w_x_w_from_a0 w_y_w_to_a0 w_y_w_from_a0 w_x_w_to_a0)), .second] [(.double (FP.dsub d2 w_y_w_from_a0)), (.double (v5_15 d1 d2 w_x_w_from_a0 w_y_w_to_a0 w_y_w_from_a0 w_x_w_to_a0))])) _
    refine XS.dmulS X10.here hx rfl (hb hby d5_45) rfl hn45 rfl ?_
    show Steps p.tables e below (T10.setTop (mkF m 46 #[.val (.ref a0), .val (.double d1), .second, .val (.double d2), .second, .val (.double (v5_15 d1 d2 w_x_w_from_a0 w_y_w_to_a0 w_y_w_from_a0 w_x_w_to_a0)), .second, .val (.double (v5_32 d1 d2 w_x_w_from_a0 w_y_w_to_a0 w_y_w_from_a0 w_x_w_to_a0)), .second] [(.double (FP.dmul (v5_15 d1 d2 w_x_w_from_a0 w_y_w_to_a0 w_y_w_from_a0 w_x_w_to_a0) (FP.dsub d2 w_y_w_from_a0)))])) _
    refine XS.dload X10.here hx rfl (hb hby d5_46) rfl ?_
    show Steps p.tables e below (T10.setTop (mkF m 48 #[.val (.ref a0), .val (.double d1), .second, .val (.double d2), .second, .val (.double (v5_15 d1 d2 w_x_w_from_a0 w_y_w_to_a0 w_y_w_from_a0 w_x_w_to_a0)), .second, .val (.double (v5_32 d1 d2 w_x_w_from_a0 w_y_w_to_a0 w_y_w_from_a0 w_x_w_to_a0)), .second] [(.double (v5_32 d1 d2 w_x_w_from_a0 w_y_w_to_a0 w_y_w_from_a0 w_x_w_to_a0)), (.double (FP.dmul (v5_15 d1 d2 w_x_w_from_a0 w_y_w_to_a0 w_y_w_from_a0 w_x_w_to_a0) (FP.dsub d2 w_y_w_from_a0)))])) _
    refine XS.dloadN X10.here hx rfl (hb hby d5_48) rfl ?_
    show Steps p.tables e below (T10.setTop (mkF m 49 #[.val (.ref a0), .val (.double d1), .second, .val (.double d2), .second, .val (.double (v5_15 d1 d2 w_x_w_from_a0 w_y_w_to_a0 w_y_w_from_a0 w_x_w_to_a0)), .second, .val (.double (v5_32 d1 d2 w_x_w_from_a0 w_y_w_to_a0 w_y_w_from_a0 w_x_w_to_a0)), .second] [(.double d1), (.double (v5_32 d1 d2 w_x_w_from_a0 w_y_w_to_a0 w_y_w_from_a0 w_x_w_to_a0)), (.double (FP.dmul (v5_15 d1 d2 w_x_w_from_a0 w_y_w_to_a0 w_y_w_from_a0 w_x_w_to_a0) (FP.dsub d2 w_y_w_from_a0)))])) _
    refine XS.aloadN X10.here hx rfl (hb hby d5_49) rfl rfl ?_
    show Steps p.tables e below (T10.setTop (mkF m 50 #[.val (.ref a0), .val (.double d1), .second, .val (.double d2), .second, .val (.double (v5_15 d1 d2 w_x_w_from_a0 w_y_w_to_a0 w_y_w_from_a0 w_x_w_to_a0)), .second, .val (.double (v5_32 d1 d2 w_x_w_from_a0 w_y_w_to_a0 w_y_w_from_a0 w_x_w_to_a0)), .second] [(.ref a0), (.double d1), (.double (v5_32 d1 d2 w_x_w_from_a0 w_y_w_to_a0 w_y_w_from_a0 w_x_w_to_a0)), (.double (FP.dmul (v5_15 d1 d2 w_x_w_from_a0 w_y_w_to_a0 w_y_w_from_a0 w_x_w_to_a0) (FP.dsub d2 w_y_w_from_a0)))])) _
    refine st11 _ ?_
    show Steps p.tables e below (T11.setTop (mkF m 53 #[.val (.ref a0), .val (.double d1), .second, .val (.double d2), .second, .val (.double (v5_15 d1 d2 w_x_w_from_a0 w_y_w_to_a0 w_y_w_from_a0 w_x_w_to_a0)), .second, .val (.double (v5_32 d1 d2 w_x_w_from_a0 w_y_w_to_a0 w_y_w_from_a0 w_x_w_to_a0)), .second] [(.ref w_from_a0), (.double d1), (.double (v5_32 d1 d2 w_x_w_from_a0 w_y_w_to_a0 w_y_w_from_a0 w_x_w_to_a0)), (.double (FP.dmul (v5_15 d1 d2 w_x_w_from_a0 w_y_w_to_a0 w_y_w_from_a0 w_x_w_to_a0) (FP.dsub d2 w_y_w_from_a0)))])) _
    refine st12.trans ?_
    show Steps p.tables e below (T12.setTop (mkF m 56 #[.val (.ref a0), .val (.double d1), .second, .val (.double d2), .second, .val (.double (v5_15 d1 d2 w_x_w_from_a0 w_y_w_to_a0 w_y_w_from_a0 w_x_w_to_a0)), .second, .val (.double (v5_32 d1 d2 w_x_w_from_a0 w_y_w_to_a0 w_y_w_from_a0 w_x_w_to_a0)), .second] [(.double w_x_w_from_a0), (.double d1), (.double (v5_32 d1 d2 w_x_w_from_a0 w_y_w_to_a0 w_y_w_from_a0 w_x_w_to_a0)), (.double (FP.dmul (v5_15 d1 d2 w_x_w_from_a0 w_y_w_to_a0 w_y_w_from_a0 w_x_w_to_a0) (FP.dsub d2 w_y_w_from_a0)))])) _
    refine XS.dsubS X12.here hx rfl (hb hby d5_56) rfl hn56 rfl ?_
    show Steps p.tables e below (T12.setTop (mkF m 57 #[.val (.ref a0), .val (.double d1), .second, .val (.double d2), .second, .val (.double (v5_15 d1 d2 w_x_w_from_a0 w_y_w_to_a0 w_y_w_from_a0 w_x_w_to_a0)), .second, .val (.double (v5_32 d1 d2 w_x_w_from_a0 w_y_w_to_a0 w_y_w_from_a0 w_x_w_to_a0)), .second] [(.double (FP.dsub d1 w_x_w_from_a0)), (.double (v5_32 d1 d2 w_x_w_from_a0 w_y_w_to_a0 w_y_w_from_a0 w_x_w_to_a0)), (.double (FP.dmul (v5_15 d1 d2 w_x_w_from_a0 w_y_w_to_a0 w_y_w_from_a0 w_x_w_to_a0) (FP.dsub d2 w_y_w_from_a0)))])) _
    refine XS.dmulS X12.here hx rfl (hb hby d5_57) rfl hn57 rfl ?_
    show Steps p.tables e below (T12.setTop (mkF m 58 #[.val (.ref a0), .val (.double d1), .second, .val (.double d2), .second, .val (.double (v5_15 d1 d2 w_x_w_from_a0 w_y_w_to_a0 w_y_w_from_a0 w_x_w_to_a0)), .second, .val (.double (v5_32 d1 d2 w_x_w_from_a0 w_y_w_to_a0 w_y_w_from_a0 w_x_w_to_a0)), .second] [(.double (FP.dmul (v5_32 d1 d2 w_x_w_from_a0 w_y_w_to_a0 w_y_w_from_a0 w_x_w_to_a0) (FP.dsub d1 w_x_w_from_a0))), (.double (FP.dmul (v5_15 d1 d2 w_x_w_from_a0 w_y_w_to_a0 w_y_w_from_a0 w_x_w_to_a0) (FP.dsub d2 w_y_w_from_a0)))])) _
    refine XS.dsubS X12.here hx rfl (hb hby d5_58) rfl hn58 rfl ?_
    show Steps p.tables e below (T12.setTop (mkF m 59 #[.val (.ref a0), .val (.double d1), .second, .val (.double d2), .second, .val (.double (v5_15 d1 d2 w_x_w_from_a0 w_y_w_to_a0 w_y_w_from_a0 w_x_w_to_a0)), .second, .val (.double (v5_32 d1 d2 w_x_w_from_a0 w_y_w_to_a0 w_y_w_from_a0 w_x_w_to_a0)), .second] [(.double (FP.dsub (FP.dmul (v5_15 d1 d2 w_x_w_from_a0 w_y_w_to_a0 w_y_w_from_a0 w_x_w_to_a0) (FP.dsub d2 w_y_w_from_a0)) (FP.dmul (v5_32 d1 d2 w_x_w_from_a0 w_y_w_to_a0 w_y_w_from_a0 w_x_w_to_a0) (FP.dsub d1 w_x_w_from_a0))))])) _
    refine XS.dconst0 X12.here hx rfl (hb hby d5_59) rfl ?_
    show Steps p.tables e below (T12.setTop (mkF m 60 #[.val (.ref a0), .val (.double d1), .second, .val (.double d2), .second, .val (.double (v5_15 d1 d2 w_x_w_from_a0 w_y_w_to_a0 w_y_w_from_a0 w_x_w_to_a0)), .second, .val (.double (v5_32 d1 d2 w_x_w_from_a0 w_y_w_to_a0 w_y_w_from_a0 w_x_w_to_a0)), .second] [(.double FP.dconst0), (.double (FP.dsub (FP.dmul (v5_15 d1 d2 w_x_w_from_a0 w_y_w_to_a0 w_y_w_from_a0 w_x_w_to_a0) (FP.dsub d2 w_y_w_from_a0)) (FP.dmul (v5_32 d1 d2 w_x_w_from_a0 w_y_w_to_a0 w_y_w_from_a0 w_x_w_to_a0) (FP.dsub d1 w_x_w_from_a0))))])) _
    refine XS.dcmpS X12.here hx rfl (hb hby d5_60) rfl rfl ?_
    show Steps p.tables e below (T12.setTop (mkF m 61 #[.val (.ref a0), .val (.double d1), .second, .val (.double d2), .second, .val (.double (v5_15 d1 d2 w_x_w_from_a0 w_y_w_to_a0 w_y_w_from_a0 w_x_w_to_a0)), .second, .val (.double (v5_32 d1 d2 w_x_w_from_a0 w_y_w_to_a0 w_y_w_from_a0 w_x_w_to_a0)), .second] [(.int (cmpValue (FP.dcmp (FP.dsub (FP.dmul (v5_15 d1 d2 w_x_w_from_a0 w_y_w_to_a0 w_y_w_from_a0 w_x_w_to_a0) (FP.dsub d2 w_y_w_from_a0)) (FP.dmul (v5_32 d1 d2 w_x_w_from_a0 w_y_w_to_a0 w_y_w_from_a0 w_x_w_to_a0) (FP.dsub d1 w_x_w_from_a0))) FP.dconst0) .l))])) _
    suffices kt61 : Steps p.tables e below (T12.setTop (mkF m 69 #[.val (.ref a0), .val (.double d1), .second, .val (.double d2), .second, .val (.double (v5_15 d1 d2 w_x_w_from_a0 w_y_w_to_a0 w_y_w_from_a0 w_x_w_to_a0)), .second, .val (.double (v5_32 d1 d2 w_x_w_from_a0 w_y_w_to_a0 w_y_w_from_a0 w_x_w_to_a0)), .second] [(.int (j5_61_s0 d1 d2 w_x_w_from_a0 w_y_w_to_a0 w_y_w_from_a0 w_x_w_to_a0))])) (T12.setFrames fs) by
      by_cases hc61 : ifCond.holds .lt (cmpValue (FP.dcmp (FP.dsub (FP.dmul (v5_15 d1 d2 w_x_w_from_a0 w_y_w_to_a0 w_y_w_from_a0 w_x_w_to_a0) (FP.dsub d2 w_y_w_from_a0)) (FP.dmul (v5_32 d1 d2 w_x_w_from_a0 w_y_w_to_a0 w_y_w_from_a0 w_x_w_to_a0) (FP.dsub d1 w_x_w_from_a0))) FP.dconst0) .l) = true
      · rw [show (j5_61_s0 d1 d2 w_x_w_from_a0 w_y_w_to_a0 w_y_w_from_a0 w_x_w_to_a0) = (0 : Int32) from if_pos hc61] at kt61
        refine XS.ifYes X12.here hx rfl (pc0 := 61) (pc' := 68) rfl (hb hby d5_61) rfl hc61 (by decide) (by decide) ?_
        show Steps p.tables e below (T12.setTop (mkF m 68 #[.val (.ref a0), .val (.double d1), .second, .val (.double d2), .second, .val (.double (v5_15 d1 d2 w_x_w_from_a0 w_y_w_to_a0 w_y_w_from_a0 w_x_w_to_a0)), .second, .val (.double (v5_32 d1 d2 w_x_w_from_a0 w_y_w_to_a0 w_y_w_from_a0 w_x_w_to_a0)), .second] [])) _
        refine XS.iconst X12.here hx rfl (hb hby d5_68) ?_
        exact kt61
      · rw [show (j5_61_s0 d1 d2 w_x_w_from_a0 w_y_w_to_a0 w_y_w_from_a0 w_x_w_to_a0) = (1 : Int32) from if_neg hc61] at kt61
        refine XS.ifNo X12.here hx rfl (hb hby d5_61) rfl (eq_false_of_ne_true hc61) ?_
        show Steps p.tables e below (T12.setTop (mkF m 64 #[.val (.ref a0), .val (.double d1), .second, .val (.double d2), .second, .val (.double (v5_15 d1 d2 w_x_w_from_a0 w_y_w_to_a0 w_y_w_from_a0 w_x_w_to_a0)), .second, .val (.double (v5_32 d1 d2 w_x_w_from_a0 w_y_w_to_a0 w_y_w_from_a0 w_x_w_to_a0)), .second] [])) _
        refine XS.iconst X12.here hx rfl (hb hby d5_64) ?_
        show Steps p.tables e below (T12.setTop (mkF m 65 #[.val (.ref a0), .val (.double d1), .second, .val (.double d2), .second, .val (.double (v5_15 d1 d2 w_x_w_from_a0 w_y_w_to_a0 w_y_w_from_a0 w_x_w_to_a0)), .second, .val (.double (v5_32 d1 d2 w_x_w_from_a0 w_y_w_to_a0 w_y_w_from_a0 w_x_w_to_a0)), .second] [(.int (1 : Int32))])) _
        refine XS.goto X12.here hx rfl (pc0 := 65) (pc' := 69) rfl (hb hby d5_65) (by decide) (by decide) ?_
        exact kt61
    show Steps p.tables e below (T12.setTop (mkF m 69 #[.val (.ref a0), .val (.double d1), .second, .val (.double d2), .second, .val (.double (v5_15 d1 d2 w_x_w_from_a0 w_y_w_to_a0 w_y_w_from_a0 w_x_w_to_a0)), .second, .val (.double (v5_32 d1 d2 w_x_w_from_a0 w_y_w_to_a0 w_y_w_from_a0 w_x_w_to_a0)), .second] [(.int (j5_61_s0 d1 d2 w_x_w_from_a0 w_y_w_to_a0 w_y_w_from_a0 w_x_w_to_a0))])) _
    exact retN X12 hx (t := .boolean) Bd.returns (by simp) (hb hby d5_69) hr
  · show Q5 Z a0 d1 d2 w_from_a0 w_x_w_from_a0 w_to_a0 w_y_w_to_a0 w_y_w_from_a0 w_x_w_to_a0 h0 n0 _ T12.heap _
    exact ⟨rfl, N12, (hq12.trans (hq10.trans (hq8.trans (hq6.trans (hq4.trans (hq2))))))⟩
theorem pn_0 : plainName "com/example/ped3/ped3/model/WallFacesPinLaw" = true := by first | (simp [plainName, overriddenIn]; done) | decide +kernel
theorem ef_0 (m : MethodId) (p0 : Int32) (p1 : Int32) (p2 : Int32) (p3 : Int32) (p4 : Int32) (p5 : Int32) : entryFrame m #[(.int p0), (.int p1), (.int p2), (.int p3), (.int p4), (.int p5)] maxLocals = mkF m 0 #[.val (.int p0), .val (.int p1), .val (.int p2), .val (.int p3), .val (.int p4), .val (.int p5), .unset, .unset, .unset, .unset, .unset, .unset, .unset, .unset, .unset, .unset] [] := by first | (simp [entryFrame, mkF, argsToLocals, Value.category, maxLocals]; done) | rfl
def Q0 (Z : State) (p0 : Int32) (p1 : Int32) (p2 : Int32) (p3 : Int32) (p4 : Int32) (p5 : Int32) (h0 : Heap) (n0 : Nat) (v : Option Value) (h : Heap) (L : List Loc) : Prop := v = some (.int (1 : Int32)) ∧ Fr n0 L
set_option maxRecDepth 65536 in
set_option maxHeartbeats 40000000 in
theorem rm0 (l : Launch) (Z : State) (aw : Array Value) (hw : ∀ d ∈ tables_1, d.before aw Z = true) (ws : List Jvm.Cond) (p0 : Int32) (p1 : Int32) (p2 : Int32) (p3 : Int32) (p4 : Int32) (p5 : Int32) (h0 : Heap) (n0 : Nat) (Z0 : n0 ≤ h0.size) (hn14_144 : Jvm.Free.Fl.NoNaN64 (FP.dsub (FP.i2d (v0_16 p0 p1 p2 p3 p4 p5)) (FP.i2d (v0_4 p0 p1 p2 p3 p4 p5)))) (hn31_144 : Jvm.Free.Fl.NoNaN64 (FP.dsub (FP.i2d (v0_22 p0 p1 p2 p3 p4 p5)) (FP.i2d (v0_10 p0 p1 p2 p3 p4 p5)))) (hn44_144 : Jvm.Free.Fl.NoNaN64 (FP.dsub (FP.i2d (v0_36 p0 p1 p2 p3 p4 p5)) (FP.i2d (v0_10 p0 p1 p2 p3 p4 p5)))) (hn45_144 : Jvm.Free.Fl.NoNaN64 (FP.dmul (v5_15 (FP.i2d (v0_29 p0 p1 p2 p3 p4 p5)) (FP.i2d (v0_36 p0 p1 p2 p3 p4 p5)) (FP.i2d (v0_4 p0 p1 p2 p3 p4 p5)) (FP.i2d (v0_22 p0 p1 p2 p3 p4 p5)) (FP.i2d (v0_10 p0 p1 p2 p3 p4 p5)) (FP.i2d (v0_16 p0 p1 p2 p3 p4 p5))) (FP.dsub (FP.i2d (v0_36 p0 p1 p2 p3 p4 p5)) (FP.i2d (v0_10 p0 p1 p2 p3 p4 p5))))) (hn56_144 : Jvm.Free.Fl.NoNaN64 (FP.dsub (FP.i2d (v0_29 p0 p1 p2 p3 p4 p5)) (FP.i2d (v0_4 p0 p1 p2 p3 p4 p5)))) (hn57_144 : Jvm.Free.Fl.NoNaN64 (FP.dmul (v5_32 (FP.i2d (v0_29 p0 p1 p2 p3 p4 p5)) (FP.i2d (v0_36 p0 p1 p2 p3 p4 p5)) (FP.i2d (v0_4 p0 p1 p2 p3 p4 p5)) (FP.i2d (v0_22 p0 p1 p2 p3 p4 p5)) (FP.i2d (v0_10 p0 p1 p2 p3 p4 p5)) (FP.i2d (v0_16 p0 p1 p2 p3 p4 p5))) (FP.dsub (FP.i2d (v0_29 p0 p1 p2 p3 p4 p5)) (FP.i2d (v0_4 p0 p1 p2 p3 p4 p5))))) (hn58_144 : Jvm.Free.Fl.NoNaN64 (FP.dsub (FP.dmul (v5_15 (FP.i2d (v0_29 p0 p1 p2 p3 p4 p5)) (FP.i2d (v0_36 p0 p1 p2 p3 p4 p5)) (FP.i2d (v0_4 p0 p1 p2 p3 p4 p5)) (FP.i2d (v0_22 p0 p1 p2 p3 p4 p5)) (FP.i2d (v0_10 p0 p1 p2 p3 p4 p5)) (FP.i2d (v0_16 p0 p1 p2 p3 p4 p5))) (FP.dsub (FP.i2d (v0_36 p0 p1 p2 p3 p4 p5)) (FP.i2d (v0_10 p0 p1 p2 p3 p4 p5)))) (FP.dmul (v5_32 (FP.i2d (v0_29 p0 p1 p2 p3 p4 p5)) (FP.i2d (v0_36 p0 p1 p2 p3 p4 p5)) (FP.i2d (v0_4 p0 p1 p2 p3 p4 p5)) (FP.i2d (v0_22 p0 p1 p2 p3 p4 p5)) (FP.i2d (v0_10 p0 p1 p2 p3 p4 p5)) (FP.i2d (v0_16 p0 p1 p2 p3 p4 p5))) (FP.dsub (FP.i2d (v0_29 p0 p1 p2 p3 p4 p5)) (FP.i2d (v0_4 p0 p1 p2 p3 p4 p5)))))) (hres157 : (j0_149_s0 p0 p1 p2 p3 p4 p5) = (1 : Int32)) :
    MetFree l x (head1 (Jvm.Cond.code x code maxLocals ret :: ws) room_1) (fun a U => a = #[(.int p0), (.int p1), (.int p2), (.int p3), (.int p4), (.int p5)] ∧ Z.Warmed39 U.vm ∧ U.heap = h0) (fun _ _ _ _ _ => True) (fun _ U o U' => ∃ v L, o = .returned v ∧ Q0 Z p0 p1 p2 p3 p4 p5 h0 n0 v U'.heap L ∧ FrameEnd U o U' L 3 6) := by
  refine MetFree.of_bodySF (plainFor_of_name pn_0) hisR ?_
  intro p e s m args below meth c s₁ Bd hml0 hP hK
  obtain ⟨rfl, hZ, hh⟩ := hP
  have hx := Bd.exec
  have hby := Bd.bytes
  have hml : c.maxLocals = 16 := hml0
  have hown : s.vm.findClass "com/example/ped3/ped3/model/WallFacesPinLaw" = some m.cls := findClass_of_methodNamed Bd.named
  have hnm := (name_of_methodNamed Bd.named Bd.method).1
  have X0 : Stand p l e room_1 s m #[(.int p0), (.int p1), (.int p2), (.int p3), (.int p4), (.int p5)] below meth c s₁ [] 0 0 := Stand.of_body Bd
  have e0 : s₁.heap = h0 := by rw [← hh, Bd.state]; rfl
  have N0 := Fr.nil n0
  have pre0 : ∀ t, Steps p.tables e below (s₁.setTop (mkF m 0 #[.val (.int p0), .val (.int p1), .val (.int p2), .val (.int p3), .val (.int p4), .val (.int p5), .unset, .unset, .unset, .unset, .unset, .unset, .unset, .unset, .unset, .unset] [])) t → Steps p.tables e below (s₁.setTop (entryFrame m #[(.int p0), (.int p1), (.int p2), (.int p3), (.int p4), (.int p5)] maxLocals)) t := fun t k => castTop (ef_0 m p0 p1 p2 p3 p4 p5) k
  obtain ⟨T1, h1, X1, e1, E1, A1, D1, -, st1⟩ := newO X0 hx hZ hown (hw _ (List.mem_of_getElem? (i := 1) rfl)) (hw _ (List.mem_of_getElem? (i := 2) rfl)) (hw _ (List.mem_of_getElem? (i := 3) rfl)) e0 (g := (mkF m 38 #[.val (.int p0), .val (.int p1), .val (.int p2), .val (.int p3), .val (.int p4), .val (.int p5), .val (.int (v0_4 p0 p1 p2 p3 p4 p5)), .val (.int (v0_10 p0 p1 p2 p3 p4 p5)), .val (.int (v0_16 p0 p1 p2 p3 p4 p5)), .val (.int (v0_22 p0 p1 p2 p3 p4 p5)), .val (.int (v0_29 p0 p1 p2 p3 p4 p5)), .val (.int (v0_36 p0 p1 p2 p3 p4 p5)), .unset, .unset, .unset, .unset] [])) rfl (hb hby at_38) (by decide) (by decide)
  obtain ⟨b1, g1⟩ : ∃ z, z = h0.size := ⟨_, rfl⟩
  rw [← g1] at A1 D1 st1
  have g_b1 : n0 ≤ b1 := Nat.le_trans Z0 (Nat.le_of_eq g1.symm)
  have z1 : n0 ≤ h1.size := Nat.le_trans Z0 E1.1
  have F1_from : Fld Z h1 b1 "com/example/ped3/ped3/model/Wall" "from" "Lcom/example/ped3/ped3/model/Position;" .null := D1 (Or.inr (hw _ (List.mem_of_getElem? (i := 27) rfl))) (ty := (.object "com/example/ped3/ped3/model/Position")) (by decide)
  have F1_to : Fld Z h1 b1 "com/example/ped3/ped3/model/Wall" "to" "Lcom/example/ped3/ped3/model/Position;" .null := D1 (Or.inr (hw _ (List.mem_of_getElem? (i := 29) rfl))) (ty := (.object "com/example/ped3/ped3/model/Position")) (by decide)
  obtain ⟨T2, h2, X2, e2, E2, A2, D2, -, st2⟩ := newO X1 hx hZ hown (hw _ (List.mem_of_getElem? (i := 4) rfl)) (hw _ (List.mem_of_getElem? (i := 5) rfl)) (hw _ (List.mem_of_getElem? (i := 6) rfl)) e1 (g := (mkF m 42 #[.val (.int p0), .val (.int p1), .val (.int p2), .val (.int p3), .val (.int p4), .val (.int p5), .val (.int (v0_4 p0 p1 p2 p3 p4 p5)), .val (.int (v0_10 p0 p1 p2 p3 p4 p5)), .val (.int (v0_16 p0 p1 p2 p3 p4 p5)), .val (.int (v0_22 p0 p1 p2 p3 p4 p5)), .val (.int (v0_29 p0 p1 p2 p3 p4 p5)), .val (.int (v0_36 p0 p1 p2 p3 p4 p5)), .unset, .unset, .unset, .unset] [(.ref b1), (.ref b1)])) rfl (hb hby at_42) (by decide) (by decide)
  obtain ⟨b2, g2⟩ : ∃ z, z = h1.size := ⟨_, rfl⟩
  rw [← g2] at A2 D2 st2
  have ne_b1_b2 : b1 ≠ b2 := Nat.ne_of_lt (Nat.lt_of_lt_of_eq A1.lt g2.symm)
  have ne_b2_b1 := ne_b1_b2.symm
  have f2_0 : Exa Z h2 b1 "com/example/ped3/ped3/model/Wall" := A1.ext E2
  have f2_1 : Fld Z h2 b1 "com/example/ped3/ped3/model/Wall" "from" "Lcom/example/ped3/ped3/model/Position;" .null := F1_from.ext E2
  have f2_2 : Fld Z h2 b1 "com/example/ped3/ped3/model/Wall" "to" "Lcom/example/ped3/ped3/model/Position;" .null := F1_to.ext E2
  have g_b2 : n0 ≤ b2 := Nat.le_trans z1 (Nat.le_of_eq g2.symm)
  have z2 : n0 ≤ h2.size := Nat.le_trans z1 E2.1
  have F2_x : Fld Z h2 b2 "com/example/ped3/ped3/model/Position" "x" "D" (.double (0 : UInt64)) := D2 (Or.inr (hw _ (List.mem_of_getElem? (i := 19) rfl))) (ty := .double) (by decide)
  have F2_y : Fld Z h2 b2 "com/example/ped3/ped3/model/Position" "y" "D" (.double (0 : UInt64)) := D2 (Or.inr (hw _ (List.mem_of_getElem? (i := 21) rfl))) (ty := .double) (by decide)
  obtain ⟨_, _, ⟨T3, L3, k3, n3⟩, -, X3, ⟨Lc3, hQ3, l3, y3, z3'⟩, st3⟩ := X2.specialBack hx (y := (⟨"com/example/ped3/ped3/model/Position", "<init>", "(DD)V"⟩ : MethodName)) rfl hown (mvT hZ (hw _ (List.mem_of_getElem? (i := 7) rfl))) (mvT hZ (hw _ (List.mem_of_getElem? (i := 8) rfl))) (mvT hZ (hw _ (List.mem_of_getElem? (i := 9) rfl))) (by decide) (backOf (W := 3) (rm1 l Z aw hw [] b2 (FP.i2d (v0_4 p0 p1 p2 p3 p4 p5)) (FP.i2d (v0_10 p0 p1 p2 p3 p4 p5)) (.double (0 : UInt64)) (.double (0 : UInt64)) h2 n0 z2 A2 F2_x F2_y g_b2) hZ (hw _ (List.mem_of_getElem? (i := 9) rfl)) (hw _ (List.mem_of_getElem? (i := 6) rfl)) (by decide) (by decide)) (g := (mkF m 52 #[.val (.int p0), .val (.int p1), .val (.int p2), .val (.int p3), .val (.int p4), .val (.int p5), .val (.int (v0_4 p0 p1 p2 p3 p4 p5)), .val (.int (v0_10 p0 p1 p2 p3 p4 p5)), .val (.int (v0_16 p0 p1 p2 p3 p4 p5)), .val (.int (v0_22 p0 p1 p2 p3 p4 p5)), .val (.int (v0_29 p0 p1 p2 p3 p4 p5)), .val (.int (v0_36 p0 p1 p2 p3 p4 p5)), .unset, .unset, .unset, .unset] [(.double (FP.i2d (v0_10 p0 p1 p2 p3 p4 p5))), (.double (FP.i2d (v0_4 p0 p1 p2 p3 p4 p5))), (.ref b2), (.ref b2), (.ref b1), (.ref b1)])) rfl (by rw [hml]; rfl) (Steps.refl _) (a := b2) (argsL := [(.double (FP.i2d (v0_4 p0 p1 p2 p3 p4 p5))), (.double (FP.i2d (v0_10 p0 p1 p2 p3 p4 p5)))]) (rest := [(.ref b2), (.ref b1), (.ref b1)]) (lenOf pd_2 rfl) rfl (by show 2 * 0 + _ ≤ _; exact Nat.le_of_eq rfl) (hb hby at_52) (fun _ _ => ⟨rfl, e2, (by decide : 2 + 0 ≤ _), (by decide : 4 + 0 ≤ _)⟩)
  dsimp only [Pt.U, Pt.locs, Pt.cells, Pt.slots] at X3 l3 y3 z3' st3 hQ3
  subst l3 y3 z3'
  obtain ⟨rfl, N3q, K3q, x3, f3_k0, f3_k1⟩ := hQ3
  have f3_0 : Exa Z T3.heap b1 "com/example/ped3/ped3/model/Wall" := f2_0.keep K3q
  have f3_1 : Fld Z T3.heap b1 "com/example/ped3/ped3/model/Wall" "from" "Lcom/example/ped3/ped3/model/Position;" .null := f2_1.keep K3q (by simpa using ne_b1_b2)
  have f3_2 : Fld Z T3.heap b1 "com/example/ped3/ped3/model/Wall" "to" "Lcom/example/ped3/ped3/model/Position;" .null := f2_2.keep K3q (by simpa using ne_b1_b2)
  have z3 : n0 ≤ T3.heap.size := Nat.le_trans z2 K3q.1
  have N3 := Fr.app N0 N3q
  obtain ⟨T4, h4, X4, e4, E4, A4, D4, -, st4⟩ := newO X3 hx hZ hown (hw _ (List.mem_of_getElem? (i := 4) rfl)) (hw _ (List.mem_of_getElem? (i := 5) rfl)) (hw _ (List.mem_of_getElem? (i := 6) rfl)) rfl (g := (mkF m 55 #[.val (.int p0), .val (.int p1), .val (.int p2), .val (.int p3), .val (.int p4), .val (.int p5), .val (.int (v0_4 p0 p1 p2 p3 p4 p5)), .val (.int (v0_10 p0 p1 p2 p3 p4 p5)), .val (.int (v0_16 p0 p1 p2 p3 p4 p5)), .val (.int (v0_22 p0 p1 p2 p3 p4 p5)), .val (.int (v0_29 p0 p1 p2 p3 p4 p5)), .val (.int (v0_36 p0 p1 p2 p3 p4 p5)), .unset, .unset, .unset, .unset] [(.ref b2), (.ref b1), (.ref b1)])) rfl (hb hby at_55) (by decide) (by decide)
  obtain ⟨b4, g4⟩ : ∃ z, z = T3.heap.size := ⟨_, rfl⟩
  rw [← g4] at A4 D4 st4
  have ne_b1_b4 : b1 ≠ b4 := Nat.ne_of_lt (Nat.lt_of_lt_of_eq f3_0.lt g4.symm)
  have ne_b4_b1 := ne_b1_b4.symm
  have ne_b2_b4 : b2 ≠ b4 := Nat.ne_of_lt (Nat.lt_of_lt_of_eq x3.lt g4.symm)
  have ne_b4_b2 := ne_b2_b4.symm
  have f4_0 : Exa Z h4 b1 "com/example/ped3/ped3/model/Wall" := f3_0.ext E4
  have f4_1 : Fld Z h4 b1 "com/example/ped3/ped3/model/Wall" "from" "Lcom/example/ped3/ped3/model/Position;" .null := f3_1.ext E4
  have f4_2 : Fld Z h4 b1 "com/example/ped3/ped3/model/Wall" "to" "Lcom/example/ped3/ped3/model/Position;" .null := f3_2.ext E4
  have f4_3 : Exa Z h4 b2 "com/example/ped3/ped3/model/Position" := x3.ext E4
  have f4_4 : Fld Z h4 b2 "com/example/ped3/ped3/model/Position" "x" "D" (.double (FP.i2d (v0_4 p0 p1 p2 p3 p4 p5))) := f3_k0.ext E4
  have f4_5 : Fld Z h4 b2 "com/example/ped3/ped3/model/Position" "y" "D" (.double (FP.i2d (v0_10 p0 p1 p2 p3 p4 p5))) := f3_k1.ext E4
  have g_b4 : n0 ≤ b4 := Nat.le_trans z3 (Nat.le_of_eq g4.symm)
  have z4 : n0 ≤ h4.size := Nat.le_trans z3 E4.1
  have F4_x : Fld Z h4 b4 "com/example/ped3/ped3/model/Position" "x" "D" (.double (0 : UInt64)) := D4 (Or.inr (hw _ (List.mem_of_getElem? (i := 19) rfl))) (ty := .double) (by decide)
  have F4_y : Fld Z h4 b4 "com/example/ped3/ped3/model/Position" "y" "D" (.double (0 : UInt64)) := D4 (Or.inr (hw _ (List.mem_of_getElem? (i := 21) rfl))) (ty := .double) (by decide)
  obtain ⟨_, _, ⟨T5, L5, k5, n5⟩, -, X5, ⟨Lc5, hQ5, l5, y5, z5'⟩, st5⟩ := X4.specialBack hx (y := (⟨"com/example/ped3/ped3/model/Position", "<init>", "(DD)V"⟩ : MethodName)) rfl hown (mvT hZ (hw _ (List.mem_of_getElem? (i := 7) rfl))) (mvT hZ (hw _ (List.mem_of_getElem? (i := 8) rfl))) (mvT hZ (hw _ (List.mem_of_getElem? (i := 9) rfl))) (by decide) (backOf (W := 4) (rm1 l Z aw hw [] b4 (FP.i2d (v0_16 p0 p1 p2 p3 p4 p5)) (FP.i2d (v0_22 p0 p1 p2 p3 p4 p5)) (.double (0 : UInt64)) (.double (0 : UInt64)) h4 n0 z4 A4 F4_x F4_y g_b4) hZ (hw _ (List.mem_of_getElem? (i := 9) rfl)) (hw _ (List.mem_of_getElem? (i := 6) rfl)) (by decide) (by decide)) (g := (mkF m 65 #[.val (.int p0), .val (.int p1), .val (.int p2), .val (.int p3), .val (.int p4), .val (.int p5), .val (.int (v0_4 p0 p1 p2 p3 p4 p5)), .val (.int (v0_10 p0 p1 p2 p3 p4 p5)), .val (.int (v0_16 p0 p1 p2 p3 p4 p5)), .val (.int (v0_22 p0 p1 p2 p3 p4 p5)), .val (.int (v0_29 p0 p1 p2 p3 p4 p5)), .val (.int (v0_36 p0 p1 p2 p3 p4 p5)), .unset, .unset, .unset, .unset] [(.double (FP.i2d (v0_22 p0 p1 p2 p3 p4 p5))), (.double (FP.i2d (v0_16 p0 p1 p2 p3 p4 p5))), (.ref b4), (.ref b4), (.ref b2), (.ref b1), (.ref b1)])) rfl (by rw [hml]; rfl) (Steps.refl _) (a := b4) (argsL := [(.double (FP.i2d (v0_16 p0 p1 p2 p3 p4 p5))), (.double (FP.i2d (v0_22 p0 p1 p2 p3 p4 p5)))]) (rest := [(.ref b4), (.ref b2), (.ref b1), (.ref b1)]) (lenOf pd_2 rfl) rfl (by show 2 * 0 + _ ≤ _; exact Nat.le_of_eq rfl) (hb hby at_65) (fun _ _ => ⟨rfl, e4, (by decide : 3 + 0 ≤ _), (by decide : 6 + 0 ≤ _)⟩)
  dsimp only [Pt.U, Pt.locs, Pt.cells, Pt.slots] at X5 l5 y5 z5' st5 hQ5
  subst l5 y5 z5'
  obtain ⟨rfl, N5q, K5q, x5, f5_k0, f5_k1⟩ := hQ5
  have f5_0 : Exa Z T5.heap b1 "com/example/ped3/ped3/model/Wall" := f4_0.keep K5q
  have f5_1 : Fld Z T5.heap b1 "com/example/ped3/ped3/model/Wall" "from" "Lcom/example/ped3/ped3/model/Position;" .null := f4_1.keep K5q (by simpa using ne_b1_b4)
  have f5_2 : Fld Z T5.heap b1 "com/example/ped3/ped3/model/Wall" "to" "Lcom/example/ped3/ped3/model/Position;" .null := f4_2.keep K5q (by simpa using ne_b1_b4)
  have f5_3 : Exa Z T5.heap b2 "com/example/ped3/ped3/model/Position" := f4_3.keep K5q
  have f5_4 : Fld Z T5.heap b2 "com/example/ped3/ped3/model/Position" "x" "D" (.double (FP.i2d (v0_4 p0 p1 p2 p3 p4 p5))) := f4_4.keep K5q (by simpa using ne_b2_b4)
  have f5_5 : Fld Z T5.heap b2 "com/example/ped3/ped3/model/Position" "y" "D" (.double (FP.i2d (v0_10 p0 p1 p2 p3 p4 p5))) := f4_5.keep K5q (by simpa using ne_b2_b4)
  have z5 : n0 ≤ T5.heap.size := Nat.le_trans z4 K5q.1
  have N5 := Fr.app N3 N5q
  obtain ⟨_, _, ⟨T6, L6, k6, n6⟩, -, X6, ⟨Lc6, hQ6, l6, y6, z6'⟩, st6⟩ := X5.specialBack hx (y := (⟨"com/example/ped3/ped3/model/Wall", "<init>", "(Lcom/example/ped3/ped3/model/Position;Lcom/example/ped3/ped3/model/Position;)V"⟩ : MethodName)) rfl hown (mvT hZ (hw _ (List.mem_of_getElem? (i := 22) rfl))) (mvT hZ (hw _ (List.mem_of_getElem? (i := 23) rfl))) (mvT hZ (hw _ (List.mem_of_getElem? (i := 24) rfl))) (by decide) (backOf (W := 1) (rm4 l Z aw hw [] b1 b2 b4 .null .null T5.heap n0 z5 f5_0 f5_1 f5_2 g_b1) hZ (hw _ (List.mem_of_getElem? (i := 24) rfl)) (hw _ (List.mem_of_getElem? (i := 3) rfl)) (by decide) (by decide)) (g := (mkF m 68 #[.val (.int p0), .val (.int p1), .val (.int p2), .val (.int p3), .val (.int p4), .val (.int p5), .val (.int (v0_4 p0 p1 p2 p3 p4 p5)), .val (.int (v0_10 p0 p1 p2 p3 p4 p5)), .val (.int (v0_16 p0 p1 p2 p3 p4 p5)), .val (.int (v0_22 p0 p1 p2 p3 p4 p5)), .val (.int (v0_29 p0 p1 p2 p3 p4 p5)), .val (.int (v0_36 p0 p1 p2 p3 p4 p5)), .unset, .unset, .unset, .unset] [(.ref b4), (.ref b2), (.ref b1), (.ref b1)])) rfl (by rw [hml]; rfl) (Steps.refl _) (a := b1) (argsL := [(.ref b2), (.ref b4)]) (rest := [(.ref b1)]) (lenOf pd_3 rfl) rfl (by show 2 * 0 + _ ≤ _; exact Nat.le_of_eq rfl) (hb hby at_68) (fun _ _ => ⟨rfl, rfl, (by decide : 3 + 0 ≤ _), (by decide : 6 + 0 ≤ _)⟩)
  dsimp only [Pt.U, Pt.locs, Pt.cells, Pt.slots] at X6 l6 y6 z6' st6 hQ6
  subst l6 y6 z6'
  obtain ⟨rfl, N6q, K6q, x6, f6_k0, f6_k1⟩ := hQ6
  have f6_3 : Exa Z T6.heap b2 "com/example/ped3/ped3/model/Position" := f5_3.keep K6q
  have f6_4 : Fld Z T6.heap b2 "com/example/ped3/ped3/model/Position" "x" "D" (.double (FP.i2d (v0_4 p0 p1 p2 p3 p4 p5))) := f5_4.keep K6q (by simpa using ne_b2_b1)
  have f6_5 : Fld Z T6.heap b2 "com/example/ped3/ped3/model/Position" "y" "D" (.double (FP.i2d (v0_10 p0 p1 p2 p3 p4 p5))) := f5_5.keep K6q (by simpa using ne_b2_b1)
  have f6_6 : Exa Z T6.heap b4 "com/example/ped3/ped3/model/Position" := x5.keep K6q
  have f6_7 : Fld Z T6.heap b4 "com/example/ped3/ped3/model/Position" "x" "D" (.double (FP.i2d (v0_16 p0 p1 p2 p3 p4 p5))) := f5_k0.keep K6q (by simpa using ne_b4_b1)
  have f6_8 : Fld Z T6.heap b4 "com/example/ped3/ped3/model/Position" "y" "D" (.double (FP.i2d (v0_22 p0 p1 p2 p3 p4 p5))) := f5_k1.keep K6q (by simpa using ne_b4_b1)
  have z6 : n0 ≤ T6.heap.size := Nat.le_trans z5 K6q.1
  have N6 := Fr.app N5 N6q
  obtain ⟨cq7, kq7, q7a, q7b, q7c⟩ := isOf hZ rfl x6
  obtain ⟨_, _, ⟨T7, L7, k7, n7⟩, -, X7, ⟨Lc7, hQ7, l7, y7, z7'⟩, st7⟩ := X6.virtualBack hx (y := (⟨"com/example/ped3/ped3/model/Wall", "faces", "(DD)Z"⟩ : MethodName)) (z := (⟨"com/example/ped3/ped3/model/Wall", "faces", "(DD)Z"⟩ : MethodName)) hown (mvT hZ (hw _ (List.mem_of_getElem? (i := 30) rfl))) (mvT hZ (hw _ (List.mem_of_getElem? (i := 31) rfl))) (notFace_of_selects (args := #[]) (mvT hZ (hw _ (List.mem_of_getElem? (i := 33) rfl)))) (mvT hZ (hw _ (List.mem_of_getElem? (i := 33) rfl))) (mvT hZ (hw _ (List.mem_of_getElem? (i := 32) rfl))) (by decide) (backOf (W := 0) (rm5 l Z aw hw [] b1 (FP.i2d (v0_29 p0 p1 p2 p3 p4 p5)) (FP.i2d (v0_36 p0 p1 p2 p3 p4 p5)) b2 (FP.i2d (v0_4 p0 p1 p2 p3 p4 p5)) b4 (FP.i2d (v0_22 p0 p1 p2 p3 p4 p5)) (FP.i2d (v0_10 p0 p1 p2 p3 p4 p5)) (FP.i2d (v0_16 p0 p1 p2 p3 p4 p5)) T6.heap n0 z6 f6_k0 f6_4 f6_3 f6_k1 f6_8 f6_5 f6_7 f6_6 hn14_144 hn31_144 hn44_144 hn45_144 hn56_144 hn57_144 hn58_144) hZ (hw _ (List.mem_of_getElem? (i := 34) rfl)) (hw _ (List.mem_of_getElem? (i := 3) rfl)) (by decide) (by decide)) q7a q7c (g := (mkF m 144 #[.val (.int p0), .val (.int p1), .val (.int p2), .val (.int p3), .val (.int p4), .val (.int p5), .val (.int (v0_4 p0 p1 p2 p3 p4 p5)), .val (.int (v0_10 p0 p1 p2 p3 p4 p5)), .val (.int (v0_16 p0 p1 p2 p3 p4 p5)), .val (.int (v0_22 p0 p1 p2 p3 p4 p5)), .val (.int (v0_29 p0 p1 p2 p3 p4 p5)), .val (.int (v0_36 p0 p1 p2 p3 p4 p5)), .val (.ref b1), .val (.long (v0_120 p0 p1 p2 p3 p4 p5)), .second, .val (.int (j0_126_s0 p0 p1 p2 p3 p4 p5))] [(.double (FP.i2d (v0_36 p0 p1 p2 p3 p4 p5))), (.double (FP.i2d (v0_29 p0 p1 p2 p3 p4 p5))), (.ref b1)])) rfl (by rw [hml]; rfl) (Steps.refl _) (argsL := [(.double (FP.i2d (v0_29 p0 p1 p2 p3 p4 p5))), (.double (FP.i2d (v0_36 p0 p1 p2 p3 p4 p5)))]) (rest := []) (lenOf pd_4 rfl) rfl (by show 2 * 0 + _ ≤ _; exact Nat.le_of_eq rfl) (hb hby at_144) (fun _ _ => ⟨rfl, rfl, (by decide : 3 + 0 ≤ _), (by decide : 6 + 0 ≤ _)⟩)
  dsimp only [Pt.U, Pt.locs, Pt.cells, Pt.slots] at X7 l7 y7 z7' st7 hQ7
  subst l7 y7 z7'
  obtain ⟨rfl, N7q, hq7⟩ := hQ7
  have f7_0 : Exa Z T7.heap b2 "com/example/ped3/ped3/model/Position" := by rw [hq7]; exact f6_3
  have f7_1 : Fld Z T7.heap b2 "com/example/ped3/ped3/model/Position" "x" "D" (.double (FP.i2d (v0_4 p0 p1 p2 p3 p4 p5))) := by rw [hq7]; exact f6_4
  have f7_2 : Fld Z T7.heap b2 "com/example/ped3/ped3/model/Position" "y" "D" (.double (FP.i2d (v0_10 p0 p1 p2 p3 p4 p5))) := by rw [hq7]; exact f6_5
  have f7_3 : Exa Z T7.heap b4 "com/example/ped3/ped3/model/Position" := by rw [hq7]; exact f6_6
  have f7_4 : Fld Z T7.heap b4 "com/example/ped3/ped3/model/Position" "x" "D" (.double (FP.i2d (v0_16 p0 p1 p2 p3 p4 p5))) := by rw [hq7]; exact f6_7
  have f7_5 : Fld Z T7.heap b4 "com/example/ped3/ped3/model/Position" "y" "D" (.double (FP.i2d (v0_22 p0 p1 p2 p3 p4 p5))) := by rw [hq7]; exact f6_8
  have f7_6 : Exa Z T7.heap b1 "com/example/ped3/ped3/model/Wall" := by rw [hq7]; exact x6
  have f7_7 : Fld Z T7.heap b1 "com/example/ped3/ped3/model/Wall" "from" "Lcom/example/ped3/ped3/model/Position;" (.ref b2) := by rw [hq7]; exact f6_k0
  have f7_8 : Fld Z T7.heap b1 "com/example/ped3/ped3/model/Wall" "to" "Lcom/example/ped3/ped3/model/Position;" (.ref b4) := by rw [hq7]; exact f6_k1
  have z7 : n0 ≤ T7.heap.size := by rw [hq7]; exact z6
  have N7 := Fr.app N6 N7q
  obtain ⟨fs, hr, hrun, hended, hW, hsame⟩ := X7.leave (v := some (.int (1 : Int32))) (fun h => by rw [Bd.returns] at h; cases h)
  refine ⟨_, _, pre0 _ ?_, hrun, hended, _, _, rfl, ?_, ⟨_, rfl⟩, hW, hsame.mono (by decide) (by decide)⟩
  · show Steps p.tables e below (s₁.setTop (mkF m 0 #[.val (.int p0), .val (.int p1), .val (.int p2), .val (.int p3), .val (.int p4), .val (.int p5), .unset, .unset, .unset, .unset, .unset, .unset, .unset, .unset, .unset, .unset] [])) _
    refine XS.iloadN X0.here hx rfl (hb hby at_0) rfl ?_
    show Steps p.tables e below (s₁.setTop (mkF m 1 #[.val (.int p0), .val (.int p1), .val (.int p2), .val (.int p3), .val (.int p4), .val (.int p5), .unset, .unset, .unset, .unset, .unset, .unset, .unset, .unset, .unset, .unset] [(.int p0)])) _
    refine X0.ldcInt hx hown (mvT hZ (hw _ (List.mem_of_getElem? (i := 0) rfl))) (g := (mkF m 1 #[.val (.int p0), .val (.int p1), .val (.int p2), .val (.int p3), .val (.int p4), .val (.int p5), .unset, .unset, .unset, .unset, .unset, .unset, .unset, .unset, .unset, .unset] [(.int p0)])) rfl (hb hby at_1) _ ?_
    show Steps p.tables e below (s₁.setTop (mkF m 3 #[.val (.int p0), .val (.int p1), .val (.int p2), .val (.int p3), .val (.int p4), .val (.int p5), .unset, .unset, .unset, .unset, .unset, .unset, .unset, .unset, .unset, .unset] [(.int (1048576 : Int32)), (.int p0)])) _
    refine Jvm.OwnFP.iremM X0.here hx rfl (hb hby at_3) rfl (by decide) ?_
    show Steps p.tables e below (s₁.setTop (mkF m 4 #[.val (.int p0), .val (.int p1), .val (.int p2), .val (.int p3), .val (.int p4), .val (.int p5), .unset, .unset, .unset, .unset, .unset, .unset, .unset, .unset, .unset, .unset] [(.int (p0 % (1048576 : Int32)))])) _
    refine XS.istore X0.here hx rfl (hb hby at_4) rfl (l' := #[.val (.int p0), .val (.int p1), .val (.int p2), .val (.int p3), .val (.int p4), .val (.int p5), .val (.int (v0_4 p0 p1 p2 p3 p4 p5)), .unset, .unset, .unset, .unset, .unset, .unset, .unset, .unset, .unset]) rfl ?_
    show Steps p.tables e below (s₁.setTop (mkF m 6 #[.val (.int p0), .val (.int p1), .val (.int p2), .val (.int p3), .val (.int p4), .val (.int p5), .val (.int (v0_4 p0 p1 p2 p3 p4 p5)), .unset, .unset, .unset, .unset, .unset, .unset, .unset, .unset, .unset] [])) _
    refine XS.iloadN X0.here hx rfl (hb hby at_6) rfl ?_
    show Steps p.tables e below (s₁.setTop (mkF m 7 #[.val (.int p0), .val (.int p1), .val (.int p2), .val (.int p3), .val (.int p4), .val (.int p5), .val (.int (v0_4 p0 p1 p2 p3 p4 p5)), .unset, .unset, .unset, .unset, .unset, .unset, .unset, .unset, .unset] [(.int p1)])) _
    refine X0.ldcInt hx hown (mvT hZ (hw _ (List.mem_of_getElem? (i := 0) rfl))) (g := (mkF m 7 #[.val (.int p0), .val (.int p1), .val (.int p2), .val (.int p3), .val (.int p4), .val (.int p5), .val (.int (v0_4 p0 p1 p2 p3 p4 p5)), .unset, .unset, .unset, .unset, .unset, .unset, .unset, .unset, .unset] [(.int p1)])) rfl (hb hby at_7) _ ?_
    show Steps p.tables e below (s₁.setTop (mkF m 9 #[.val (.int p0), .val (.int p1), .val (.int p2), .val (.int p3), .val (.int p4), .val (.int p5), .val (.int (v0_4 p0 p1 p2 p3 p4 p5)), .unset, .unset, .unset, .unset, .unset, .unset, .unset, .unset, .unset] [(.int (1048576 : Int32)), (.int p1)])) _
    refine Jvm.OwnFP.iremM X0.here hx rfl (hb hby at_9) rfl (by decide) ?_
    show Steps p.tables e below (s₁.setTop (mkF m 10 #[.val (.int p0), .val (.int p1), .val (.int p2), .val (.int p3), .val (.int p4), .val (.int p5), .val (.int (v0_4 p0 p1 p2 p3 p4 p5)), .unset, .unset, .unset, .unset, .unset, .unset, .unset, .unset, .unset] [(.int (p1 % (1048576 : Int32)))])) _
    refine XS.istore X0.here hx rfl (hb hby at_10) rfl (l' := #[.val (.int p0), .val (.int p1), .val (.int p2), .val (.int p3), .val (.int p4), .val (.int p5), .val (.int (v0_4 p0 p1 p2 p3 p4 p5)), .val (.int (v0_10 p0 p1 p2 p3 p4 p5)), .unset, .unset, .unset, .unset, .unset, .unset, .unset, .unset]) rfl ?_
    show Steps p.tables e below (s₁.setTop (mkF m 12 #[.val (.int p0), .val (.int p1), .val (.int p2), .val (.int p3), .val (.int p4), .val (.int p5), .val (.int (v0_4 p0 p1 p2 p3 p4 p5)), .val (.int (v0_10 p0 p1 p2 p3 p4 p5)), .unset, .unset, .unset, .unset, .unset, .unset, .unset, .unset] [])) _
    refine XS.iloadN X0.here hx rfl (hb hby at_12) rfl ?_
    show Steps p.tables e below (s₁.setTop (mkF m 13 #[.val (.int p0), .val (.int p1), .val (.int p2), .val (.int p3), .val (.int p4), .val (.int p5), .val (.int (v0_4 p0 p1 p2 p3 p4 p5)), .val (.int (v0_10 p0 p1 p2 p3 p4 p5)), .unset, .unset, .unset, .unset, .unset, .unset, .unset, .unset] [(.int p2)])) _
    refine X0.ldcInt hx hown (mvT hZ (hw _ (List.mem_of_getElem? (i := 0) rfl))) (g := (mkF m 13 #[.val (.int p0), .val (.int p1), .val (.int p2), .val (.int p3), .val (.int p4), .val (.int p5), .val (.int (v0_4 p0 p1 p2 p3 p4 p5)), .val (.int (v0_10 p0 p1 p2 p3 p4 p5)), .unset, .unset, .unset, .unset, .unset, .unset, .unset, .unset] [(.int p2)])) rfl (hb hby at_13) _ ?_
    show Steps p.tables e below (s₁.setTop (mkF m 15 #[.val (.int p0), .val (.int p1), .val (.int p2), .val (.int p3), .val (.int p4), .val (.int p5), .val (.int (v0_4 p0 p1 p2 p3 p4 p5)), .val (.int (v0_10 p0 p1 p2 p3 p4 p5)), .unset, .unset, .unset, .unset, .unset, .unset, .unset, .unset] [(.int (1048576 : Int32)), (.int p2)])) _
    refine Jvm.OwnFP.iremM X0.here hx rfl (hb hby at_15) rfl (by decide) ?_
    show Steps p.tables e below (s₁.setTop (mkF m 16 #[.val (.int p0), .val (.int p1), .val (.int p2), .val (.int p3), .val (.int p4), .val (.int p5), .val (.int (v0_4 p0 p1 p2 p3 p4 p5)), .val (.int (v0_10 p0 p1 p2 p3 p4 p5)), .unset, .unset, .unset, .unset, .unset, .unset, .unset, .unset] [(.int (p2 % (1048576 : Int32)))])) _
    refine XS.istore X0.here hx rfl (hb hby at_16) rfl (l' := #[.val (.int p0), .val (.int p1), .val (.int p2), .val (.int p3), .val (.int p4), .val (.int p5), .val (.int (v0_4 p0 p1 p2 p3 p4 p5)), .val (.int (v0_10 p0 p1 p2 p3 p4 p5)), .val (.int (v0_16 p0 p1 p2 p3 p4 p5)), .unset, .unset, .unset, .unset, .unset, .unset, .unset]) rfl ?_
    show Steps p.tables e below (s₁.setTop (mkF m 18 #[.val (.int p0), .val (.int p1), .val (.int p2), .val (.int p3), .val (.int p4), .val (.int p5), .val (.int (v0_4 p0 p1 p2 p3 p4 p5)), .val (.int (v0_10 p0 p1 p2 p3 p4 p5)), .val (.int (v0_16 p0 p1 p2 p3 p4 p5)), .unset, .unset, .unset, .unset, .unset, .unset, .unset] [])) _
    refine XS.iloadN X0.here hx rfl (hb hby at_18) rfl ?_
    show Steps p.tables e below (s₁.setTop (mkF m 19 #[.val (.int p0), .val (.int p1), .val (.int p2), .val (.int p3), .val (.int p4), .val (.int p5), .val (.int (v0_4 p0 p1 p2 p3 p4 p5)), .val (.int (v0_10 p0 p1 p2 p3 p4 p5)), .val (.int (v0_16 p0 p1 p2 p3 p4 p5)), .unset, .unset, .unset, .unset, .unset, .unset, .unset] [(.int p3)])) _
    refine X0.ldcInt hx hown (mvT hZ (hw _ (List.mem_of_getElem? (i := 0) rfl))) (g := (mkF m 19 #[.val (.int p0), .val (.int p1), .val (.int p2), .val (.int p3), .val (.int p4), .val (.int p5), .val (.int (v0_4 p0 p1 p2 p3 p4 p5)), .val (.int (v0_10 p0 p1 p2 p3 p4 p5)), .val (.int (v0_16 p0 p1 p2 p3 p4 p5)), .unset, .unset, .unset, .unset, .unset, .unset, .unset] [(.int p3)])) rfl (hb hby at_19) _ ?_
    show Steps p.tables e below (s₁.setTop (mkF m 21 #[.val (.int p0), .val (.int p1), .val (.int p2), .val (.int p3), .val (.int p4), .val (.int p5), .val (.int (v0_4 p0 p1 p2 p3 p4 p5)), .val (.int (v0_10 p0 p1 p2 p3 p4 p5)), .val (.int (v0_16 p0 p1 p2 p3 p4 p5)), .unset, .unset, .unset, .unset, .unset, .unset, .unset] [(.int (1048576 : Int32)), (.int p3)])) _
    refine Jvm.OwnFP.iremM X0.here hx rfl (hb hby at_21) rfl (by decide) ?_
    show Steps p.tables e below (s₁.setTop (mkF m 22 #[.val (.int p0), .val (.int p1), .val (.int p2), .val (.int p3), .val (.int p4), .val (.int p5), .val (.int (v0_4 p0 p1 p2 p3 p4 p5)), .val (.int (v0_10 p0 p1 p2 p3 p4 p5)), .val (.int (v0_16 p0 p1 p2 p3 p4 p5)), .unset, .unset, .unset, .unset, .unset, .unset, .unset] [(.int (p3 % (1048576 : Int32)))])) _
    refine XS.istore X0.here hx rfl (hb hby at_22) rfl (l' := #[.val (.int p0), .val (.int p1), .val (.int p2), .val (.int p3), .val (.int p4), .val (.int p5), .val (.int (v0_4 p0 p1 p2 p3 p4 p5)), .val (.int (v0_10 p0 p1 p2 p3 p4 p5)), .val (.int (v0_16 p0 p1 p2 p3 p4 p5)), .val (.int (v0_22 p0 p1 p2 p3 p4 p5)), .unset, .unset, .unset, .unset, .unset, .unset]) rfl ?_
    show Steps p.tables e below (s₁.setTop (mkF m 24 #[.val (.int p0), .val (.int p1), .val (.int p2), .val (.int p3), .val (.int p4), .val (.int p5), .val (.int (v0_4 p0 p1 p2 p3 p4 p5)), .val (.int (v0_10 p0 p1 p2 p3 p4 p5)), .val (.int (v0_16 p0 p1 p2 p3 p4 p5)), .val (.int (v0_22 p0 p1 p2 p3 p4 p5)), .unset, .unset, .unset, .unset, .unset, .unset] [])) _
    refine XS.iload X0.here hx rfl (hb hby at_24) rfl ?_
    show Steps p.tables e below (s₁.setTop (mkF m 26 #[.val (.int p0), .val (.int p1), .val (.int p2), .val (.int p3), .val (.int p4), .val (.int p5), .val (.int (v0_4 p0 p1 p2 p3 p4 p5)), .val (.int (v0_10 p0 p1 p2 p3 p4 p5)), .val (.int (v0_16 p0 p1 p2 p3 p4 p5)), .val (.int (v0_22 p0 p1 p2 p3 p4 p5)), .unset, .unset, .unset, .unset, .unset, .unset] [(.int p4)])) _
    refine X0.ldcInt hx hown (mvT hZ (hw _ (List.mem_of_getElem? (i := 0) rfl))) (g := (mkF m 26 #[.val (.int p0), .val (.int p1), .val (.int p2), .val (.int p3), .val (.int p4), .val (.int p5), .val (.int (v0_4 p0 p1 p2 p3 p4 p5)), .val (.int (v0_10 p0 p1 p2 p3 p4 p5)), .val (.int (v0_16 p0 p1 p2 p3 p4 p5)), .val (.int (v0_22 p0 p1 p2 p3 p4 p5)), .unset, .unset, .unset, .unset, .unset, .unset] [(.int p4)])) rfl (hb hby at_26) _ ?_
    show Steps p.tables e below (s₁.setTop (mkF m 28 #[.val (.int p0), .val (.int p1), .val (.int p2), .val (.int p3), .val (.int p4), .val (.int p5), .val (.int (v0_4 p0 p1 p2 p3 p4 p5)), .val (.int (v0_10 p0 p1 p2 p3 p4 p5)), .val (.int (v0_16 p0 p1 p2 p3 p4 p5)), .val (.int (v0_22 p0 p1 p2 p3 p4 p5)), .unset, .unset, .unset, .unset, .unset, .unset] [(.int (1048576 : Int32)), (.int p4)])) _
    refine Jvm.OwnFP.iremM X0.here hx rfl (hb hby at_28) rfl (by decide) ?_
    show Steps p.tables e below (s₁.setTop (mkF m 29 #[.val (.int p0), .val (.int p1), .val (.int p2), .val (.int p3), .val (.int p4), .val (.int p5), .val (.int (v0_4 p0 p1 p2 p3 p4 p5)), .val (.int (v0_10 p0 p1 p2 p3 p4 p5)), .val (.int (v0_16 p0 p1 p2 p3 p4 p5)), .val (.int (v0_22 p0 p1 p2 p3 p4 p5)), .unset, .unset, .unset, .unset, .unset, .unset] [(.int (p4 % (1048576 : Int32)))])) _
    refine XS.istore X0.here hx rfl (hb hby at_29) rfl (l' := #[.val (.int p0), .val (.int p1), .val (.int p2), .val (.int p3), .val (.int p4), .val (.int p5), .val (.int (v0_4 p0 p1 p2 p3 p4 p5)), .val (.int (v0_10 p0 p1 p2 p3 p4 p5)), .val (.int (v0_16 p0 p1 p2 p3 p4 p5)), .val (.int (v0_22 p0 p1 p2 p3 p4 p5)), .val (.int (v0_29 p0 p1 p2 p3 p4 p5)), .unset, .unset, .unset, .unset, .unset]) rfl ?_
    show Steps p.tables e below (s₁.setTop (mkF m 31 #[.val (.int p0), .val (.int p1), .val (.int p2), .val (.int p3), .val (.int p4), .val (.int p5), .val (.int (v0_4 p0 p1 p2 p3 p4 p5)), .val (.int (v0_10 p0 p1 p2 p3 p4 p5)), .val (.int (v0_16 p0 p1 p2 p3 p4 p5)), .val (.int (v0_22 p0 p1 p2 p3 p4 p5)), .val (.int (v0_29 p0 p1 p2 p3 p4 p5)), .unset, .unset, .unset, .unset, .unset] [])) _
    refine XS.iload X0.here hx rfl (hb hby at_31) rfl ?_
    show Steps p.tables e below (s₁.setTop (mkF m 33 #[.val (.int p0), .val (.int p1), .val (.int p2), .val (.int p3), .val (.int p4), .val (.int p5), .val (.int (v0_4 p0 p1 p2 p3 p4 p5)), .val (.int (v0_10 p0 p1 p2 p3 p4 p5)), .val (.int (v0_16 p0 p1 p2 p3 p4 p5)), .val (.int (v0_22 p0 p1 p2 p3 p4 p5)), .val (.int (v0_29 p0 p1 p2 p3 p4 p5)), .unset, .unset, .unset, .unset, .unset] [(.int p5)])) _
    refine X0.ldcInt hx hown (mvT hZ (hw _ (List.mem_of_getElem? (i := 0) rfl))) (g := (mkF m 33 #[.val (.int p0), .val (.int p1), .val (.int p2), .val (.int p3), .val (.int p4), .val (.int p5), .val (.int (v0_4 p0 p1 p2 p3 p4 p5)), .val (.int (v0_10 p0 p1 p2 p3 p4 p5)), .val (.int (v0_16 p0 p1 p2 p3 p4 p5)), .val (.int (v0_22 p0 p1 p2 p3 p4 p5)), .val (.int (v0_29 p0 p1 p2 p3 p4 p5)), .unset, .unset, .unset, .unset, .unset] [(.int p5)])) rfl (hb hby at_33) _ ?_
    show Steps p.tables e below (s₁.setTop (mkF m 35 #[.val (.int p0), .val (.int p1), .val (.int p2), .val (.int p3), .val (.int p4), .val (.int p5), .val (.int (v0_4 p0 p1 p2 p3 p4 p5)), .val (.int (v0_10 p0 p1 p2 p3 p4 p5)), .val (.int (v0_16 p0 p1 p2 p3 p4 p5)), .val (.int (v0_22 p0 p1 p2 p3 p4 p5)), .val (.int (v0_29 p0 p1 p2 p3 p4 p5)), .unset, .unset, .unset, .unset, .unset] [(.int (1048576 : Int32)), (.int p5)])) _
    refine Jvm.OwnFP.iremM X0.here hx rfl (hb hby at_35) rfl (by decide) ?_
    show Steps p.tables e below (s₁.setTop (mkF m 36 #[.val (.int p0), .val (.int p1), .val (.int p2), .val (.int p3), .val (.int p4), .val (.int p5), .val (.int (v0_4 p0 p1 p2 p3 p4 p5)), .val (.int (v0_10 p0 p1 p2 p3 p4 p5)), .val (.int (v0_16 p0 p1 p2 p3 p4 p5)), .val (.int (v0_22 p0 p1 p2 p3 p4 p5)), .val (.int (v0_29 p0 p1 p2 p3 p4 p5)), .unset, .unset, .unset, .unset, .unset] [(.int (p5 % (1048576 : Int32)))])) _
    refine XS.istore X0.here hx rfl (hb hby at_36) rfl (l' := #[.val (.int p0), .val (.int p1), .val (.int p2), .val (.int p3), .val (.int p4), .val (.int p5), .val (.int (v0_4 p0 p1 p2 p3 p4 p5)), .val (.int (v0_10 p0 p1 p2 p3 p4 p5)), .val (.int (v0_16 p0 p1 p2 p3 p4 p5)), .val (.int (v0_22 p0 p1 p2 p3 p4 p5)), .val (.int (v0_29 p0 p1 p2 p3 p4 p5)), .val (.int (v0_36 p0 p1 p2 p3 p4 p5)), .unset, .unset, .unset, .unset]) rfl ?_
    show Steps p.tables e below (s₁.setTop (mkF m 38 #[.val (.int p0), .val (.int p1), .val (.int p2), .val (.int p3), .val (.int p4), .val (.int p5), .val (.int (v0_4 p0 p1 p2 p3 p4 p5)), .val (.int (v0_10 p0 p1 p2 p3 p4 p5)), .val (.int (v0_16 p0 p1 p2 p3 p4 p5)), .val (.int (v0_22 p0 p1 p2 p3 p4 p5)), .val (.int (v0_29 p0 p1 p2 p3 p4 p5)), .val (.int (v0_36 p0 p1 p2 p3 p4 p5)), .unset, .unset, .unset, .unset] [])) _
    refine st1 _ ?_
    show Steps p.tables e below (T1.setTop (mkF m 41 #[.val (.int p0), .val (.int p1), .val (.int p2), .val (.int p3), .val (.int p4), .val (.int p5), .val (.int (v0_4 p0 p1 p2 p3 p4 p5)), .val (.int (v0_10 p0 p1 p2 p3 p4 p5)), .val (.int (v0_16 p0 p1 p2 p3 p4 p5)), .val (.int (v0_22 p0 p1 p2 p3 p4 p5)), .val (.int (v0_29 p0 p1 p2 p3 p4 p5)), .val (.int (v0_36 p0 p1 p2 p3 p4 p5)), .unset, .unset, .unset, .unset] [(.ref b1)])) _
    refine XS.dup X1.here hx rfl (hb hby at_41) rfl rfl ?_
    show Steps p.tables e below (T1.setTop (mkF m 42 #[.val (.int p0), .val (.int p1), .val (.int p2), .val (.int p3), .val (.int p4), .val (.int p5), .val (.int (v0_4 p0 p1 p2 p3 p4 p5)), .val (.int (v0_10 p0 p1 p2 p3 p4 p5)), .val (.int (v0_16 p0 p1 p2 p3 p4 p5)), .val (.int (v0_22 p0 p1 p2 p3 p4 p5)), .val (.int (v0_29 p0 p1 p2 p3 p4 p5)), .val (.int (v0_36 p0 p1 p2 p3 p4 p5)), .unset, .unset, .unset, .unset] [(.ref b1), (.ref b1)])) _
    refine st2 _ ?_
    show Steps p.tables e below (T2.setTop (mkF m 45 #[.val (.int p0), .val (.int p1), .val (.int p2), .val (.int p3), .val (.int p4), .val (.int p5), .val (.int (v0_4 p0 p1 p2 p3 p4 p5)), .val (.int (v0_10 p0 p1 p2 p3 p4 p5)), .val (.int (v0_16 p0 p1 p2 p3 p4 p5)), .val (.int (v0_22 p0 p1 p2 p3 p4 p5)), .val (.int (v0_29 p0 p1 p2 p3 p4 p5)), .val (.int (v0_36 p0 p1 p2 p3 p4 p5)), .unset, .unset, .unset, .unset] [(.ref b2), (.ref b1), (.ref b1)])) _
    refine XS.dup X2.here hx rfl (hb hby at_45) rfl rfl ?_
    show Steps p.tables e below (T2.setTop (mkF m 46 #[.val (.int p0), .val (.int p1), .val (.int p2), .val (.int p3), .val (.int p4), .val (.int p5), .val (.int (v0_4 p0 p1 p2 p3 p4 p5)), .val (.int (v0_10 p0 p1 p2 p3 p4 p5)), .val (.int (v0_16 p0 p1 p2 p3 p4 p5)), .val (.int (v0_22 p0 p1 p2 p3 p4 p5)), .val (.int (v0_29 p0 p1 p2 p3 p4 p5)), .val (.int (v0_36 p0 p1 p2 p3 p4 p5)), .unset, .unset, .unset, .unset] [(.ref b2), (.ref b2), (.ref b1), (.ref b1)])) _
    refine XS.iload X2.here hx rfl (hb hby at_46) rfl ?_
    show Steps p.tables e below (T2.setTop (mkF m 48 #[.val (.int p0), .val (.int p1), .val (.int p2), .val (.int p3), .val (.int p4), .val (.int p5), .val (.int (v0_4 p0 p1 p2 p3 p4 p5)), .val (.int (v0_10 p0 p1 p2 p3 p4 p5)), .val (.int (v0_16 p0 p1 p2 p3 p4 p5)), .val (.int (v0_22 p0 p1 p2 p3 p4 p5)), .val (.int (v0_29 p0 p1 p2 p3 p4 p5)), .val (.int (v0_36 p0 p1 p2 p3 p4 p5)), .unset, .unset, .unset, .unset] [(.int (v0_4 p0 p1 p2 p3 p4 p5)), (.ref b2), (.ref b2), (.ref b1), (.ref b1)])) _
    refine XS.i2dS X2.here hx rfl (hb hby at_48) rfl rfl ?_
    show Steps p.tables e below (T2.setTop (mkF m 49 #[.val (.int p0), .val (.int p1), .val (.int p2), .val (.int p3), .val (.int p4), .val (.int p5), .val (.int (v0_4 p0 p1 p2 p3 p4 p5)), .val (.int (v0_10 p0 p1 p2 p3 p4 p5)), .val (.int (v0_16 p0 p1 p2 p3 p4 p5)), .val (.int (v0_22 p0 p1 p2 p3 p4 p5)), .val (.int (v0_29 p0 p1 p2 p3 p4 p5)), .val (.int (v0_36 p0 p1 p2 p3 p4 p5)), .unset, .unset, .unset, .unset] [(.double (FP.i2d (v0_4 p0 p1 p2 p3 p4 p5))), (.ref b2), (.ref b2), (.ref b1), (.ref b1)])) _
    refine XS.iload X2.here hx rfl (hb hby at_49) rfl ?_
    show Steps p.tables e below (T2.setTop (mkF m 51 #[.val (.int p0), .val (.int p1), .val (.int p2), .val (.int p3), .val (.int p4), .val (.int p5), .val (.int (v0_4 p0 p1 p2 p3 p4 p5)), .val (.int (v0_10 p0 p1 p2 p3 p4 p5)), .val (.int (v0_16 p0 p1 p2 p3 p4 p5)), .val (.int (v0_22 p0 p1 p2 p3 p4 p5)), .val (.int (v0_29 p0 p1 p2 p3 p4 p5)), .val (.int (v0_36 p0 p1 p2 p3 p4 p5)), .unset, .unset, .unset, .unset] [(.int (v0_10 p0 p1 p2 p3 p4 p5)), (.double (FP.i2d (v0_4 p0 p1 p2 p3 p4 p5))), (.ref b2), (.ref b2), (.ref b1), (.ref b1)])) _
    refine XS.i2dS X2.here hx rfl (hb hby at_51) rfl rfl ?_
    show Steps p.tables e below (T2.setTop (mkF m 52 #[.val (.int p0), .val (.int p1), .val (.int p2), .val (.int p3), .val (.int p4), .val (.int p5), .val (.int (v0_4 p0 p1 p2 p3 p4 p5)), .val (.int (v0_10 p0 p1 p2 p3 p4 p5)), .val (.int (v0_16 p0 p1 p2 p3 p4 p5)), .val (.int (v0_22 p0 p1 p2 p3 p4 p5)), .val (.int (v0_29 p0 p1 p2 p3 p4 p5)), .val (.int (v0_36 p0 p1 p2 p3 p4 p5)), .unset, .unset, .unset, .unset] [(.double (FP.i2d (v0_10 p0 p1 p2 p3 p4 p5))), (.double (FP.i2d (v0_4 p0 p1 p2 p3 p4 p5))), (.ref b2), (.ref b2), (.ref b1), (.ref b1)])) _
    refine st3.trans ?_
    show Steps p.tables e below (T3.setTop (mkF m 55 #[.val (.int p0), .val (.int p1), .val (.int p2), .val (.int p3), .val (.int p4), .val (.int p5), .val (.int (v0_4 p0 p1 p2 p3 p4 p5)), .val (.int (v0_10 p0 p1 p2 p3 p4 p5)), .val (.int (v0_16 p0 p1 p2 p3 p4 p5)), .val (.int (v0_22 p0 p1 p2 p3 p4 p5)), .val (.int (v0_29 p0 p1 p2 p3 p4 p5)), .val (.int (v0_36 p0 p1 p2 p3 p4 p5)), .unset, .unset, .unset, .unset] [(.ref b2), (.ref b1), (.ref b1)])) _
    refine st4 _ ?_
    show Steps p.tables e below (T4.setTop (mkF m 58 #[.val (.int p0), .val (.int p1), .val (.int p2), .val (.int p3), .val (.int p4), .val (.int p5), .val (.int (v0_4 p0 p1 p2 p3 p4 p5)), .val (.int (v0_10 p0 p1 p2 p3 p4 p5)), .val (.int (v0_16 p0 p1 p2 p3 p4 p5)), .val (.int (v0_22 p0 p1 p2 p3 p4 p5)), .val (.int (v0_29 p0 p1 p2 p3 p4 p5)), .val (.int (v0_36 p0 p1 p2 p3 p4 p5)), .unset, .unset, .unset, .unset] [(.ref b4), (.ref b2), (.ref b1), (.ref b1)])) _
    refine XS.dup X4.here hx rfl (hb hby at_58) rfl rfl ?_
    show Steps p.tables e below (T4.setTop (mkF m 59 #[.val (.int p0), .val (.int p1), .val (.int p2), .val (.int p3), .val (.int p4), .val (.int p5), .val (.int (v0_4 p0 p1 p2 p3 p4 p5)), .val (.int (v0_10 p0 p1 p2 p3 p4 p5)), .val (.int (v0_16 p0 p1 p2 p3 p4 p5)), .val (.int (v0_22 p0 p1 p2 p3 p4 p5)), .val (.int (v0_29 p0 p1 p2 p3 p4 p5)), .val (.int (v0_36 p0 p1 p2 p3 p4 p5)), .unset, .unset, .unset, .unset] [(.ref b4), (.ref b4), (.ref b2), (.ref b1), (.ref b1)])) _
    refine XS.iload X4.here hx rfl (hb hby at_59) rfl ?_
    show Steps p.tables e below (T4.setTop (mkF m 61 #[.val (.int p0), .val (.int p1), .val (.int p2), .val (.int p3), .val (.int p4), .val (.int p5), .val (.int (v0_4 p0 p1 p2 p3 p4 p5)), .val (.int (v0_10 p0 p1 p2 p3 p4 p5)), .val (.int (v0_16 p0 p1 p2 p3 p4 p5)), .val (.int (v0_22 p0 p1 p2 p3 p4 p5)), .val (.int (v0_29 p0 p1 p2 p3 p4 p5)), .val (.int (v0_36 p0 p1 p2 p3 p4 p5)), .unset, .unset, .unset, .unset] [(.int (v0_16 p0 p1 p2 p3 p4 p5)), (.ref b4), (.ref b4), (.ref b2), (.ref b1), (.ref b1)])) _
    refine XS.i2dS X4.here hx rfl (hb hby at_61) rfl rfl ?_
    show Steps p.tables e below (T4.setTop (mkF m 62 #[.val (.int p0), .val (.int p1), .val (.int p2), .val (.int p3), .val (.int p4), .val (.int p5), .val (.int (v0_4 p0 p1 p2 p3 p4 p5)), .val (.int (v0_10 p0 p1 p2 p3 p4 p5)), .val (.int (v0_16 p0 p1 p2 p3 p4 p5)), .val (.int (v0_22 p0 p1 p2 p3 p4 p5)), .val (.int (v0_29 p0 p1 p2 p3 p4 p5)), .val (.int (v0_36 p0 p1 p2 p3 p4 p5)), .unset, .unset, .unset, .unset] [(.double (FP.i2d (v0_16 p0 p1 p2 p3 p4 p5))), (.ref b4), (.ref b4), (.ref b2), (.ref b1), (.ref b1)])) _
    refine XS.iload X4.here hx rfl (hb hby at_62) rfl ?_
    show Steps p.tables e below (T4.setTop (mkF m 64 #[.val (.int p0), .val (.int p1), .val (.int p2), .val (.int p3), .val (.int p4), .val (.int p5), .val (.int (v0_4 p0 p1 p2 p3 p4 p5)), .val (.int (v0_10 p0 p1 p2 p3 p4 p5)), .val (.int (v0_16 p0 p1 p2 p3 p4 p5)), .val (.int (v0_22 p0 p1 p2 p3 p4 p5)), .val (.int (v0_29 p0 p1 p2 p3 p4 p5)), .val (.int (v0_36 p0 p1 p2 p3 p4 p5)), .unset, .unset, .unset, .unset] [(.int (v0_22 p0 p1 p2 p3 p4 p5)), (.double (FP.i2d (v0_16 p0 p1 p2 p3 p4 p5))), (.ref b4), (.ref b4), (.ref b2), (.ref b1), (.ref b1)])) _
    refine XS.i2dS X4.here hx rfl (hb hby at_64) rfl rfl ?_
    show Steps p.tables e below (T4.setTop (mkF m 65 #[.val (.int p0), .val (.int p1), .val (.int p2), .val (.int p3), .val (.int p4), .val (.int p5), .val (.int (v0_4 p0 p1 p2 p3 p4 p5)), .val (.int (v0_10 p0 p1 p2 p3 p4 p5)), .val (.int (v0_16 p0 p1 p2 p3 p4 p5)), .val (.int (v0_22 p0 p1 p2 p3 p4 p5)), .val (.int (v0_29 p0 p1 p2 p3 p4 p5)), .val (.int (v0_36 p0 p1 p2 p3 p4 p5)), .unset, .unset, .unset, .unset] [(.double (FP.i2d (v0_22 p0 p1 p2 p3 p4 p5))), (.double (FP.i2d (v0_16 p0 p1 p2 p3 p4 p5))), (.ref b4), (.ref b4), (.ref b2), (.ref b1), (.ref b1)])) _
    refine st5.trans ?_
    show Steps p.tables e below (T5.setTop (mkF m 68 #[.val (.int p0), .val (.int p1), .val (.int p2), .val (.int p3), .val (.int p4), .val (.int p5), .val (.int (v0_4 p0 p1 p2 p3 p4 p5)), .val (.int (v0_10 p0 p1 p2 p3 p4 p5)), .val (.int (v0_16 p0 p1 p2 p3 p4 p5)), .val (.int (v0_22 p0 p1 p2 p3 p4 p5)), .val (.int (v0_29 p0 p1 p2 p3 p4 p5)), .val (.int (v0_36 p0 p1 p2 p3 p4 p5)), .unset, .unset, .unset, .unset] [(.ref b4), (.ref b2), (.ref b1), (.ref b1)])) _
    refine st6.trans ?_
    show Steps p.tables e below (T6.setTop (mkF m 71 #[.val (.int p0), .val (.int p1), .val (.int p2), .val (.int p3), .val (.int p4), .val (.int p5), .val (.int (v0_4 p0 p1 p2 p3 p4 p5)), .val (.int (v0_10 p0 p1 p2 p3 p4 p5)), .val (.int (v0_16 p0 p1 p2 p3 p4 p5)), .val (.int (v0_22 p0 p1 p2 p3 p4 p5)), .val (.int (v0_29 p0 p1 p2 p3 p4 p5)), .val (.int (v0_36 p0 p1 p2 p3 p4 p5)), .unset, .unset, .unset, .unset] [(.ref b1)])) _
    refine XS.astore X6.here hx rfl (hb hby at_71) rfl rfl (l' := #[.val (.int p0), .val (.int p1), .val (.int p2), .val (.int p3), .val (.int p4), .val (.int p5), .val (.int (v0_4 p0 p1 p2 p3 p4 p5)), .val (.int (v0_10 p0 p1 p2 p3 p4 p5)), .val (.int (v0_16 p0 p1 p2 p3 p4 p5)), .val (.int (v0_22 p0 p1 p2 p3 p4 p5)), .val (.int (v0_29 p0 p1 p2 p3 p4 p5)), .val (.int (v0_36 p0 p1 p2 p3 p4 p5)), .val (.ref b1), .unset, .unset, .unset]) rfl ?_
    show Steps p.tables e below (T6.setTop (mkF m 73 #[.val (.int p0), .val (.int p1), .val (.int p2), .val (.int p3), .val (.int p4), .val (.int p5), .val (.int (v0_4 p0 p1 p2 p3 p4 p5)), .val (.int (v0_10 p0 p1 p2 p3 p4 p5)), .val (.int (v0_16 p0 p1 p2 p3 p4 p5)), .val (.int (v0_22 p0 p1 p2 p3 p4 p5)), .val (.int (v0_29 p0 p1 p2 p3 p4 p5)), .val (.int (v0_36 p0 p1 p2 p3 p4 p5)), .val (.ref b1), .unset, .unset, .unset] [])) _
    refine XS.iload X6.here hx rfl (hb hby at_73) rfl ?_
    show Steps p.tables e below (T6.setTop (mkF m 75 #[.val (.int p0), .val (.int p1), .val (.int p2), .val (.int p3), .val (.int p4), .val (.int p5), .val (.int (v0_4 p0 p1 p2 p3 p4 p5)), .val (.int (v0_10 p0 p1 p2 p3 p4 p5)), .val (.int (v0_16 p0 p1 p2 p3 p4 p5)), .val (.int (v0_22 p0 p1 p2 p3 p4 p5)), .val (.int (v0_29 p0 p1 p2 p3 p4 p5)), .val (.int (v0_36 p0 p1 p2 p3 p4 p5)), .val (.ref b1), .unset, .unset, .unset] [(.int (v0_4 p0 p1 p2 p3 p4 p5))])) _
    refine XS.i2l X6.here hx rfl (hb hby at_75) rfl ?_
    show Steps p.tables e below (T6.setTop (mkF m 76 #[.val (.int p0), .val (.int p1), .val (.int p2), .val (.int p3), .val (.int p4), .val (.int p5), .val (.int (v0_4 p0 p1 p2 p3 p4 p5)), .val (.int (v0_10 p0 p1 p2 p3 p4 p5)), .val (.int (v0_16 p0 p1 p2 p3 p4 p5)), .val (.int (v0_22 p0 p1 p2 p3 p4 p5)), .val (.int (v0_29 p0 p1 p2 p3 p4 p5)), .val (.int (v0_36 p0 p1 p2 p3 p4 p5)), .val (.ref b1), .unset, .unset, .unset] [(.long ((v0_4 p0 p1 p2 p3 p4 p5).toInt64))])) _
    refine XS.iload X6.here hx rfl (hb hby at_76) rfl ?_
    show Steps p.tables e below (T6.setTop (mkF m 78 #[.val (.int p0), .val (.int p1), .val (.int p2), .val (.int p3), .val (.int p4), .val (.int p5), .val (.int (v0_4 p0 p1 p2 p3 p4 p5)), .val (.int (v0_10 p0 p1 p2 p3 p4 p5)), .val (.int (v0_16 p0 p1 p2 p3 p4 p5)), .val (.int (v0_22 p0 p1 p2 p3 p4 p5)), .val (.int (v0_29 p0 p1 p2 p3 p4 p5)), .val (.int (v0_36 p0 p1 p2 p3 p4 p5)), .val (.ref b1), .unset, .unset, .unset] [(.int (v0_22 p0 p1 p2 p3 p4 p5)), (.long ((v0_4 p0 p1 p2 p3 p4 p5).toInt64))])) _
    refine XS.i2l X6.here hx rfl (hb hby at_78) rfl ?_
    show Steps p.tables e below (T6.setTop (mkF m 79 #[.val (.int p0), .val (.int p1), .val (.int p2), .val (.int p3), .val (.int p4), .val (.int p5), .val (.int (v0_4 p0 p1 p2 p3 p4 p5)), .val (.int (v0_10 p0 p1 p2 p3 p4 p5)), .val (.int (v0_16 p0 p1 p2 p3 p4 p5)), .val (.int (v0_22 p0 p1 p2 p3 p4 p5)), .val (.int (v0_29 p0 p1 p2 p3 p4 p5)), .val (.int (v0_36 p0 p1 p2 p3 p4 p5)), .val (.ref b1), .unset, .unset, .unset] [(.long ((v0_22 p0 p1 p2 p3 p4 p5).toInt64)), (.long ((v0_4 p0 p1 p2 p3 p4 p5).toInt64))])) _
    refine XS.lmul X6.here hx rfl (hb hby at_79) rfl ?_
    show Steps p.tables e below (T6.setTop (mkF m 80 #[.val (.int p0), .val (.int p1), .val (.int p2), .val (.int p3), .val (.int p4), .val (.int p5), .val (.int (v0_4 p0 p1 p2 p3 p4 p5)), .val (.int (v0_10 p0 p1 p2 p3 p4 p5)), .val (.int (v0_16 p0 p1 p2 p3 p4 p5)), .val (.int (v0_22 p0 p1 p2 p3 p4 p5)), .val (.int (v0_29 p0 p1 p2 p3 p4 p5)), .val (.int (v0_36 p0 p1 p2 p3 p4 p5)), .val (.ref b1), .unset, .unset, .unset] [(.long (((v0_4 p0 p1 p2 p3 p4 p5).toInt64) * ((v0_22 p0 p1 p2 p3 p4 p5).toInt64)))])) _
    refine XS.iload X6.here hx rfl (hb hby at_80) rfl ?_
    show Steps p.tables e below (T6.setTop (mkF m 82 #[.val (.int p0), .val (.int p1), .val (.int p2), .val (.int p3), .val (.int p4), .val (.int p5), .val (.int (v0_4 p0 p1 p2 p3 p4 p5)), .val (.int (v0_10 p0 p1 p2 p3 p4 p5)), .val (.int (v0_16 p0 p1 p2 p3 p4 p5)), .val (.int (v0_22 p0 p1 p2 p3 p4 p5)), .val (.int (v0_29 p0 p1 p2 p3 p4 p5)), .val (.int (v0_36 p0 p1 p2 p3 p4 p5)), .val (.ref b1), .unset, .unset, .unset] [(.int (v0_16 p0 p1 p2 p3 p4 p5)), (.long (((v0_4 p0 p1 p2 p3 p4 p5).toInt64) * ((v0_22 p0 p1 p2 p3 p4 p5).toInt64)))])) _
    refine XS.i2l X6.here hx rfl (hb hby at_82) rfl ?_
    show Steps p.tables e below (T6.setTop (mkF m 83 #[.val (.int p0), .val (.int p1), .val (.int p2), .val (.int p3), .val (.int p4), .val (.int p5), .val (.int (v0_4 p0 p1 p2 p3 p4 p5)), .val (.int (v0_10 p0 p1 p2 p3 p4 p5)), .val (.int (v0_16 p0 p1 p2 p3 p4 p5)), .val (.int (v0_22 p0 p1 p2 p3 p4 p5)), .val (.int (v0_29 p0 p1 p2 p3 p4 p5)), .val (.int (v0_36 p0 p1 p2 p3 p4 p5)), .val (.ref b1), .unset, .unset, .unset] [(.long ((v0_16 p0 p1 p2 p3 p4 p5).toInt64)), (.long (((v0_4 p0 p1 p2 p3 p4 p5).toInt64) * ((v0_22 p0 p1 p2 p3 p4 p5).toInt64)))])) _
    refine XS.iload X6.here hx rfl (hb hby at_83) rfl ?_
    show Steps p.tables e below (T6.setTop (mkF m 85 #[.val (.int p0), .val (.int p1), .val (.int p2), .val (.int p3), .val (.int p4), .val (.int p5), .val (.int (v0_4 p0 p1 p2 p3 p4 p5)), .val (.int (v0_10 p0 p1 p2 p3 p4 p5)), .val (.int (v0_16 p0 p1 p2 p3 p4 p5)), .val (.int (v0_22 p0 p1 p2 p3 p4 p5)), .val (.int (v0_29 p0 p1 p2 p3 p4 p5)), .val (.int (v0_36 p0 p1 p2 p3 p4 p5)), .val (.ref b1), .unset, .unset, .unset] [(.int (v0_10 p0 p1 p2 p3 p4 p5)), (.long ((v0_16 p0 p1 p2 p3 p4 p5).toInt64)), (.long (((v0_4 p0 p1 p2 p3 p4 p5).toInt64) * ((v0_22 p0 p1 p2 p3 p4 p5).toInt64)))])) _
    refine XS.i2l X6.here hx rfl (hb hby at_85) rfl ?_
    show Steps p.tables e below (T6.setTop (mkF m 86 #[.val (.int p0), .val (.int p1), .val (.int p2), .val (.int p3), .val (.int p4), .val (.int p5), .val (.int (v0_4 p0 p1 p2 p3 p4 p5)), .val (.int (v0_10 p0 p1 p2 p3 p4 p5)), .val (.int (v0_16 p0 p1 p2 p3 p4 p5)), .val (.int (v0_22 p0 p1 p2 p3 p4 p5)), .val (.int (v0_29 p0 p1 p2 p3 p4 p5)), .val (.int (v0_36 p0 p1 p2 p3 p4 p5)), .val (.ref b1), .unset, .unset, .unset] [(.long ((v0_10 p0 p1 p2 p3 p4 p5).toInt64)), (.long ((v0_16 p0 p1 p2 p3 p4 p5).toInt64)), (.long (((v0_4 p0 p1 p2 p3 p4 p5).toInt64) * ((v0_22 p0 p1 p2 p3 p4 p5).toInt64)))])) _
    refine XS.lmul X6.here hx rfl (hb hby at_86) rfl ?_
    show Steps p.tables e below (T6.setTop (mkF m 87 #[.val (.int p0), .val (.int p1), .val (.int p2), .val (.int p3), .val (.int p4), .val (.int p5), .val (.int (v0_4 p0 p1 p2 p3 p4 p5)), .val (.int (v0_10 p0 p1 p2 p3 p4 p5)), .val (.int (v0_16 p0 p1 p2 p3 p4 p5)), .val (.int (v0_22 p0 p1 p2 p3 p4 p5)), .val (.int (v0_29 p0 p1 p2 p3 p4 p5)), .val (.int (v0_36 p0 p1 p2 p3 p4 p5)), .val (.ref b1), .unset, .unset, .unset] [(.long (((v0_16 p0 p1 p2 p3 p4 p5).toInt64) * ((v0_10 p0 p1 p2 p3 p4 p5).toInt64))), (.long (((v0_4 p0 p1 p2 p3 p4 p5).toInt64) * ((v0_22 p0 p1 p2 p3 p4 p5).toInt64)))])) _
    refine XS.lsub X6.here hx rfl (hb hby at_87) rfl ?_
    show Steps p.tables e below (T6.setTop (mkF m 88 #[.val (.int p0), .val (.int p1), .val (.int p2), .val (.int p3), .val (.int p4), .val (.int p5), .val (.int (v0_4 p0 p1 p2 p3 p4 p5)), .val (.int (v0_10 p0 p1 p2 p3 p4 p5)), .val (.int (v0_16 p0 p1 p2 p3 p4 p5)), .val (.int (v0_22 p0 p1 p2 p3 p4 p5)), .val (.int (v0_29 p0 p1 p2 p3 p4 p5)), .val (.int (v0_36 p0 p1 p2 p3 p4 p5)), .val (.ref b1), .unset, .unset, .unset] [(.long ((((v0_4 p0 p1 p2 p3 p4 p5).toInt64) * ((v0_22 p0 p1 p2 p3 p4 p5).toInt64)) - (((v0_16 p0 p1 p2 p3 p4 p5).toInt64) * ((v0_10 p0 p1 p2 p3 p4 p5).toInt64))))])) _
    refine XS.iload X6.here hx rfl (hb hby at_88) rfl ?_
    show Steps p.tables e below (T6.setTop (mkF m 90 #[.val (.int p0), .val (.int p1), .val (.int p2), .val (.int p3), .val (.int p4), .val (.int p5), .val (.int (v0_4 p0 p1 p2 p3 p4 p5)), .val (.int (v0_10 p0 p1 p2 p3 p4 p5)), .val (.int (v0_16 p0 p1 p2 p3 p4 p5)), .val (.int (v0_22 p0 p1 p2 p3 p4 p5)), .val (.int (v0_29 p0 p1 p2 p3 p4 p5)), .val (.int (v0_36 p0 p1 p2 p3 p4 p5)), .val (.ref b1), .unset, .unset, .unset] [(.int (v0_16 p0 p1 p2 p3 p4 p5)), (.long ((((v0_4 p0 p1 p2 p3 p4 p5).toInt64) * ((v0_22 p0 p1 p2 p3 p4 p5).toInt64)) - (((v0_16 p0 p1 p2 p3 p4 p5).toInt64) * ((v0_10 p0 p1 p2 p3 p4 p5).toInt64))))])) _
    refine XS.i2l X6.here hx rfl (hb hby at_90) rfl ?_
    show Steps p.tables e below (T6.setTop (mkF m 91 #[.val (.int p0), .val (.int p1), .val (.int p2), .val (.int p3), .val (.int p4), .val (.int p5), .val (.int (v0_4 p0 p1 p2 p3 p4 p5)), .val (.int (v0_10 p0 p1 p2 p3 p4 p5)), .val (.int (v0_16 p0 p1 p2 p3 p4 p5)), .val (.int (v0_22 p0 p1 p2 p3 p4 p5)), .val (.int (v0_29 p0 p1 p2 p3 p4 p5)), .val (.int (v0_36 p0 p1 p2 p3 p4 p5)), .val (.ref b1), .unset, .unset, .unset] [(.long ((v0_16 p0 p1 p2 p3 p4 p5).toInt64)), (.long ((((v0_4 p0 p1 p2 p3 p4 p5).toInt64) * ((v0_22 p0 p1 p2 p3 p4 p5).toInt64)) - (((v0_16 p0 p1 p2 p3 p4 p5).toInt64) * ((v0_10 p0 p1 p2 p3 p4 p5).toInt64))))])) _
    refine XS.iload X6.here hx rfl (hb hby at_91) rfl ?_
    show Steps p.tables e below (T6.setTop (mkF m 93 #[.val (.int p0), .val (.int p1), .val (.int p2), .val (.int p3), .val (.int p4), .val (.int p5), .val (.int (v0_4 p0 p1 p2 p3 p4 p5)), .val (.int (v0_10 p0 p1 p2 p3 p4 p5)), .val (.int (v0_16 p0 p1 p2 p3 p4 p5)), .val (.int (v0_22 p0 p1 p2 p3 p4 p5)), .val (.int (v0_29 p0 p1 p2 p3 p4 p5)), .val (.int (v0_36 p0 p1 p2 p3 p4 p5)), .val (.ref b1), .unset, .unset, .unset] [(.int (v0_36 p0 p1 p2 p3 p4 p5)), (.long ((v0_16 p0 p1 p2 p3 p4 p5).toInt64)), (.long ((((v0_4 p0 p1 p2 p3 p4 p5).toInt64) * ((v0_22 p0 p1 p2 p3 p4 p5).toInt64)) - (((v0_16 p0 p1 p2 p3 p4 p5).toInt64) * ((v0_10 p0 p1 p2 p3 p4 p5).toInt64))))])) _
    refine XS.i2l X6.here hx rfl (hb hby at_93) rfl ?_
    show Steps p.tables e below (T6.setTop (mkF m 94 #[.val (.int p0), .val (.int p1), .val (.int p2), .val (.int p3), .val (.int p4), .val (.int p5), .val (.int (v0_4 p0 p1 p2 p3 p4 p5)), .val (.int (v0_10 p0 p1 p2 p3 p4 p5)), .val (.int (v0_16 p0 p1 p2 p3 p4 p5)), .val (.int (v0_22 p0 p1 p2 p3 p4 p5)), .val (.int (v0_29 p0 p1 p2 p3 p4 p5)), .val (.int (v0_36 p0 p1 p2 p3 p4 p5)), .val (.ref b1), .unset, .unset, .unset] [(.long ((v0_36 p0 p1 p2 p3 p4 p5).toInt64)), (.long ((v0_16 p0 p1 p2 p3 p4 p5).toInt64)), (.long ((((v0_4 p0 p1 p2 p3 p4 p5).toInt64) * ((v0_22 p0 p1 p2 p3 p4 p5).toInt64)) - (((v0_16 p0 p1 p2 p3 p4 p5).toInt64) * ((v0_10 p0 p1 p2 p3 p4 p5).toInt64))))])) _
    refine XS.lmul X6.here hx rfl (hb hby at_94) rfl ?_
    show Steps p.tables e below (T6.setTop (mkF m 95 #[.val (.int p0), .val (.int p1), .val (.int p2), .val (.int p3), .val (.int p4), .val (.int p5), .val (.int (v0_4 p0 p1 p2 p3 p4 p5)), .val (.int (v0_10 p0 p1 p2 p3 p4 p5)), .val (.int (v0_16 p0 p1 p2 p3 p4 p5)), .val (.int (v0_22 p0 p1 p2 p3 p4 p5)), .val (.int (v0_29 p0 p1 p2 p3 p4 p5)), .val (.int (v0_36 p0 p1 p2 p3 p4 p5)), .val (.ref b1), .unset, .unset, .unset] [(.long (((v0_16 p0 p1 p2 p3 p4 p5).toInt64) * ((v0_36 p0 p1 p2 p3 p4 p5).toInt64))), (.long ((((v0_4 p0 p1 p2 p3 p4 p5).toInt64) * ((v0_22 p0 p1 p2 p3 p4 p5).toInt64)) - (((v0_16 p0 p1 p2 p3 p4 p5).toInt64) * ((v0_10 p0 p1 p2 p3 p4 p5).toInt64))))])) _
    refine XS.ladd X6.here hx rfl (hb hby at_95) rfl ?_
    show Steps p.tables e below (T6.setTop (mkF m 96 #[.val (.int p0), .val (.int p1), .val (.int p2), .val (.int p3), .val (.int p4), .val (.int p5), .val (.int (v0_4 p0 p1 p2 p3 p4 p5)), .val (.int (v0_10 p0 p1 p2 p3 p4 p5)), .val (.int (v0_16 p0 p1 p2 p3 p4 p5)), .val (.int (v0_22 p0 p1 p2 p3 p4 p5)), .val (.int (v0_29 p0 p1 p2 p3 p4 p5)), .val (.int (v0_36 p0 p1 p2 p3 p4 p5)), .val (.ref b1), .unset, .unset, .unset] [(.long (((((v0_4 p0 p1 p2 p3 p4 p5).toInt64) * ((v0_22 p0 p1 p2 p3 p4 p5).toInt64)) - (((v0_16 p0 p1 p2 p3 p4 p5).toInt64) * ((v0_10 p0 p1 p2 p3 p4 p5).toInt64))) + (((v0_16 p0 p1 p2 p3 p4 p5).toInt64) * ((v0_36 p0 p1 p2 p3 p4 p5).toInt64))))])) _
    refine XS.iload X6.here hx rfl (hb hby at_96) rfl ?_
    show Steps p.tables e below (T6.setTop (mkF m 98 #[.val (.int p0), .val (.int p1), .val (.int p2), .val (.int p3), .val (.int p4), .val (.int p5), .val (.int (v0_4 p0 p1 p2 p3 p4 p5)), .val (.int (v0_10 p0 p1 p2 p3 p4 p5)), .val (.int (v0_16 p0 p1 p2 p3 p4 p5)), .val (.int (v0_22 p0 p1 p2 p3 p4 p5)), .val (.int (v0_29 p0 p1 p2 p3 p4 p5)), .val (.int (v0_36 p0 p1 p2 p3 p4 p5)), .val (.ref b1), .unset, .unset, .unset] [(.int (v0_29 p0 p1 p2 p3 p4 p5)), (.long (((((v0_4 p0 p1 p2 p3 p4 p5).toInt64) * ((v0_22 p0 p1 p2 p3 p4 p5).toInt64)) - (((v0_16 p0 p1 p2 p3 p4 p5).toInt64) * ((v0_10 p0 p1 p2 p3 p4 p5).toInt64))) + (((v0_16 p0 p1 p2 p3 p4 p5).toInt64) * ((v0_36 p0 p1 p2 p3 p4 p5).toInt64))))])) _
    refine XS.i2l X6.here hx rfl (hb hby at_98) rfl ?_
    show Steps p.tables e below (T6.setTop (mkF m 99 #[.val (.int p0), .val (.int p1), .val (.int p2), .val (.int p3), .val (.int p4), .val (.int p5), .val (.int (v0_4 p0 p1 p2 p3 p4 p5)), .val (.int (v0_10 p0 p1 p2 p3 p4 p5)), .val (.int (v0_16 p0 p1 p2 p3 p4 p5)), .val (.int (v0_22 p0 p1 p2 p3 p4 p5)), .val (.int (v0_29 p0 p1 p2 p3 p4 p5)), .val (.int (v0_36 p0 p1 p2 p3 p4 p5)), .val (.ref b1), .unset, .unset, .unset] [(.long ((v0_29 p0 p1 p2 p3 p4 p5).toInt64)), (.long (((((v0_4 p0 p1 p2 p3 p4 p5).toInt64) * ((v0_22 p0 p1 p2 p3 p4 p5).toInt64)) - (((v0_16 p0 p1 p2 p3 p4 p5).toInt64) * ((v0_10 p0 p1 p2 p3 p4 p5).toInt64))) + (((v0_16 p0 p1 p2 p3 p4 p5).toInt64) * ((v0_36 p0 p1 p2 p3 p4 p5).toInt64))))])) _
    refine XS.iload X6.here hx rfl (hb hby at_99) rfl ?_
    show Steps p.tables e below (T6.setTop (mkF m 101 #[.val (.int p0), .val (.int p1), .val (.int p2), .val (.int p3), .val (.int p4), .val (.int p5), .val (.int (v0_4 p0 p1 p2 p3 p4 p5)), .val (.int (v0_10 p0 p1 p2 p3 p4 p5)), .val (.int (v0_16 p0 p1 p2 p3 p4 p5)), .val (.int (v0_22 p0 p1 p2 p3 p4 p5)), .val (.int (v0_29 p0 p1 p2 p3 p4 p5)), .val (.int (v0_36 p0 p1 p2 p3 p4 p5)), .val (.ref b1), .unset, .unset, .unset] [(.int (v0_22 p0 p1 p2 p3 p4 p5)), (.long ((v0_29 p0 p1 p2 p3 p4 p5).toInt64)), (.long (((((v0_4 p0 p1 p2 p3 p4 p5).toInt64) * ((v0_22 p0 p1 p2 p3 p4 p5).toInt64)) - (((v0_16 p0 p1 p2 p3 p4 p5).toInt64) * ((v0_10 p0 p1 p2 p3 p4 p5).toInt64))) + (((v0_16 p0 p1 p2 p3 p4 p5).toInt64) * ((v0_36 p0 p1 p2 p3 p4 p5).toInt64))))])) _
    refine XS.i2l X6.here hx rfl (hb hby at_101) rfl ?_
    show Steps p.tables e below (T6.setTop (mkF m 102 #[.val (.int p0), .val (.int p1), .val (.int p2), .val (.int p3), .val (.int p4), .val (.int p5), .val (.int (v0_4 p0 p1 p2 p3 p4 p5)), .val (.int (v0_10 p0 p1 p2 p3 p4 p5)), .val (.int (v0_16 p0 p1 p2 p3 p4 p5)), .val (.int (v0_22 p0 p1 p2 p3 p4 p5)), .val (.int (v0_29 p0 p1 p2 p3 p4 p5)), .val (.int (v0_36 p0 p1 p2 p3 p4 p5)), .val (.ref b1), .unset, .unset, .unset] [(.long ((v0_22 p0 p1 p2 p3 p4 p5).toInt64)), (.long ((v0_29 p0 p1 p2 p3 p4 p5).toInt64)), (.long (((((v0_4 p0 p1 p2 p3 p4 p5).toInt64) * ((v0_22 p0 p1 p2 p3 p4 p5).toInt64)) - (((v0_16 p0 p1 p2 p3 p4 p5).toInt64) * ((v0_10 p0 p1 p2 p3 p4 p5).toInt64))) + (((v0_16 p0 p1 p2 p3 p4 p5).toInt64) * ((v0_36 p0 p1 p2 p3 p4 p5).toInt64))))])) _
    refine XS.lmul X6.here hx rfl (hb hby at_102) rfl ?_
    show Steps p.tables e below (T6.setTop (mkF m 103 #[.val (.int p0), .val (.int p1), .val (.int p2), .val (.int p3), .val (.int p4), .val (.int p5), .val (.int (v0_4 p0 p1 p2 p3 p4 p5)), .val (.int (v0_10 p0 p1 p2 p3 p4 p5)), .val (.int (v0_16 p0 p1 p2 p3 p4 p5)), .val (.int (v0_22 p0 p1 p2 p3 p4 p5)), .val (.int (v0_29 p0 p1 p2 p3 p4 p5)), .val (.int (v0_36 p0 p1 p2 p3 p4 p5)), .val (.ref b1), .unset, .unset, .unset] [(.long (((v0_29 p0 p1 p2 p3 p4 p5).toInt64) * ((v0_22 p0 p1 p2 p3 p4 p5).toInt64))), (.long (((((v0_4 p0 p1 p2 p3 p4 p5).toInt64) * ((v0_22 p0 p1 p2 p3 p4 p5).toInt64)) - (((v0_16 p0 p1 p2 p3 p4 p5).toInt64) * ((v0_10 p0 p1 p2 p3 p4 p5).toInt64))) + (((v0_16 p0 p1 p2 p3 p4 p5).toInt64) * ((v0_36 p0 p1 p2 p3 p4 p5).toInt64))))])) _
    refine XS.lsub X6.here hx rfl (hb hby at_103) rfl ?_
    show Steps p.tables e below (T6.setTop (mkF m 104 #[.val (.int p0), .val (.int p1), .val (.int p2), .val (.int p3), .val (.int p4), .val (.int p5), .val (.int (v0_4 p0 p1 p2 p3 p4 p5)), .val (.int (v0_10 p0 p1 p2 p3 p4 p5)), .val (.int (v0_16 p0 p1 p2 p3 p4 p5)), .val (.int (v0_22 p0 p1 p2 p3 p4 p5)), .val (.int (v0_29 p0 p1 p2 p3 p4 p5)), .val (.int (v0_36 p0 p1 p2 p3 p4 p5)), .val (.ref b1), .unset, .unset, .unset] [(.long ((((((v0_4 p0 p1 p2 p3 p4 p5).toInt64) * ((v0_22 p0 p1 p2 p3 p4 p5).toInt64)) - (((v0_16 p0 p1 p2 p3 p4 p5).toInt64) * ((v0_10 p0 p1 p2 p3 p4 p5).toInt64))) + (((v0_16 p0 p1 p2 p3 p4 p5).toInt64) * ((v0_36 p0 p1 p2 p3 p4 p5).toInt64))) - (((v0_29 p0 p1 p2 p3 p4 p5).toInt64) * ((v0_22 p0 p1 p2 p3 p4 p5).toInt64))))])) _
    refine XS.iload X6.here hx rfl (hb hby at_104) rfl ?_
    show Steps p.tables e below (T6.setTop (mkF m 106 #[.val (.int p0), .val (.int p1), .val (.int p2), .val (.int p3), .val (.int p4), .val (.int p5), .val (.int (v0_4 p0 p1 p2 p3 p4 p5)), .val (.int (v0_10 p0 p1 p2 p3 p4 p5)), .val (.int (v0_16 p0 p1 p2 p3 p4 p5)), .val (.int (v0_22 p0 p1 p2 p3 p4 p5)), .val (.int (v0_29 p0 p1 p2 p3 p4 p5)), .val (.int (v0_36 p0 p1 p2 p3 p4 p5)), .val (.ref b1), .unset, .unset, .unset] [(.int (v0_29 p0 p1 p2 p3 p4 p5)), (.long ((((((v0_4 p0 p1 p2 p3 p4 p5).toInt64) * ((v0_22 p0 p1 p2 p3 p4 p5).toInt64)) - (((v0_16 p0 p1 p2 p3 p4 p5).toInt64) * ((v0_10 p0 p1 p2 p3 p4 p5).toInt64))) + (((v0_16 p0 p1 p2 p3 p4 p5).toInt64) * ((v0_36 p0 p1 p2 p3 p4 p5).toInt64))) - (((v0_29 p0 p1 p2 p3 p4 p5).toInt64) * ((v0_22 p0 p1 p2 p3 p4 p5).toInt64))))])) _
    refine XS.i2l X6.here hx rfl (hb hby at_106) rfl ?_
    show Steps p.tables e below (T6.setTop (mkF m 107 #[.val (.int p0), .val (.int p1), .val (.int p2), .val (.int p3), .val (.int p4), .val (.int p5), .val (.int (v0_4 p0 p1 p2 p3 p4 p5)), .val (.int (v0_10 p0 p1 p2 p3 p4 p5)), .val (.int (v0_16 p0 p1 p2 p3 p4 p5)), .val (.int (v0_22 p0 p1 p2 p3 p4 p5)), .val (.int (v0_29 p0 p1 p2 p3 p4 p5)), .val (.int (v0_36 p0 p1 p2 p3 p4 p5)), .val (.ref b1), .unset, .unset, .unset] [(.long ((v0_29 p0 p1 p2 p3 p4 p5).toInt64)), (.long ((((((v0_4 p0 p1 p2 p3 p4 p5).toInt64) * ((v0_22 p0 p1 p2 p3 p4 p5).toInt64)) - (((v0_16 p0 p1 p2 p3 p4 p5).toInt64) * ((v0_10 p0 p1 p2 p3 p4 p5).toInt64))) + (((v0_16 p0 p1 p2 p3 p4 p5).toInt64) * ((v0_36 p0 p1 p2 p3 p4 p5).toInt64))) - (((v0_29 p0 p1 p2 p3 p4 p5).toInt64) * ((v0_22 p0 p1 p2 p3 p4 p5).toInt64))))])) _
    refine XS.iload X6.here hx rfl (hb hby at_107) rfl ?_
    show Steps p.tables e below (T6.setTop (mkF m 109 #[.val (.int p0), .val (.int p1), .val (.int p2), .val (.int p3), .val (.int p4), .val (.int p5), .val (.int (v0_4 p0 p1 p2 p3 p4 p5)), .val (.int (v0_10 p0 p1 p2 p3 p4 p5)), .val (.int (v0_16 p0 p1 p2 p3 p4 p5)), .val (.int (v0_22 p0 p1 p2 p3 p4 p5)), .val (.int (v0_29 p0 p1 p2 p3 p4 p5)), .val (.int (v0_36 p0 p1 p2 p3 p4 p5)), .val (.ref b1), .unset, .unset, .unset] [(.int (v0_10 p0 p1 p2 p3 p4 p5)), (.long ((v0_29 p0 p1 p2 p3 p4 p5).toInt64)), (.long ((((((v0_4 p0 p1 p2 p3 p4 p5).toInt64) * ((v0_22 p0 p1 p2 p3 p4 p5).toInt64)) - (((v0_16 p0 p1 p2 p3 p4 p5).toInt64) * ((v0_10 p0 p1 p2 p3 p4 p5).toInt64))) + (((v0_16 p0 p1 p2 p3 p4 p5).toInt64) * ((v0_36 p0 p1 p2 p3 p4 p5).toInt64))) - (((v0_29 p0 p1 p2 p3 p4 p5).toInt64) * ((v0_22 p0 p1 p2 p3 p4 p5).toInt64))))])) _
    refine XS.i2l X6.here hx rfl (hb hby at_109) rfl ?_
    show Steps p.tables e below (T6.setTop (mkF m 110 #[.val (.int p0), .val (.int p1), .val (.int p2), .val (.int p3), .val (.int p4), .val (.int p5), .val (.int (v0_4 p0 p1 p2 p3 p4 p5)), .val (.int (v0_10 p0 p1 p2 p3 p4 p5)), .val (.int (v0_16 p0 p1 p2 p3 p4 p5)), .val (.int (v0_22 p0 p1 p2 p3 p4 p5)), .val (.int (v0_29 p0 p1 p2 p3 p4 p5)), .val (.int (v0_36 p0 p1 p2 p3 p4 p5)), .val (.ref b1), .unset, .unset, .unset] [(.long ((v0_10 p0 p1 p2 p3 p4 p5).toInt64)), (.long ((v0_29 p0 p1 p2 p3 p4 p5).toInt64)), (.long ((((((v0_4 p0 p1 p2 p3 p4 p5).toInt64) * ((v0_22 p0 p1 p2 p3 p4 p5).toInt64)) - (((v0_16 p0 p1 p2 p3 p4 p5).toInt64) * ((v0_10 p0 p1 p2 p3 p4 p5).toInt64))) + (((v0_16 p0 p1 p2 p3 p4 p5).toInt64) * ((v0_36 p0 p1 p2 p3 p4 p5).toInt64))) - (((v0_29 p0 p1 p2 p3 p4 p5).toInt64) * ((v0_22 p0 p1 p2 p3 p4 p5).toInt64))))])) _
    refine XS.lmul X6.here hx rfl (hb hby at_110) rfl ?_
    show Steps p.tables e below (T6.setTop (mkF m 111 #[.val (.int p0), .val (.int p1), .val (.int p2), .val (.int p3), .val (.int p4), .val (.int p5), .val (.int (v0_4 p0 p1 p2 p3 p4 p5)), .val (.int (v0_10 p0 p1 p2 p3 p4 p5)), .val (.int (v0_16 p0 p1 p2 p3 p4 p5)), .val (.int (v0_22 p0 p1 p2 p3 p4 p5)), .val (.int (v0_29 p0 p1 p2 p3 p4 p5)), .val (.int (v0_36 p0 p1 p2 p3 p4 p5)), .val (.ref b1), .unset, .unset, .unset] [(.long (((v0_29 p0 p1 p2 p3 p4 p5).toInt64) * ((v0_10 p0 p1 p2 p3 p4 p5).toInt64))), (.long ((((((v0_4 p0 p1 p2 p3 p4 p5).toInt64) * ((v0_22 p0 p1 p2 p3 p4 p5).toInt64)) - (((v0_16 p0 p1 p2 p3 p4 p5).toInt64) * ((v0_10 p0 p1 p2 p3 p4 p5).toInt64))) + (((v0_16 p0 p1 p2 p3 p4 p5).toInt64) * ((v0_36 p0 p1 p2 p3 p4 p5).toInt64))) - (((v0_29 p0 p1 p2 p3 p4 p5).toInt64) * ((v0_22 p0 p1 p2 p3 p4 p5).toInt64))))])) _
    refine XS.ladd X6.here hx rfl (hb hby at_111) rfl ?_
    show Steps p.tables e below (T6.setTop (mkF m 112 #[.val (.int p0), .val (.int p1), .val (.int p2), .val (.int p3), .val (.int p4), .val (.int p5), .val (.int (v0_4 p0 p1 p2 p3 p4 p5)), .val (.int (v0_10 p0 p1 p2 p3 p4 p5)), .val (.int (v0_16 p0 p1 p2 p3 p4 p5)), .val (.int (v0_22 p0 p1 p2 p3 p4 p5)), .val (.int (v0_29 p0 p1 p2 p3 p4 p5)), .val (.int (v0_36 p0 p1 p2 p3 p4 p5)), .val (.ref b1), .unset, .unset, .unset] [(.long (((((((v0_4 p0 p1 p2 p3 p4 p5).toInt64) * ((v0_22 p0 p1 p2 p3 p4 p5).toInt64)) - (((v0_16 p0 p1 p2 p3 p4 p5).toInt64) * ((v0_10 p0 p1 p2 p3 p4 p5).toInt64))) + (((v0_16 p0 p1 p2 p3 p4 p5).toInt64) * ((v0_36 p0 p1 p2 p3 p4 p5).toInt64))) - (((v0_29 p0 p1 p2 p3 p4 p5).toInt64) * ((v0_22 p0 p1 p2 p3 p4 p5).toInt64))) + (((v0_29 p0 p1 p2 p3 p4 p5).toInt64) * ((v0_10 p0 p1 p2 p3 p4 p5).toInt64))))])) _
    refine XS.iload X6.here hx rfl (hb hby at_112) rfl ?_
    show Steps p.tables e below (T6.setTop (mkF m 114 #[.val (.int p0), .val (.int p1), .val (.int p2), .val (.int p3), .val (.int p4), .val (.int p5), .val (.int (v0_4 p0 p1 p2 p3 p4 p5)), .val (.int (v0_10 p0 p1 p2 p3 p4 p5)), .val (.int (v0_16 p0 p1 p2 p3 p4 p5)), .val (.int (v0_22 p0 p1 p2 p3 p4 p5)), .val (.int (v0_29 p0 p1 p2 p3 p4 p5)), .val (.int (v0_36 p0 p1 p2 p3 p4 p5)), .val (.ref b1), .unset, .unset, .unset] [(.int (v0_4 p0 p1 p2 p3 p4 p5)), (.long (((((((v0_4 p0 p1 p2 p3 p4 p5).toInt64) * ((v0_22 p0 p1 p2 p3 p4 p5).toInt64)) - (((v0_16 p0 p1 p2 p3 p4 p5).toInt64) * ((v0_10 p0 p1 p2 p3 p4 p5).toInt64))) + (((v0_16 p0 p1 p2 p3 p4 p5).toInt64) * ((v0_36 p0 p1 p2 p3 p4 p5).toInt64))) - (((v0_29 p0 p1 p2 p3 p4 p5).toInt64) * ((v0_22 p0 p1 p2 p3 p4 p5).toInt64))) + (((v0_29 p0 p1 p2 p3 p4 p5).toInt64) * ((v0_10 p0 p1 p2 p3 p4 p5).toInt64))))])) _
    refine XS.i2l X6.here hx rfl (hb hby at_114) rfl ?_
    show Steps p.tables e below (T6.setTop (mkF m 115 #[.val (.int p0), .val (.int p1), .val (.int p2), .val (.int p3), .val (.int p4), .val (.int p5), .val (.int (v0_4 p0 p1 p2 p3 p4 p5)), .val (.int (v0_10 p0 p1 p2 p3 p4 p5)), .val (.int (v0_16 p0 p1 p2 p3 p4 p5)), .val (.int (v0_22 p0 p1 p2 p3 p4 p5)), .val (.int (v0_29 p0 p1 p2 p3 p4 p5)), .val (.int (v0_36 p0 p1 p2 p3 p4 p5)), .val (.ref b1), .unset, .unset, .unset] [(.long ((v0_4 p0 p1 p2 p3 p4 p5).toInt64)), (.long (((((((v0_4 p0 p1 p2 p3 p4 p5).toInt64) * ((v0_22 p0 p1 p2 p3 p4 p5).toInt64)) - (((v0_16 p0 p1 p2 p3 p4 p5).toInt64) * ((v0_10 p0 p1 p2 p3 p4 p5).toInt64))) + (((v0_16 p0 p1 p2 p3 p4 p5).toInt64) * ((v0_36 p0 p1 p2 p3 p4 p5).toInt64))) - (((v0_29 p0 p1 p2 p3 p4 p5).toInt64) * ((v0_22 p0 p1 p2 p3 p4 p5).toInt64))) + (((v0_29 p0 p1 p2 p3 p4 p5).toInt64) * ((v0_10 p0 p1 p2 p3 p4 p5).toInt64))))])) _
    refine XS.iload X6.here hx rfl (hb hby at_115) rfl ?_
    show Steps p.tables e below (T6.setTop (mkF m 117 #[.val (.int p0), .val (.int p1), .val (.int p2), .val (.int p3), .val (.int p4), .val (.int p5), .val (.int (v0_4 p0 p1 p2 p3 p4 p5)), .val (.int (v0_10 p0 p1 p2 p3 p4 p5)), .val (.int (v0_16 p0 p1 p2 p3 p4 p5)), .val (.int (v0_22 p0 p1 p2 p3 p4 p5)), .val (.int (v0_29 p0 p1 p2 p3 p4 p5)), .val (.int (v0_36 p0 p1 p2 p3 p4 p5)), .val (.ref b1), .unset, .unset, .unset] [(.int (v0_36 p0 p1 p2 p3 p4 p5)), (.long ((v0_4 p0 p1 p2 p3 p4 p5).toInt64)), (.long (((((((v0_4 p0 p1 p2 p3 p4 p5).toInt64) * ((v0_22 p0 p1 p2 p3 p4 p5).toInt64)) - (((v0_16 p0 p1 p2 p3 p4 p5).toInt64) * ((v0_10 p0 p1 p2 p3 p4 p5).toInt64))) + (((v0_16 p0 p1 p2 p3 p4 p5).toInt64) * ((v0_36 p0 p1 p2 p3 p4 p5).toInt64))) - (((v0_29 p0 p1 p2 p3 p4 p5).toInt64) * ((v0_22 p0 p1 p2 p3 p4 p5).toInt64))) + (((v0_29 p0 p1 p2 p3 p4 p5).toInt64) * ((v0_10 p0 p1 p2 p3 p4 p5).toInt64))))])) _
    refine XS.i2l X6.here hx rfl (hb hby at_117) rfl ?_
    show Steps p.tables e below (T6.setTop (mkF m 118 #[.val (.int p0), .val (.int p1), .val (.int p2), .val (.int p3), .val (.int p4), .val (.int p5), .val (.int (v0_4 p0 p1 p2 p3 p4 p5)), .val (.int (v0_10 p0 p1 p2 p3 p4 p5)), .val (.int (v0_16 p0 p1 p2 p3 p4 p5)), .val (.int (v0_22 p0 p1 p2 p3 p4 p5)), .val (.int (v0_29 p0 p1 p2 p3 p4 p5)), .val (.int (v0_36 p0 p1 p2 p3 p4 p5)), .val (.ref b1), .unset, .unset, .unset] [(.long ((v0_36 p0 p1 p2 p3 p4 p5).toInt64)), (.long ((v0_4 p0 p1 p2 p3 p4 p5).toInt64)), (.long (((((((v0_4 p0 p1 p2 p3 p4 p5).toInt64) * ((v0_22 p0 p1 p2 p3 p4 p5).toInt64)) - (((v0_16 p0 p1 p2 p3 p4 p5).toInt64) * ((v0_10 p0 p1 p2 p3 p4 p5).toInt64))) + (((v0_16 p0 p1 p2 p3 p4 p5).toInt64) * ((v0_36 p0 p1 p2 p3 p4 p5).toInt64))) - (((v0_29 p0 p1 p2 p3 p4 p5).toInt64) * ((v0_22 p0 p1 p2 p3 p4 p5).toInt64))) + (((v0_29 p0 p1 p2 p3 p4 p5).toInt64) * ((v0_10 p0 p1 p2 p3 p4 p5).toInt64))))])) _
    refine XS.lmul X6.here hx rfl (hb hby at_118) rfl ?_
    show Steps p.tables e below (T6.setTop (mkF m 119 #[.val (.int p0), .val (.int p1), .val (.int p2), .val (.int p3), .val (.int p4), .val (.int p5), .val (.int (v0_4 p0 p1 p2 p3 p4 p5)), .val (.int (v0_10 p0 p1 p2 p3 p4 p5)), .val (.int (v0_16 p0 p1 p2 p3 p4 p5)), .val (.int (v0_22 p0 p1 p2 p3 p4 p5)), .val (.int (v0_29 p0 p1 p2 p3 p4 p5)), .val (.int (v0_36 p0 p1 p2 p3 p4 p5)), .val (.ref b1), .unset, .unset, .unset] [(.long (((v0_4 p0 p1 p2 p3 p4 p5).toInt64) * ((v0_36 p0 p1 p2 p3 p4 p5).toInt64))), (.long (((((((v0_4 p0 p1 p2 p3 p4 p5).toInt64) * ((v0_22 p0 p1 p2 p3 p4 p5).toInt64)) - (((v0_16 p0 p1 p2 p3 p4 p5).toInt64) * ((v0_10 p0 p1 p2 p3 p4 p5).toInt64))) + (((v0_16 p0 p1 p2 p3 p4 p5).toInt64) * ((v0_36 p0 p1 p2 p3 p4 p5).toInt64))) - (((v0_29 p0 p1 p2 p3 p4 p5).toInt64) * ((v0_22 p0 p1 p2 p3 p4 p5).toInt64))) + (((v0_29 p0 p1 p2 p3 p4 p5).toInt64) * ((v0_10 p0 p1 p2 p3 p4 p5).toInt64))))])) _
    refine XS.lsub X6.here hx rfl (hb hby at_119) rfl ?_
    show Steps p.tables e below (T6.setTop (mkF m 120 #[.val (.int p0), .val (.int p1), .val (.int p2), .val (.int p3), .val (.int p4), .val (.int p5), .val (.int (v0_4 p0 p1 p2 p3 p4 p5)), .val (.int (v0_10 p0 p1 p2 p3 p4 p5)), .val (.int (v0_16 p0 p1 p2 p3 p4 p5)), .val (.int (v0_22 p0 p1 p2 p3 p4 p5)), .val (.int (v0_29 p0 p1 p2 p3 p4 p5)), .val (.int (v0_36 p0 p1 p2 p3 p4 p5)), .val (.ref b1), .unset, .unset, .unset] [(.long ((((((((v0_4 p0 p1 p2 p3 p4 p5).toInt64) * ((v0_22 p0 p1 p2 p3 p4 p5).toInt64)) - (((v0_16 p0 p1 p2 p3 p4 p5).toInt64) * ((v0_10 p0 p1 p2 p3 p4 p5).toInt64))) + (((v0_16 p0 p1 p2 p3 p4 p5).toInt64) * ((v0_36 p0 p1 p2 p3 p4 p5).toInt64))) - (((v0_29 p0 p1 p2 p3 p4 p5).toInt64) * ((v0_22 p0 p1 p2 p3 p4 p5).toInt64))) + (((v0_29 p0 p1 p2 p3 p4 p5).toInt64) * ((v0_10 p0 p1 p2 p3 p4 p5).toInt64))) - (((v0_4 p0 p1 p2 p3 p4 p5).toInt64) * ((v0_36 p0 p1 p2 p3 p4 p5).toInt64))))])) _
    refine XS.lstore X6.here hx rfl (hb hby at_120) rfl (l' := #[.val (.int p0), .val (.int p1), .val (.int p2), .val (.int p3), .val (.int p4), .val (.int p5), .val (.int (v0_4 p0 p1 p2 p3 p4 p5)), .val (.int (v0_10 p0 p1 p2 p3 p4 p5)), .val (.int (v0_16 p0 p1 p2 p3 p4 p5)), .val (.int (v0_22 p0 p1 p2 p3 p4 p5)), .val (.int (v0_29 p0 p1 p2 p3 p4 p5)), .val (.int (v0_36 p0 p1 p2 p3 p4 p5)), .val (.ref b1), .val (.long (v0_120 p0 p1 p2 p3 p4 p5)), .second, .unset]) rfl ?_
    show Steps p.tables e below (T6.setTop (mkF m 122 #[.val (.int p0), .val (.int p1), .val (.int p2), .val (.int p3), .val (.int p4), .val (.int p5), .val (.int (v0_4 p0 p1 p2 p3 p4 p5)), .val (.int (v0_10 p0 p1 p2 p3 p4 p5)), .val (.int (v0_16 p0 p1 p2 p3 p4 p5)), .val (.int (v0_22 p0 p1 p2 p3 p4 p5)), .val (.int (v0_29 p0 p1 p2 p3 p4 p5)), .val (.int (v0_36 p0 p1 p2 p3 p4 p5)), .val (.ref b1), .val (.long (v0_120 p0 p1 p2 p3 p4 p5)), .second, .unset] [])) _
    refine XS.lload X6.here hx rfl (hb hby at_122) rfl ?_
    show Steps p.tables e below (T6.setTop (mkF m 124 #[.val (.int p0), .val (.int p1), .val (.int p2), .val (.int p3), .val (.int p4), .val (.int p5), .val (.int (v0_4 p0 p1 p2 p3 p4 p5)), .val (.int (v0_10 p0 p1 p2 p3 p4 p5)), .val (.int (v0_16 p0 p1 p2 p3 p4 p5)), .val (.int (v0_22 p0 p1 p2 p3 p4 p5)), .val (.int (v0_29 p0 p1 p2 p3 p4 p5)), .val (.int (v0_36 p0 p1 p2 p3 p4 p5)), .val (.ref b1), .val (.long (v0_120 p0 p1 p2 p3 p4 p5)), .second, .unset] [(.long (v0_120 p0 p1 p2 p3 p4 p5))])) _
    refine XS.lconst X6.here hx rfl (hb hby at_124) ?_
    show Steps p.tables e below (T6.setTop (mkF m 125 #[.val (.int p0), .val (.int p1), .val (.int p2), .val (.int p3), .val (.int p4), .val (.int p5), .val (.int (v0_4 p0 p1 p2 p3 p4 p5)), .val (.int (v0_10 p0 p1 p2 p3 p4 p5)), .val (.int (v0_16 p0 p1 p2 p3 p4 p5)), .val (.int (v0_22 p0 p1 p2 p3 p4 p5)), .val (.int (v0_29 p0 p1 p2 p3 p4 p5)), .val (.int (v0_36 p0 p1 p2 p3 p4 p5)), .val (.ref b1), .val (.long (v0_120 p0 p1 p2 p3 p4 p5)), .second, .unset] [(.long (0 : Int64)), (.long (v0_120 p0 p1 p2 p3 p4 p5))])) _
    refine XS.lcmp X6.here hx rfl (hb hby at_125) rfl ?_
    show Steps p.tables e below (T6.setTop (mkF m 126 #[.val (.int p0), .val (.int p1), .val (.int p2), .val (.int p3), .val (.int p4), .val (.int p5), .val (.int (v0_4 p0 p1 p2 p3 p4 p5)), .val (.int (v0_10 p0 p1 p2 p3 p4 p5)), .val (.int (v0_16 p0 p1 p2 p3 p4 p5)), .val (.int (v0_22 p0 p1 p2 p3 p4 p5)), .val (.int (v0_29 p0 p1 p2 p3 p4 p5)), .val (.int (v0_36 p0 p1 p2 p3 p4 p5)), .val (.ref b1), .val (.long (v0_120 p0 p1 p2 p3 p4 p5)), .second, .unset] [(.int (lcmpW (v0_120 p0 p1 p2 p3 p4 p5) (0 : Int64)))])) _
    suffices kt126 : Steps p.tables e below (T6.setTop (mkF m 134 #[.val (.int p0), .val (.int p1), .val (.int p2), .val (.int p3), .val (.int p4), .val (.int p5), .val (.int (v0_4 p0 p1 p2 p3 p4 p5)), .val (.int (v0_10 p0 p1 p2 p3 p4 p5)), .val (.int (v0_16 p0 p1 p2 p3 p4 p5)), .val (.int (v0_22 p0 p1 p2 p3 p4 p5)), .val (.int (v0_29 p0 p1 p2 p3 p4 p5)), .val (.int (v0_36 p0 p1 p2 p3 p4 p5)), .val (.ref b1), .val (.long (v0_120 p0 p1 p2 p3 p4 p5)), .second, .unset] [(.int (j0_126_s0 p0 p1 p2 p3 p4 p5))])) (T7.setFrames fs) by
      by_cases hc126 : ifCond.holds .lt (lcmpW (v0_120 p0 p1 p2 p3 p4 p5) (0 : Int64)) = true
      · rw [show (j0_126_s0 p0 p1 p2 p3 p4 p5) = (0 : Int32) from if_pos hc126] at kt126
        refine XS.ifYes X6.here hx rfl (pc0 := 126) (pc' := 133) rfl (hb hby at_126) rfl hc126 (by decide) (by decide) ?_
        show Steps p.tables e below (T6.setTop (mkF m 133 #[.val (.int p0), .val (.int p1), .val (.int p2), .val (.int p3), .val (.int p4), .val (.int p5), .val (.int (v0_4 p0 p1 p2 p3 p4 p5)), .val (.int (v0_10 p0 p1 p2 p3 p4 p5)), .val (.int (v0_16 p0 p1 p2 p3 p4 p5)), .val (.int (v0_22 p0 p1 p2 p3 p4 p5)), .val (.int (v0_29 p0 p1 p2 p3 p4 p5)), .val (.int (v0_36 p0 p1 p2 p3 p4 p5)), .val (.ref b1), .val (.long (v0_120 p0 p1 p2 p3 p4 p5)), .second, .unset] [])) _
        refine XS.iconst X6.here hx rfl (hb hby at_133) ?_
        exact kt126
      · rw [show (j0_126_s0 p0 p1 p2 p3 p4 p5) = (1 : Int32) from if_neg hc126] at kt126
        refine XS.ifNo X6.here hx rfl (hb hby at_126) rfl (eq_false_of_ne_true hc126) ?_
        show Steps p.tables e below (T6.setTop (mkF m 129 #[.val (.int p0), .val (.int p1), .val (.int p2), .val (.int p3), .val (.int p4), .val (.int p5), .val (.int (v0_4 p0 p1 p2 p3 p4 p5)), .val (.int (v0_10 p0 p1 p2 p3 p4 p5)), .val (.int (v0_16 p0 p1 p2 p3 p4 p5)), .val (.int (v0_22 p0 p1 p2 p3 p4 p5)), .val (.int (v0_29 p0 p1 p2 p3 p4 p5)), .val (.int (v0_36 p0 p1 p2 p3 p4 p5)), .val (.ref b1), .val (.long (v0_120 p0 p1 p2 p3 p4 p5)), .second, .unset] [])) _
        refine XS.iconst X6.here hx rfl (hb hby at_129) ?_
        show Steps p.tables e below (T6.setTop (mkF m 130 #[.val (.int p0), .val (.int p1), .val (.int p2), .val (.int p3), .val (.int p4), .val (.int p5), .val (.int (v0_4 p0 p1 p2 p3 p4 p5)), .val (.int (v0_10 p0 p1 p2 p3 p4 p5)), .val (.int (v0_16 p0 p1 p2 p3 p4 p5)), .val (.int (v0_22 p0 p1 p2 p3 p4 p5)), .val (.int (v0_29 p0 p1 p2 p3 p4 p5)), .val (.int (v0_36 p0 p1 p2 p3 p4 p5)), .val (.ref b1), .val (.long (v0_120 p0 p1 p2 p3 p4 p5)), .second, .unset] [(.int (1 : Int32))])) _
        refine XS.goto X6.here hx rfl (pc0 := 130) (pc' := 134) rfl (hb hby at_130) (by decide) (by decide) ?_
        exact kt126
    show Steps p.tables e below (T6.setTop (mkF m 134 #[.val (.int p0), .val (.int p1), .val (.int p2), .val (.int p3), .val (.int p4), .val (.int p5), .val (.int (v0_4 p0 p1 p2 p3 p4 p5)), .val (.int (v0_10 p0 p1 p2 p3 p4 p5)), .val (.int (v0_16 p0 p1 p2 p3 p4 p5)), .val (.int (v0_22 p0 p1 p2 p3 p4 p5)), .val (.int (v0_29 p0 p1 p2 p3 p4 p5)), .val (.int (v0_36 p0 p1 p2 p3 p4 p5)), .val (.ref b1), .val (.long (v0_120 p0 p1 p2 p3 p4 p5)), .second, .unset] [(.int (j0_126_s0 p0 p1 p2 p3 p4 p5))])) _
    refine XS.istore X6.here hx rfl (hb hby at_134) rfl (l' := #[.val (.int p0), .val (.int p1), .val (.int p2), .val (.int p3), .val (.int p4), .val (.int p5), .val (.int (v0_4 p0 p1 p2 p3 p4 p5)), .val (.int (v0_10 p0 p1 p2 p3 p4 p5)), .val (.int (v0_16 p0 p1 p2 p3 p4 p5)), .val (.int (v0_22 p0 p1 p2 p3 p4 p5)), .val (.int (v0_29 p0 p1 p2 p3 p4 p5)), .val (.int (v0_36 p0 p1 p2 p3 p4 p5)), .val (.ref b1), .val (.long (v0_120 p0 p1 p2 p3 p4 p5)), .second, .val (.int (j0_126_s0 p0 p1 p2 p3 p4 p5))]) rfl ?_
    show Steps p.tables e below (T6.setTop (mkF m 136 #[.val (.int p0), .val (.int p1), .val (.int p2), .val (.int p3), .val (.int p4), .val (.int p5), .val (.int (v0_4 p0 p1 p2 p3 p4 p5)), .val (.int (v0_10 p0 p1 p2 p3 p4 p5)), .val (.int (v0_16 p0 p1 p2 p3 p4 p5)), .val (.int (v0_22 p0 p1 p2 p3 p4 p5)), .val (.int (v0_29 p0 p1 p2 p3 p4 p5)), .val (.int (v0_36 p0 p1 p2 p3 p4 p5)), .val (.ref b1), .val (.long (v0_120 p0 p1 p2 p3 p4 p5)), .second, .val (.int (j0_126_s0 p0 p1 p2 p3 p4 p5))] [])) _
    refine XS.aload X6.here hx rfl (hb hby at_136) rfl rfl ?_
    show Steps p.tables e below (T6.setTop (mkF m 138 #[.val (.int p0), .val (.int p1), .val (.int p2), .val (.int p3), .val (.int p4), .val (.int p5), .val (.int (v0_4 p0 p1 p2 p3 p4 p5)), .val (.int (v0_10 p0 p1 p2 p3 p4 p5)), .val (.int (v0_16 p0 p1 p2 p3 p4 p5)), .val (.int (v0_22 p0 p1 p2 p3 p4 p5)), .val (.int (v0_29 p0 p1 p2 p3 p4 p5)), .val (.int (v0_36 p0 p1 p2 p3 p4 p5)), .val (.ref b1), .val (.long (v0_120 p0 p1 p2 p3 p4 p5)), .second, .val (.int (j0_126_s0 p0 p1 p2 p3 p4 p5))] [(.ref b1)])) _
    refine XS.iload X6.here hx rfl (hb hby at_138) rfl ?_
    show Steps p.tables e below (T6.setTop (mkF m 140 #[.val (.int p0), .val (.int p1), .val (.int p2), .val (.int p3), .val (.int p4), .val (.int p5), .val (.int (v0_4 p0 p1 p2 p3 p4 p5)), .val (.int (v0_10 p0 p1 p2 p3 p4 p5)), .val (.int (v0_16 p0 p1 p2 p3 p4 p5)), .val (.int (v0_22 p0 p1 p2 p3 p4 p5)), .val (.int (v0_29 p0 p1 p2 p3 p4 p5)), .val (.int (v0_36 p0 p1 p2 p3 p4 p5)), .val (.ref b1), .val (.long (v0_120 p0 p1 p2 p3 p4 p5)), .second, .val (.int (j0_126_s0 p0 p1 p2 p3 p4 p5))] [(.int (v0_29 p0 p1 p2 p3 p4 p5)), (.ref b1)])) _
    refine XS.i2dS X6.here hx rfl (hb hby at_140) rfl rfl ?_
    show Steps p.tables e below (T6.setTop (mkF m 141 #[.val (.int p0), .val (.int p1), .val (.int p2), .val (.int p3), .val (.int p4), .val (.int p5), .val (.int (v0_4 p0 p1 p2 p3 p4 p5)), .val (.int (v0_10 p0 p1 p2 p3 p4 p5)), .val (.int (v0_16 p0 p1 p2 p3 p4 p5)), .val (.int (v0_22 p0 p1 p2 p3 p4 p5)), .val (.int (v0_29 p0 p1 p2 p3 p4 p5)), .val (.int (v0_36 p0 p1 p2 p3 p4 p5)), .val (.ref b1), .val (.long (v0_120 p0 p1 p2 p3 p4 p5)), .second, .val (.int (j0_126_s0 p0 p1 p2 p3 p4 p5))] [(.double (FP.i2d (v0_29 p0 p1 p2 p3 p4 p5))), (.ref b1)])) _
    refine XS.iload X6.here hx rfl (hb hby at_141) rfl ?_
    show Steps p.tables e below (T6.setTop (mkF m 143 #[.val (.int p0), .val (.int p1), .val (.int p2), .val (.int p3), .val (.int p4), .val (.int p5), .val (.int (v0_4 p0 p1 p2 p3 p4 p5)), .val (.int (v0_10 p0 p1 p2 p3 p4 p5)), .val (.int (v0_16 p0 p1 p2 p3 p4 p5)), .val (.int (v0_22 p0 p1 p2 p3 p4 p5)), .val (.int (v0_29 p0 p1 p2 p3 p4 p5)), .val (.int (v0_36 p0 p1 p2 p3 p4 p5)), .val (.ref b1), .val (.long (v0_120 p0 p1 p2 p3 p4 p5)), .second, .val (.int (j0_126_s0 p0 p1 p2 p3 p4 p5))] [(.int (v0_36 p0 p1 p2 p3 p4 p5)), (.double (FP.i2d (v0_29 p0 p1 p2 p3 p4 p5))), (.ref b1)])) _
    refine XS.i2dS X6.here hx rfl (hb hby at_143) rfl rfl ?_
    show Steps p.tables e below (T6.setTop (mkF m 144 #[.val (.int p0), .val (.int p1), .val (.int p2), .val (.int p3), .val (.int p4), .val (.int p5), .val (.int (v0_4 p0 p1 p2 p3 p4 p5)), .val (.int (v0_10 p0 p1 p2 p3 p4 p5)), .val (.int (v0_16 p0 p1 p2 p3 p4 p5)), .val (.int (v0_22 p0 p1 p2 p3 p4 p5)), .val (.int (v0_29 p0 p1 p2 p3 p4 p5)), .val (.int (v0_36 p0 p1 p2 p3 p4 p5)), .val (.ref b1), .val (.long (v0_120 p0 p1 p2 p3 p4 p5)), .second, .val (.int (j0_126_s0 p0 p1 p2 p3 p4 p5))] [(.double (FP.i2d (v0_36 p0 p1 p2 p3 p4 p5))), (.double (FP.i2d (v0_29 p0 p1 p2 p3 p4 p5))), (.ref b1)])) _
    refine st7.trans ?_
    show Steps p.tables e below (T7.setTop (mkF m 147 #[.val (.int p0), .val (.int p1), .val (.int p2), .val (.int p3), .val (.int p4), .val (.int p5), .val (.int (v0_4 p0 p1 p2 p3 p4 p5)), .val (.int (v0_10 p0 p1 p2 p3 p4 p5)), .val (.int (v0_16 p0 p1 p2 p3 p4 p5)), .val (.int (v0_22 p0 p1 p2 p3 p4 p5)), .val (.int (v0_29 p0 p1 p2 p3 p4 p5)), .val (.int (v0_36 p0 p1 p2 p3 p4 p5)), .val (.ref b1), .val (.long (v0_120 p0 p1 p2 p3 p4 p5)), .second, .val (.int (j0_126_s0 p0 p1 p2 p3 p4 p5))] [(.int (nar .boolean (j5_61_s0 (FP.i2d (v0_29 p0 p1 p2 p3 p4 p5)) (FP.i2d (v0_36 p0 p1 p2 p3 p4 p5)) (FP.i2d (v0_4 p0 p1 p2 p3 p4 p5)) (FP.i2d (v0_22 p0 p1 p2 p3 p4 p5)) (FP.i2d (v0_10 p0 p1 p2 p3 p4 p5)) (FP.i2d (v0_16 p0 p1 p2 p3 p4 p5)))))])) _
    refine XS.iload X7.here hx rfl (hb hby at_147) rfl ?_
    show Steps p.tables e below (T7.setTop (mkF m 149 #[.val (.int p0), .val (.int p1), .val (.int p2), .val (.int p3), .val (.int p4), .val (.int p5), .val (.int (v0_4 p0 p1 p2 p3 p4 p5)), .val (.int (v0_10 p0 p1 p2 p3 p4 p5)), .val (.int (v0_16 p0 p1 p2 p3 p4 p5)), .val (.int (v0_22 p0 p1 p2 p3 p4 p5)), .val (.int (v0_29 p0 p1 p2 p3 p4 p5)), .val (.int (v0_36 p0 p1 p2 p3 p4 p5)), .val (.ref b1), .val (.long (v0_120 p0 p1 p2 p3 p4 p5)), .second, .val (.int (j0_126_s0 p0 p1 p2 p3 p4 p5))] [(.int (j0_126_s0 p0 p1 p2 p3 p4 p5)), (.int (nar .boolean (j5_61_s0 (FP.i2d (v0_29 p0 p1 p2 p3 p4 p5)) (FP.i2d (v0_36 p0 p1 p2 p3 p4 p5)) (FP.i2d (v0_4 p0 p1 p2 p3 p4 p5)) (FP.i2d (v0_22 p0 p1 p2 p3 p4 p5)) (FP.i2d (v0_10 p0 p1 p2 p3 p4 p5)) (FP.i2d (v0_16 p0 p1 p2 p3 p4 p5)))))])) _
    suffices kt149 : Steps p.tables e below (T7.setTop (mkF m 157 #[.val (.int p0), .val (.int p1), .val (.int p2), .val (.int p3), .val (.int p4), .val (.int p5), .val (.int (v0_4 p0 p1 p2 p3 p4 p5)), .val (.int (v0_10 p0 p1 p2 p3 p4 p5)), .val (.int (v0_16 p0 p1 p2 p3 p4 p5)), .val (.int (v0_22 p0 p1 p2 p3 p4 p5)), .val (.int (v0_29 p0 p1 p2 p3 p4 p5)), .val (.int (v0_36 p0 p1 p2 p3 p4 p5)), .val (.ref b1), .val (.long (v0_120 p0 p1 p2 p3 p4 p5)), .second, .val (.int (j0_126_s0 p0 p1 p2 p3 p4 p5))] [(.int (j0_149_s0 p0 p1 p2 p3 p4 p5))])) (T7.setFrames fs) by
      by_cases hc149 : if_icmp.holds .ne (nar .boolean (j5_61_s0 (FP.i2d (v0_29 p0 p1 p2 p3 p4 p5)) (FP.i2d (v0_36 p0 p1 p2 p3 p4 p5)) (FP.i2d (v0_4 p0 p1 p2 p3 p4 p5)) (FP.i2d (v0_22 p0 p1 p2 p3 p4 p5)) (FP.i2d (v0_10 p0 p1 p2 p3 p4 p5)) (FP.i2d (v0_16 p0 p1 p2 p3 p4 p5)))) (j0_126_s0 p0 p1 p2 p3 p4 p5) = true
      · rw [show (j0_149_s0 p0 p1 p2 p3 p4 p5) = (0 : Int32) from if_pos hc149] at kt149
        refine XS.icmpYes X7.here hx rfl (pc0 := 149) (pc' := 156) rfl (hb hby at_149) rfl hc149 (by decide) (by decide) ?_
        show Steps p.tables e below (T7.setTop (mkF m 156 #[.val (.int p0), .val (.int p1), .val (.int p2), .val (.int p3), .val (.int p4), .val (.int p5), .val (.int (v0_4 p0 p1 p2 p3 p4 p5)), .val (.int (v0_10 p0 p1 p2 p3 p4 p5)), .val (.int (v0_16 p0 p1 p2 p3 p4 p5)), .val (.int (v0_22 p0 p1 p2 p3 p4 p5)), .val (.int (v0_29 p0 p1 p2 p3 p4 p5)), .val (.int (v0_36 p0 p1 p2 p3 p4 p5)), .val (.ref b1), .val (.long (v0_120 p0 p1 p2 p3 p4 p5)), .second, .val (.int (j0_126_s0 p0 p1 p2 p3 p4 p5))] [])) _
        refine XS.iconst X7.here hx rfl (hb hby at_156) ?_
        exact kt149
      · rw [show (j0_149_s0 p0 p1 p2 p3 p4 p5) = (1 : Int32) from if_neg hc149] at kt149
        refine XS.icmpNo X7.here hx rfl (hb hby at_149) rfl (eq_false_of_ne_true hc149) ?_
        show Steps p.tables e below (T7.setTop (mkF m 152 #[.val (.int p0), .val (.int p1), .val (.int p2), .val (.int p3), .val (.int p4), .val (.int p5), .val (.int (v0_4 p0 p1 p2 p3 p4 p5)), .val (.int (v0_10 p0 p1 p2 p3 p4 p5)), .val (.int (v0_16 p0 p1 p2 p3 p4 p5)), .val (.int (v0_22 p0 p1 p2 p3 p4 p5)), .val (.int (v0_29 p0 p1 p2 p3 p4 p5)), .val (.int (v0_36 p0 p1 p2 p3 p4 p5)), .val (.ref b1), .val (.long (v0_120 p0 p1 p2 p3 p4 p5)), .second, .val (.int (j0_126_s0 p0 p1 p2 p3 p4 p5))] [])) _
        refine XS.iconst X7.here hx rfl (hb hby at_152) ?_
        show Steps p.tables e below (T7.setTop (mkF m 153 #[.val (.int p0), .val (.int p1), .val (.int p2), .val (.int p3), .val (.int p4), .val (.int p5), .val (.int (v0_4 p0 p1 p2 p3 p4 p5)), .val (.int (v0_10 p0 p1 p2 p3 p4 p5)), .val (.int (v0_16 p0 p1 p2 p3 p4 p5)), .val (.int (v0_22 p0 p1 p2 p3 p4 p5)), .val (.int (v0_29 p0 p1 p2 p3 p4 p5)), .val (.int (v0_36 p0 p1 p2 p3 p4 p5)), .val (.ref b1), .val (.long (v0_120 p0 p1 p2 p3 p4 p5)), .second, .val (.int (j0_126_s0 p0 p1 p2 p3 p4 p5))] [(.int (1 : Int32))])) _
        refine XS.goto X7.here hx rfl (pc0 := 153) (pc' := 157) rfl (hb hby at_153) (by decide) (by decide) ?_
        exact kt149
    show Steps p.tables e below (T7.setTop (mkF m 157 #[.val (.int p0), .val (.int p1), .val (.int p2), .val (.int p3), .val (.int p4), .val (.int p5), .val (.int (v0_4 p0 p1 p2 p3 p4 p5)), .val (.int (v0_10 p0 p1 p2 p3 p4 p5)), .val (.int (v0_16 p0 p1 p2 p3 p4 p5)), .val (.int (v0_22 p0 p1 p2 p3 p4 p5)), .val (.int (v0_29 p0 p1 p2 p3 p4 p5)), .val (.int (v0_36 p0 p1 p2 p3 p4 p5)), .val (.ref b1), .val (.long (v0_120 p0 p1 p2 p3 p4 p5)), .second, .val (.int (j0_126_s0 p0 p1 p2 p3 p4 p5))] [(.int (j0_149_s0 p0 p1 p2 p3 p4 p5))])) _
    rw [hres157]
    exact retN X7 hx (t := .boolean) Bd.returns (by simp) (hb hby at_157) hr
  · show Q0 Z p0 p1 p2 p3 p4 p5 h0 n0 _ T7.heap _
    exact ⟨rfl, N7⟩
set_option maxRecDepth 65536 in
set_option maxHeartbeats 40000000 in
theorem comes_1 {Post : Tables → Env → Array Value → State → Outcome → State → Prop} (hpost : ∀ tb e args s v u, (limb_1_1.after args s (.returned v) u = true ∧ limb_1_2.after args s (.returned v) u = true ∧ True) → FrameEnd s (.returned v) u (Jvm.fieldLocs frame_1_writes args s ++ Jvm.arrayLocs frame_1_arrays args s ++ Jvm.staticLocs frame_1_statics s) 16 128 → Post tb e args s (.returned v) u) :
    ArmFor flags0 classFile x code maxLocals ret World_1 tables_1 room_1 Calls_1 rest_1 Pre_1 Post := by
  intro l hfl _ _ p e ha hc hk s m args below hf hA hF happ hP
  obtain ⟨hcalls, hrest, hpre⟩ := hP
  obtain ⟨-, -, -, hnamed, -, -, -, hat⟩ := (Spec.applies_iff hf).mp happ
  obtain ⟨hg, hn⟩ := and_e (Cond.before_iff.mp (show (Jvm.Cond.and given_1 narrow_1).before args s = true from hpre))
  obtain ⟨k0, r0⟩ := and_e hg
  obtain ⟨a0, r1⟩ := and_e r0
  obtain ⟨a1, r2⟩ := and_e r1
  obtain ⟨a2, r3⟩ := and_e r2
  obtain ⟨a3, r4⟩ := and_e r3
  obtain ⟨a4, r5⟩ := and_e r4
  have a5 := r5
  obtain ⟨w0, w1, w2, w3, w4, w5, rfl⟩ : ∃ w0 w1 w2 w3 w4 w5 : Value, args = #[w0, w1, w2, w3, w4, w5] := by
    have hs : args.size = 6 := by simpa [Cond.value, given_1] using k0
    obtain ⟨L⟩ := args
    match L, hs with
    | [w0, w1, w2, w3, w4, w5], _ => exact ⟨w0, w1, w2, w3, w4, w5, rfl⟩
  have hw := fun d (hd : d ∈ tables_1) => atoms_spec (ws := Jvm.Cond.code x code maxLocals ret :: tables_1) hat d (List.mem_cons_of_mem _ hd)
  obtain ⟨i0, ei0⟩ := is_v a0
  obtain rfl : w0 = (.int i0) := Option.some.inj ei0
  obtain ⟨i1, ei1⟩ := is_v a1
  obtain rfl : w1 = (.int i1) := Option.some.inj ei1
  obtain ⟨i2, ei2⟩ := is_v a2
  obtain rfl : w2 = (.int i2) := Option.some.inj ei2
  obtain ⟨i3, ei3⟩ := is_v a3
  obtain rfl : w3 = (.int i3) := Option.some.inj ei3
  obtain ⟨i4, ei4⟩ := is_v a4
  obtain rfl : w4 = (.int i4) := Option.some.inj ei4
  obtain ⟨i5, ei5⟩ := is_v a5
  obtain rfl : w5 = (.int i5) := Option.some.inj ei5
  obtain ⟨n, o, h1, h2, h3, _, L, rfl, ⟨rfl, N⟩, hq⟩ := rm0 l s _ hw tables_1 i0 i1 i2 i3 i4 i5 s.heap s.heap.size (Nat.le_refl _) (own_h14 i0 i1 i2 i3 i4 i5) (own_h31 i0 i1 i2 i3 i4 i5) (own_h44 i0 i1 i2 i3 i4 i5) (own_h45 i0 i1 i2 i3 i4 i5) (own_h56 i0 i1 i2 i3 i4 i5) (own_h57 i0 i1 i2 i3 i4 i5) (own_h58 i0 i1 i2 i3 i4 i5) (own_res i0 i1 i2 i3 i4 i5) p e ha hc hk s m _ below hf ((Spec.applies_iff_loose hf).mp happ).1 ⟨rfl, State.Warmed39.refl s, rfl⟩ trivial
  refine ⟨n, _, h1, h2, h3, hpost _ _ _ _ _ _ ⟨Cond.after_iff.mpr rfl, Cond.after_iff.mpr (eq_i res_at (Term.int_eval (1)) rfl), trivial⟩ ⟨hq.1, hq.2.1, (hq.2.2.sift fun y hy => Or.inr (N y hy)).mono (by decide) (by decide)⟩⟩
theorem main_1_1 : Claimed_1_1 := comes_1 fun _ _ _ _ _ _ h hF => ⟨h.1, hF⟩
theorem main_1_2 : Claimed_1_2 := comes_1 fun _ _ _ _ _ _ h hF => ⟨h.2.1, hF⟩
end Jvm.Pilot.@@N@@
namespace Jvm.Pilot.@@N@@
open Jvm Jvm.ClassFile Sem Op Lib Jvm.Free Jvm.Stand Jvm.Pilot.@@N@@.Jvm.D
/-! MADE BY PROGRAM (witnessworld.py) out of the Statement's table words and the real class files: 11 classes; the members and pool entries that the words name. The judged class is class 1, her method 1. -/
namespace start1
open Jvm.ClassFile
def u (s : String) : CpInfo := .utf8 (stringToUtf16 s)
/-- a pool by its gaps: so many unusable entries, then the entry; so many at the end -/
def gap : Nat → List CpInfo → List CpInfo
  | 0, r => r
  | n + 1, r => .unusable :: gap n r
def poolList (es : List (Nat × CpInfo)) (last : Nat) : List CpInfo := es.foldr (fun e r => gap e.1 (e.2 :: r)) (gap last [])
def pool (es : List (Nat × CpInfo)) (last : Nat) : Array CpInfo := ⟨poolList es last⟩
def fileOf (pool : Array CpInfo) (this : Nat) (attrs : Array Attribute := #[]) (ms : Array MethodInfo := #[]) (fl : Nat := 33) (sup : Nat := 0) (ifs : Array Nat := #[]) (fds : Array FieldInfo := #[]) : ClassFile where
  minorVersion := 0
  majorVersion := 65
  constantPool := pool
  accessFlags := fl
  thisClass := this
  superClass := sup
  interfaces := ifs
  fields := fds
  methods := ms
  attributes := attrs
def plain (name : String) (sup : Option ClassId) : Class where
  name := name
  kind := .ordinary
  loader := none
  accessFlags := 33
  super := sup
  interfaces := #[]
  cf := none
  fields := #[]
  methods := #[]
  instanceTypes := #[]
  staticTypes := #[]
  resolved := #[]
  callSites := []
  init := .initialized
  statics := none
  mirror := none

def pool0 : Array CpInfo := pool [(5, u "<init>"), (0, u "()V"), (1, .class_ 10), (1, u "java/lang/Object")] 113

def k0c0 : Code := { maxStack := 0, maxLocals := 1, code := object_method_1_code, exceptionTable := #[], attributes := #[] }
def k0m0 : Method := { name := "<init>", desc := "()V", sig := { parameters := [], returnType := none }, accessFlags := 1, code := some k0c0 }
/-- java/lang/Object -/
def k0 : Class := { plain "java/lang/Object" none with
  accessFlags := 33
  interfaces := #[]
  cf := some (fileOf pool0 8 #[] #[{ accessFlags := 1, nameIndex := 5, descriptorIndex := 6, attributes := #[] }] 33 0 #[] #[])
  fields := #[]
  methods := #[k0m0]
  instanceTypes := #[]
  staticTypes := #[]
  resolved := Array.replicate 124 none
  statics := none }

def pool1 : Array CpInfo := pool [(2, .class_ 4), (1, u "java/lang/Object"), (0, u "<init>"), (0, u "()V"), (0, .integer 1048576), (0, .class_ 9), (0, u "com/example/ped3/ped3/model/Wall"), (0, .class_ 11), (0, u "com/example/ped3/ped3/model/Position"), (0, .methodref 10 13), (0, .nameAndType 5 14), (0, u "(DD)V"), (0, .methodref 8 16), (0, .nameAndType 5 17), (0, u "(Lcom/example/ped3/ped3/model/Position;Lcom/example/ped3/ped3/model/Position;)V"), (0, .methodref 8 19), (0, .nameAndType 20 21), (0, u "faces"), (0, u "(DD)Z"), (0, .class_ 23), (0, u "com/example/ped3/ped3/model/WallFacesPinLaw"), (2, u "law"), (0, u "(IIIIII)Z")] 3

def k1m0 : Method := { name := "<init>", desc := "()V", sig := { parameters := [], returnType := none }, accessFlags := 1, code := none }
def k1c1 : Code := { maxStack := 9, maxLocals := 16, code := code, exceptionTable := #[], attributes := #[] }
def k1m1 : Method := { name := "law", desc := "(IIIIII)Z", sig := { parameters := [.int, .int, .int, .int, .int, .int], returnType := some .boolean }, accessFlags := 9, code := some k1c1 }
/-- com/example/ped3/ped3/model/WallFacesPinLaw -/
def k1 : Class := { plain "com/example/ped3/ped3/model/WallFacesPinLaw" (some 0) with
  accessFlags := 49
  interfaces := #[]
  cf := some (fileOf pool1 22 #[] #[{ accessFlags := 1, nameIndex := 5, descriptorIndex := 6, attributes := #[] }, { accessFlags := 9, nameIndex := 26, descriptorIndex := 27, attributes := #[] }] 49 2 #[] #[])
  fields := #[]
  methods := #[k1m0, k1m1]
  instanceTypes := #[]
  staticTypes := #[]
  resolved := Array.replicate 31 none
  statics := none }

def pool2 : Array CpInfo := pool [(1, .methodref 2 3), (0, .class_ 4), (0, .nameAndType 5 6), (0, u "java/lang/Object"), (0, u "<init>"), (0, u "()V"), (0, .class_ 8), (0, u "java/lang/Record")] 13

def k2c0 : Code := { maxStack := 1, maxLocals := 1, code := jdk_30_method_1_code, exceptionTable := #[], attributes := #[] }
def k2m0 : Method := { name := "<init>", desc := "()V", sig := { parameters := [], returnType := none }, accessFlags := 4, code := some k2c0 }
/-- java/lang/Record -/
def k2 : Class := { plain "java/lang/Record" (some 0) with
  accessFlags := 1057
  interfaces := #[]
  cf := some (fileOf pool2 7 #[] #[{ accessFlags := 4, nameIndex := 5, descriptorIndex := 6, attributes := #[] }] 1057 2 #[] #[])
  fields := #[]
  methods := #[k2m0]
  instanceTypes := #[]
  staticTypes := #[]
  resolved := Array.replicate 22 none
  statics := none }

def pool3 : Array CpInfo := pool [(1, .methodref 2 3), (0, .class_ 4), (0, .nameAndType 5 6), (0, u "java/lang/Record"), (0, u "<init>"), (0, u "()V"), (0, .fieldref 8 9), (0, .class_ 10), (0, .nameAndType 11 12), (0, u "com/example/ped3/ped3/model/Wall"), (0, u "from"), (0, u "Lcom/example/ped3/ped3/model/Position;"), (0, .fieldref 8 14), (0, .nameAndType 15 12), (0, u "to"), (0, .methodref 17 18), (0, .class_ 19), (0, .nameAndType 20 21), (0, u "com/example/ped3/ped3/model/Position"), (0, u "x"), (0, u "()D"), (0, .methodref 17 23), (0, .nameAndType 24 21), (0, u "y"), (24, u "(Lcom/example/ped3/ped3/model/Position;Lcom/example/ped3/ped3/model/Position;)V"), (6, u "faces"), (0, u "(DD)Z")] 25

def k3c0 : Code := { maxStack := 2, maxLocals := 3, code := prog_13_method_1_code, exceptionTable := #[], attributes := #[] }
def k3m0 : Method := { name := "<init>", desc := "(Lcom/example/ped3/ped3/model/Position;Lcom/example/ped3/ped3/model/Position;)V", sig := { parameters := [(.object "com/example/ped3/ped3/model/Position"), (.object "com/example/ped3/ped3/model/Position")], returnType := none }, accessFlags := 1, code := some k3c0 }
def k3c1 : Code := { maxStack := 8, maxLocals := 9, code := prog_13_method_3_code, exceptionTable := #[], attributes := #[] }
def k3m1 : Method := { name := "faces", desc := "(DD)Z", sig := { parameters := [.double, .double], returnType := some .boolean }, accessFlags := 1, code := some k3c1 }
/-- com/example/ped3/ped3/model/Wall -/
def k3 : Class := { plain "com/example/ped3/ped3/model/Wall" (some 2) with
  accessFlags := 49
  interfaces := #[]
  cf := some (fileOf pool3 8 #[] #[{ accessFlags := 1, nameIndex := 5, descriptorIndex := 49, attributes := #[] }, { accessFlags := 1, nameIndex := 56, descriptorIndex := 57, attributes := #[] }] 49 2 #[] #[{ accessFlags := 18, nameIndex := 11, descriptorIndex := 12, attributes := #[] }, { accessFlags := 18, nameIndex := 15, descriptorIndex := 12, attributes := #[] }])
  fields := #[{ name := "from", type := (.object "com/example/ped3/ped3/model/Position"), accessFlags := 18, slot := 0, constantValue := 0 }, { name := "to", type := (.object "com/example/ped3/ped3/model/Position"), accessFlags := 18, slot := 1, constantValue := 0 }]
  methods := #[k3m0, k3m1]
  instanceTypes := #[(.object "com/example/ped3/ped3/model/Position"), (.object "com/example/ped3/ped3/model/Position")]
  staticTypes := #[]
  resolved := Array.replicate 83 none
  statics := none }

def pool4 : Array CpInfo := pool [(1, .methodref 2 3), (0, .class_ 4), (0, .nameAndType 5 6), (0, u "java/lang/Record"), (0, u "<init>"), (0, u "()V"), (0, .fieldref 8 9), (0, .class_ 10), (0, .nameAndType 11 12), (0, u "com/example/ped3/ped3/model/Position"), (0, u "x"), (0, u "D"), (0, .fieldref 8 14), (0, .nameAndType 15 12), (0, u "y"), (12, u "(DD)V"), (6, u "()D")] 21

def k4c0 : Code := { maxStack := 3, maxLocals := 5, code := prog_12_method_1_code, exceptionTable := #[], attributes := #[] }
def k4m0 : Method := { name := "<init>", desc := "(DD)V", sig := { parameters := [.double, .double], returnType := none }, accessFlags := 1, code := some k4c0 }
def k4c1 : Code := { maxStack := 2, maxLocals := 1, code := prog_12_method_5_code, exceptionTable := #[], attributes := #[] }
def k4m1 : Method := { name := "x", desc := "()D", sig := { parameters := [], returnType := some .double }, accessFlags := 1, code := some k4c1 }
def k4c2 : Code := { maxStack := 2, maxLocals := 1, code := prog_12_method_6_code, exceptionTable := #[], attributes := #[] }
def k4m2 : Method := { name := "y", desc := "()D", sig := { parameters := [], returnType := some .double }, accessFlags := 1, code := some k4c2 }
/-- com/example/ped3/ped3/model/Position -/
def k4 : Class := { plain "com/example/ped3/ped3/model/Position" (some 2) with
  accessFlags := 49
  interfaces := #[]
  cf := some (fileOf pool4 8 #[] #[{ accessFlags := 1, nameIndex := 5, descriptorIndex := 28, attributes := #[] }, { accessFlags := 1, nameIndex := 11, descriptorIndex := 35, attributes := #[] }, { accessFlags := 1, nameIndex := 15, descriptorIndex := 35, attributes := #[] }] 49 2 #[] #[{ accessFlags := 18, nameIndex := 11, descriptorIndex := 12, attributes := #[] }, { accessFlags := 18, nameIndex := 15, descriptorIndex := 12, attributes := #[] }])
  fields := #[{ name := "x", type := .double, accessFlags := 18, slot := 0, constantValue := 0 }, { name := "y", type := .double, accessFlags := 18, slot := 1, constantValue := 0 }]
  methods := #[k4m0, k4m1, k4m2]
  instanceTypes := #[.double, .double]
  staticTypes := #[]
  resolved := Array.replicate 57 none
  statics := none }

def pool5 : Array CpInfo := pool [(1, u "java/lang/Cloneable"), (0, .class_ 1), (0, u "java/lang/Object"), (0, .class_ 3)] 3

/-- java/lang/Cloneable -/
def k5 : Class := { plain "java/lang/Cloneable" (some 0) with
  accessFlags := 1537
  interfaces := #[]
  cf := some (fileOf pool5 2 #[] #[] 1537 4 #[] #[])
  fields := #[]
  methods := #[]
  instanceTypes := #[]
  staticTypes := #[]
  resolved := Array.replicate 8 none
  statics := none }

def pool6 : Array CpInfo := pool [(1, u "java/io/Serializable"), (0, .class_ 1), (0, u "java/lang/Object"), (0, .class_ 3)] 3

/-- java/io/Serializable -/
def k6 : Class := { plain "java/io/Serializable" (some 0) with
  accessFlags := 1537
  interfaces := #[]
  cf := some (fileOf pool6 2 #[] #[] 1537 4 #[] #[])
  fields := #[]
  methods := #[]
  instanceTypes := #[]
  staticTypes := #[]
  resolved := Array.replicate 8 none
  statics := none }

/-- the primitive byte -/
def k7 : Class := { plain "byte" none with kind := .primitive 'B', accessFlags := 0x411 }
/-- [B -/
def k8 : Class := { plain "[B" (some 0) with kind := .array 7 .byte, interfaces := #[5, 6], accessFlags := 1041 }

/-- the primitive int -/
def k9 : Class := { plain "int" none with kind := .primitive 'I', accessFlags := 0x411 }
/-- [I -/
def k10 : Class := { plain "[I" (some 0) with kind := .array 9 .int, interfaces := #[5, 6], accessFlags := 1041 }

def heap : Heap := #[]
def classes : Array Class := #[k0, k1, k2, k3, k4, k5, k6, k7, k8, k9, k10]
def interned : List (Array UInt16 × Addr) := []
def slotsUsed : Nat := 0
def theMethod : MethodId := ⟨1, 1⟩
def args0 : Array Value := #[.int 5, .int 3, .int 2, .int 7, .int 1, .int 4]
def aboutOver (below : List Frame) : State where
  vm := { classes := classes, interned := interned.toArray }
  heap := heap
  slotsUsed := slotsUsed
  threads := #[{ frames := .invoking theMethod args0 :: below }]
def below0 : List Frame := [.native { method := ⟨0, 0⟩, args := #[] }]
def about1 : State := aboutOver below0
def p0 : Program := .bare "" "" ""
def e0 : Env := launch0.env 0 0 0
theorem w_frames : about1.frames = Frame.invoking theMethod args0 :: below0 := rfl
set_option maxRecDepth 65536 in
theorem w_args : argsFit about1.vm theMethod args0 = true := by decide +kernel
set_option maxRecDepth 65536 in
theorem w_heap : heapFits about1 = true := by decide +kernel
set_option maxRecDepth 65536 in
theorem w_runnable : about1.curStatus? = some .runnable := by decide +kernel
set_option maxRecDepth 65536 in
theorem w_alone : about1.alone = true := by decide +kernel
set_option maxRecDepth 65536 in
theorem w_named : about1.methodNamed? x = some theMethod := by decide +kernel
set_option maxRecDepth 65536 in
theorem w_hears : about1.hears theMethod below0 = true := by decide +kernel
set_option maxRecDepth 65536 in
theorem w_ripe : about1.ripe theMethod args0 below0 = true := by decide +kernel
theorem w_running : about1.status = .running := rfl
set_option maxRecDepth 65536 in
theorem w_room : about1.hasRoom e0.platform room_1 = true :=
  launch0.hasRoom_least _ room_1 (by decide +kernel) (by decide +kernel) (by decide +kernel) (by decide +kernel) (by decide +kernel) (by decide +kernel)
theorem allAtoms_all (ts : List Jvm.Cond) (a : Array Jvm.Value) (st : Jvm.State) : (allAtoms ts).before a st = ts.all (fun c => c.before a st) := by
  induction ts with
  | nil => rfl
  | cons c t ih =>
    show (Jvm.Cond.and c (allAtoms t)).before a st = _
    rw [Jvm.Cond.before_and, ih, List.all_cons]
def words1 : List Jvm.Cond := Jvm.Cond.code x code maxLocals ret :: tables_1
/-- a 'code' word, met by the world's own term for the bytes: nothing is compared byte by byte -/
theorem code_word {y : MethodName} {bytes : ByteArray} {mx : Nat} {rt : Option FieldType} {a : Array Value} {s : State} {m : MethodId} {meth : Method} {c : Code} (h1 : s.methodNamed? y = some m) (h2 : s.vm.method? m = some meth) (h3 : meth.code = some c) (h4 : c.code = bytes)
    (h5 : (c.maxLocals == mx && c.exceptionTable.isEmpty && decide (c.maxStack ≤ mostOperands) && decide (meth.sig.returnType = rt) && !meth.locks && decide (parseMethodDescriptor y.desc = some meth.sig)) = true) : (Jvm.Cond.code y bytes mx rt).before a s = true := by
  simp only [Bool.and_eq_true, beq_iff_eq, Bool.not_eq_true', decide_eq_true_eq] at h5
  obtain ⟨⟨⟨⟨⟨g1, g2⟩, g3⟩, g4⟩, g5⟩, g6⟩ := h5
  simp [Cond.before, Cond.holds, Cond.value, h1, h2, h3, h4, g1, g2, g3, g4, g5, g6]
def isCode : Jvm.Cond → Bool
  | .code _ _ _ _ => true
  | _ => false
theorem all_split {L : List Jvm.Cond} {P : Jvm.Cond → Bool} (h1 : L.all (fun c => isCode c || P c) = true) (h2 : ∀ c ∈ L.filter isCode, P c = true) : L.all P = true := by
  refine List.all_eq_true.mpr fun c hc => ?_
  have h := List.all_eq_true.mp h1 c hc
  rcases Bool.eq_false_or_eq_true (isCode c) with hi | hi
  · exact h2 c (List.mem_filter.mpr ⟨hc, hi⟩)
  · simpa [hi] using h
set_option maxRecDepth 65536 in
theorem w_c0 : (Jvm.Cond.code x code maxLocals ret).before args0 about1 = true := code_word (m := ⟨1, 1⟩) (meth := k1m1) (c := k1c1) (by decide +kernel) rfl rfl rfl (by decide +kernel)
set_option maxRecDepth 65536 in
theorem w_c1 : (Jvm.Cond.code ({ cls := "com/example/ped3/ped3/model/Position", name := "<init>", desc := "(DD)V" } : Jvm.MethodName) prog_12_method_1_code (5 : Nat) (Option.none : Option Jvm.ClassFile.FieldType)).before args0 about1 = true := code_word (m := ⟨4, 0⟩) (meth := k4m0) (c := k4c0) (by decide +kernel) rfl rfl rfl (by decide +kernel)
set_option maxRecDepth 65536 in
theorem w_c2 : (Jvm.Cond.code ({ cls := "java/lang/Record", name := "<init>", desc := "()V" } : Jvm.MethodName) jdk_30_method_1_code (1 : Nat) (Option.none : Option Jvm.ClassFile.FieldType)).before args0 about1 = true := code_word (m := ⟨2, 0⟩) (meth := k2m0) (c := k2c0) (by decide +kernel) rfl rfl rfl (by decide +kernel)
set_option maxRecDepth 65536 in
theorem w_c3 : (Jvm.Cond.code ({ cls := "java/lang/Object", name := "<init>", desc := "()V" } : Jvm.MethodName) object_method_1_code (1 : Nat) (Option.none : Option Jvm.ClassFile.FieldType)).before args0 about1 = true := code_word (m := ⟨0, 0⟩) (meth := k0m0) (c := k0c0) (by decide +kernel) rfl rfl rfl (by decide +kernel)
set_option maxRecDepth 65536 in
theorem w_c4 : (Jvm.Cond.code ({ cls := "com/example/ped3/ped3/model/Wall", name := "<init>", desc := "(Lcom/example/ped3/ped3/model/Position;Lcom/example/ped3/ped3/model/Position;)V" } : Jvm.MethodName) prog_13_method_1_code (3 : Nat) (Option.none : Option Jvm.ClassFile.FieldType)).before args0 about1 = true := code_word (m := ⟨3, 0⟩) (meth := k3m0) (c := k3c0) (by decide +kernel) rfl rfl rfl (by decide +kernel)
set_option maxRecDepth 65536 in
theorem w_c5 : (Jvm.Cond.code ({ cls := "com/example/ped3/ped3/model/Wall", name := "faces", desc := "(DD)Z" } : Jvm.MethodName) prog_13_method_3_code (9 : Nat) (Option.some Jvm.ClassFile.FieldType.boolean)).before args0 about1 = true := code_word (m := ⟨3, 1⟩) (meth := k3m1) (c := k3c1) (by decide +kernel) rfl rfl rfl (by decide +kernel)
set_option maxRecDepth 65536 in
theorem w_c6 : (Jvm.Cond.code ({ cls := "com/example/ped3/ped3/model/Position", name := "x", desc := "()D" } : Jvm.MethodName) prog_12_method_5_code (1 : Nat) (Option.some Jvm.ClassFile.FieldType.double)).before args0 about1 = true := code_word (m := ⟨4, 1⟩) (meth := k4m1) (c := k4c1) (by decide +kernel) rfl rfl rfl (by decide +kernel)
set_option maxRecDepth 65536 in
theorem w_c7 : (Jvm.Cond.code ({ cls := "com/example/ped3/ped3/model/Position", name := "y", desc := "()D" } : Jvm.MethodName) prog_12_method_6_code (1 : Nat) (Option.some Jvm.ClassFile.FieldType.double)).before args0 about1 = true := code_word (m := ⟨4, 2⟩) (meth := k4m2) (c := k4c2) (by decide +kernel) rfl rfl rfl (by decide +kernel)
def codes1 : List Jvm.Cond := [Jvm.Cond.code x code maxLocals ret, Jvm.Cond.code ({ cls := "com/example/ped3/ped3/model/Position", name := "<init>", desc := "(DD)V" } : Jvm.MethodName) prog_12_method_1_code (5 : Nat) (Option.none : Option Jvm.ClassFile.FieldType), Jvm.Cond.code ({ cls := "java/lang/Record", name := "<init>", desc := "()V" } : Jvm.MethodName) jdk_30_method_1_code (1 : Nat) (Option.none : Option Jvm.ClassFile.FieldType), Jvm.Cond.code ({ cls := "java/lang/Object", name := "<init>", desc := "()V" } : Jvm.MethodName) object_method_1_code (1 : Nat) (Option.none : Option Jvm.ClassFile.FieldType), Jvm.Cond.code ({ cls := "com/example/ped3/ped3/model/Wall", name := "<init>", desc := "(Lcom/example/ped3/ped3/model/Position;Lcom/example/ped3/ped3/model/Position;)V" } : Jvm.MethodName) prog_13_method_1_code (3 : Nat) (Option.none : Option Jvm.ClassFile.FieldType), Jvm.Cond.code ({ cls := "com/example/ped3/ped3/model/Wall", name := "faces", desc := "(DD)Z" } : Jvm.MethodName) prog_13_method_3_code (9 : Nat) (Option.some Jvm.ClassFile.FieldType.boolean), Jvm.Cond.code ({ cls := "com/example/ped3/ped3/model/Position", name := "x", desc := "()D" } : Jvm.MethodName) prog_12_method_5_code (1 : Nat) (Option.some Jvm.ClassFile.FieldType.double), Jvm.Cond.code ({ cls := "com/example/ped3/ped3/model/Position", name := "y", desc := "()D" } : Jvm.MethodName) prog_12_method_6_code (1 : Nat) (Option.some Jvm.ClassFile.FieldType.double)]
set_option maxRecDepth 65536 in
theorem codes_eq : words1.filter isCode = codes1 := rfl
theorem w_codes : ∀ c ∈ words1.filter isCode, c.before args0 about1 = true := by
  rw [codes_eq]
  intro c hc
  simp only [codes1, List.mem_cons, List.not_mem_nil, or_false] at hc
  rcases hc with rfl | rfl | rfl | rfl | rfl | rfl | rfl | rfl
  · exact w_c0
  · exact w_c1
  · exact w_c2
  · exact w_c3
  · exact w_c4
  · exact w_c5
  · exact w_c6
  · exact w_c7
set_option maxRecDepth 65536 in
theorem w_t1 : (words1.take 24).all (fun c => isCode c || c.before args0 about1) = true := by decide +kernel
set_option maxRecDepth 65536 in
theorem w_t2 : (words1.drop 24).all (fun c => isCode c || c.before args0 about1) = true := by decide +kernel
theorem w_tables : (allAtoms (Jvm.Cond.code x code maxLocals ret :: tables_1)).before args0 about1 = true := by
  rw [allAtoms_all]
  show words1.all (fun c => c.before args0 about1) = true
  refine all_split ?_ w_codes
  rw [← List.take_append_drop 24 words1, List.all_append, w_t1, w_t2]
  rfl
set_option maxRecDepth 65536 in
theorem w_case : (Jvm.Cond.and given_1 narrow_1).before args0 about1 = true := by decide +kernel
theorem w_applies : (headSpec (Jvm.Cond.code x code maxLocals ret :: tables_1) room_1).applies x e0.platform about1 = true :=
  (Spec.applies_iff w_frames).mpr ⟨w_running, w_runnable, w_alone, w_named, w_hears, w_ripe, w_room, w_tables⟩
theorem atStart : AtStart classFile x code maxLocals ret World_1 tables_1 room_1 Calls_1 rest_1 Pre_1 launch0 p0 e0 about1 theMethod args0 below0 :=
  ⟨lists_1, trivial, launch0.admits_env _ _ _, launch0.least_env, fairChoices_fair.cas, fairChoices_fair.clock, w_frames, w_args, w_heap, w_applies, trivial, trivial, w_case⟩
end start1
theorem witness_1 : WitnessClaimed_1 := ⟨start1.p0, start1.e0, start1.about1, start1.theMethod, start1.args0, start1.below0, start1.atStart⟩
end Jvm.Pilot.@@N@@
