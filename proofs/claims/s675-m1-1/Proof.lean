import JvmDerived
import JvmDerived.Pilot.@@N@@Statement
import JvmDerived.Pilot.@@N@@Code
set_option linter.unusedVariables false
set_option linter.unusedSimpArgs false
@@BLOCK:NumsL.lean.txt@@
namespace Jvm.RoadKit
open Sem ClassFile Op Lib Jvm.Stand Jvm.Free Jvm.LawKit
section New
variable {p : Program} {l : Launch} {e : Env} {R : Room} {s : State} {m : MethodId} {args : Array Value} {below : List Frame} {meth : Method} {c : Code} {T : State} {locs : List Loc} {cells slots : Nat}
theorem retI (X : Stand p l e R s m args below meth c T locs cells slots) (hx : p.tables.exec = Jvm.exec) {pc : Nat} {Ls : Array Slot} {z : Int32} {rest : List Value} (hret : meth.sig.returnType = some .int) (hd : decode c.code pc = .ok (.ireturn, 1)) {fs : List Frame}
    (hl : ∀ (f : JFrame) (acts : List Action), f.method = m → f.locked = none → f.entered = [] → (doReturn e (T.setTop f) acts (some (.int z))).1 = T.setFrames fs) : Steps p.tables e below (T.setTop (mkF m pc Ls (.int z :: rest))) (T.setFrames fs) := by
  have hm' : T.vm.method? m = some meth := X.method'
  have hn : narrow .int (.int z) = .int z := rfl
  show Steps p.tables e below (T.setTop { method := m, pc := pc, locals := Ls, stack := _ :: rest, locked := none }) _
  jvm_step X.here [X.here.top, hx, hd, hm', hret, hn]
  first | (intro acts; rw [hl _ acts rfl rfl rfl]) | rw [hl _ _ rfl rfl rfl]
  exact Steps.refl _
theorem retD (X : Stand p l e R s m args below meth c T locs cells slots) (hx : p.tables.exec = Jvm.exec) {pc : Nat} {Ls : Array Slot} {z : UInt64} {rest : List Value} (hret : meth.sig.returnType = some .double) (hd : decode c.code pc = .ok (.dreturn, 1)) {fs : List Frame}
    (hl : ∀ (f : JFrame) (acts : List Action), f.method = m → f.locked = none → f.entered = [] → (doReturn e (T.setTop f) acts (some (.double z))).1 = T.setFrames fs) : Steps p.tables e below (T.setTop (mkF m pc Ls (.double z :: rest))) (T.setFrames fs) := by
  have hm' : T.vm.method? m = some meth := X.method'
  have hn : narrow .double (.double z) = .double z := rfl
  show Steps p.tables e below (T.setTop { method := m, pc := pc, locals := Ls, stack := _ :: rest, locked := none }) _
  jvm_step X.here [X.here.top, hx, hd, hm', hret, hn]
  first | (intro acts; rw [hl _ acts rfl rfl rfl]) | rw [hl _ _ rfl rfl rfl]
  exact Steps.refl _
end New
end Jvm.RoadKit
namespace Jvm.OwnFP
open Sem ClassFile Op Lib
theorem rem32_eq (x y : Int32) : x - x / y * y = x % y := Int32.toInt_inj.mp (by
  have a := (x % y).toInt_lt; have b := (x % y).le_toInt
  rw [Int32.toInt_mod] at a b ⊢
  rw [Int32.toInt_sub, Int32.toInt_mul, Int32.toInt_div, Int.bmod_mul_bmod, Int.sub_bmod_bmod, Int.mul_comm, ← Int.tmod_def]
  exact Jvm.Kit.bmod32 b a)
theorem cat1R {w : Value} (h : w.isRef = true) : w.category = 1 := by
  cases w <;> first | rfl | cases h
theorem rem64_eq (x y : Int64) : x - x / y * y = x % y := Int64.toInt_inj.mp (by rw [Jvm.Kit.i64_rem, Int64.toInt_mod])
theorem iremM {tb : Tables} [Ours tb] {e : Env} {below : List Frame} {T target : State} {m : MethodId} {c : Code} {g : JFrame} (h : At T m c below) (hx : tb.exec = Jvm.exec) (hg : g.method = m) {x y : Int32} {rest : List Value} (hd : decode c.code g.pc = .ok (.irem, 1)) (hs : g.stack = .int y :: .int x :: rest) (hy : y ≠ 0)
    (hr : Steps tb e below (T.setTop { g with pc := g.pc + 1, stack := .int (x % y) :: rest }) target) : Steps tb e below (T.setTop g) target := Jvm.Free.XS.irem h hx hg hd hs hy (by rw [rem32_eq]; exact hr)
theorem lremM {tb : Tables} [Ours tb] {e : Env} {below : List Frame} {T target : State} {m : MethodId} {c : Code} {g : JFrame} (h : At T m c below) (hx : tb.exec = Jvm.exec) (hg : g.method = m) {x y : Int64} {rest : List Value} (hd : decode c.code g.pc = .ok (.lrem, 1)) (hs : g.stack = .long y :: .long x :: rest) (hy : y ≠ 0)
    (hr : Steps tb e below (T.setTop { g with pc := g.pc + 1, stack := .long (x % y) :: rest }) target) : Steps tb e below (T.setTop g) target := Jvm.Free.XS.lrem h hx hg hd hs hy (by rw [rem64_eq]; exact hr)
end Jvm.OwnFP
namespace Jvm.OwnFP
open Jvm.FP.Core
/-! doubles by their values in units of 2^-1074: rounding is monotone, numbers of the format round to themselves -/
def zv (a : UInt64) : Int := zval b64 (val64 a)
/-- z (in units) is a number of the format -/
def Rep (z : Int) : Prop := ∃ V : Datum, Jvm.FP.Core.fits b64 V ∧ V ≠ .nan ∧ zval b64 V = z
abbrev O : Int := (one64 : Int)
theorem mmmc (a b c d : Int) : a * b * (c * d) = a * c * (b * d) := by rw [Int.mul_assoc, Int.mul_assoc, Int.mul_left_comm b]
theorem O_pos : 0 < O := by have := one64_pos; show (0 : Int) < (one64 : Int); omega
theorem qmax_b64 : b64.qmax = 971 := by decide +kernel
theorem signed_nat (n : Int) : signed (decide (n < 0)) n.natAbs = n := by
  unfold signed
  by_cases h : n < 0
  · simp only [h, decide_true, if_true]; omega
  · simp only [h, decide_false, Bool.false_eq_true, if_false]; omega
theorem rep_lt {n : Int} (k : Nat) (hn : n.natAbs < 9007199254740992) (hk : k ≤ 2000) : Rep (n * ((2 ^ k : Nat) : Int)) := by
  obtain ⟨c', q', h1, h2⟩ := round_exact good_b64 (decide (n < 0)) (c := n.natAbs) (q := (k : Int) - 1074) (Nat.lt_of_lt_of_le hn (by decide +kernel)) (by rw [qmin_b64]; omega) (by rw [qmax_b64]; omega)
  refine ⟨round b64 (.fin (decide (n < 0)) n.natAbs ((k : Int) - 1074)), round_fits good_b64 _, ?_, ?_⟩
  · rw [h1]; exact Datum.noConfusion
  · rw [h1]
    show signed (decide (n < 0)) (inUnits c' q' b64.qmin) = _
    rw [h2]
    unfold inUnits
    rw [qmin_b64, signed_mul, signed_nat, show ((k : Int) - 1074 - -1074).toNat = k by omega]
theorem rep_le {n : Int} (k : Nat) (hn : n.natAbs ≤ 9007199254740992) (hk : k ≤ 1999) : Rep (n * ((2 ^ k : Nat) : Int)) := by
  by_cases h : n.natAbs < 9007199254740992
  · exact rep_lt k h (by omega)
  · have h2 : n = 9007199254740992 ∨ n = -9007199254740992 := by omega
    have e : ∀ m : Int, (m * 2) * ((2 ^ k : Nat) : Int) = m * ((2 ^ (k + 1) : Nat) : Int) := fun m => by
      rw [Nat.pow_succ, Int.natCast_mul, Int.mul_assoc, Int.mul_comm 2]; rfl
    rcases h2 with rfl | rfl
    · rw [show (9007199254740992 : Int) = 4503599627370496 * 2 by decide, e]; exact rep_lt (k + 1) (by decide) (by omega)
    · rw [show (-9007199254740992 : Int) = -4503599627370496 * 2 by decide, e]; exact rep_lt (k + 1) (by decide) (by omega)
theorem pow_split (k j : Nat) : ((2 ^ (k + j) : Nat) : Int) = ((2 ^ k : Nat) : Int) * ((2 ^ j : Nat) : Int) := by rw [Nat.pow_add, Int.natCast_mul]
theorem pow_O (j : Nat) (hj : j ≤ 1074) : O = ((2 ^ j : Nat) : Int) * ((2 ^ (1074 - j) : Nat) : Int) := by
  rw [← pow_split, show j + (1074 - j) = 1074 by omega]; rfl
/-- a whole number -/
theorem rep_int {n : Int} (hn : n.natAbs ≤ 9007199254740992) : Rep (n * O) := by
  have := rep_le (n := n) 1074 hn (by decide)
  exact this
/-- n halves .. : n / 2^j -/
theorem rep_frac {n : Int} (j : Nat) (hj : j ≤ 1074) {z : Int} (hn : n.natAbs ≤ 9007199254740992) (h : z * ((2 ^ j : Nat) : Int) = n * O) : Rep z := by
  have h1 := rep_le (n := n) (1074 - j) hn (by omega)
  have hp : (0 : Int) < ((2 ^ j : Nat) : Int) := Int.natCast_pos.mpr (Nat.two_pow_pos j)
  have e : z = n * ((2 ^ (1074 - j) : Nat) : Int) := by
    refine Int.eq_of_mul_eq_mul_right (Int.ne_of_gt hp) ?_
    rw [h, pow_O j hj, Int.mul_assoc, Int.mul_comm ((2 ^ (1074 - j) : Nat) : Int)]
  rw [e]; exact h1
theorem Rep.neg {z : Int} (h : Rep z) : Rep (-z) := by
  obtain ⟨V, h1, h2, rfl⟩ := h
  exact ⟨negate V, negate_fits h1, negate_ne_nan h2, zval_negate b64 V⟩
theorem rep_zv {a : UInt64} (h : val64 a ≠ .nan) : Rep (zv a) := ⟨val64 a, val64_fits a, h, rfl⟩
theorem fin_of {a : UInt64} (h : DFin a) : ∃ s c q, val64 a = .fin s c q ∧ Jvm.FP.Core.fits b64 (.fin s c q) := by
  obtain ⟨s, c, q, h⟩ := h
  exact ⟨s, c, q, h, h ▸ val64_fits a⟩
/-! whole numbers -/
theorem l2d_le {n : Int64} {z : Int} (hz : Rep z) (h : n.toInt * O ≤ z) : zv (Jvm.FP.l2d n) ≤ z := by
  obtain ⟨V, fV, nV, rfl⟩ := hz
  show zval b64 (val64 (l2d n)) ≤ _
  rw [val64_l2d]
  refine zval_round_le good_b64 fV nV (e0 := b64.qmin) (Int.le_refl _) (by decide +kernel) ?_
  rw [ofInt_units b64, pow_qmin64, Int.sub_self]
  show _ ≤ _ * ((1 : Nat) : Int)
  rw [show ((1 : Nat) : Int) = 1 from rfl, Int.mul_one]; exact h
theorem l2d_ge {n : Int64} {z : Int} (hz : Rep z) (h : z ≤ n.toInt * O) : z ≤ zv (Jvm.FP.l2d n) := by
  obtain ⟨V, fV, nV, rfl⟩ := hz
  show _ ≤ zval b64 (val64 (l2d n))
  rw [val64_l2d]
  refine zval_round_ge good_b64 fV nV (e0 := b64.qmin) (Int.le_refl _) (by decide +kernel) ?_
  rw [ofInt_units b64, pow_qmin64, Int.sub_self]
  show _ * ((1 : Nat) : Int) ≤ _
  rw [show ((1 : Nat) : Int) = 1 from rfl, Int.mul_one]; exact h
theorem l2d_eq {n : Int64} (h : n.toInt.natAbs ≤ 9007199254740992) : zv (Jvm.FP.l2d n) = n.toInt * O :=
  Int.le_antisymm (l2d_le (rep_int h) (Int.le_refl _)) (l2d_ge (rep_int h) (Int.le_refl _))
theorem i2d_eq (n : Int32) : zv (Jvm.FP.i2d n) = n.toInt * O := DInt_zval (i2d_int n)
theorem l2dF (n : Int64) : DFin (Jvm.FP.l2d n) := l2d_fin n
theorem i2dF (n : Int32) : DFin (Jvm.FP.i2d n) := i2d_fin n
/-! products -/
theorem mul_le {a b : UInt64} {z : Int} (ha : DFin a) (hb : DFin b) (hz : Rep z) (h : zv a * zv b ≤ z * O) : zv (Jvm.FP.dmul a b) ≤ z := by
  obtain ⟨V, fV, nV, rfl⟩ := hz
  obtain ⟨s, c, q, ea, fa⟩ := fin_of ha
  obtain ⟨t, d, r, eb, fb⟩ := fin_of hb
  unfold zv at h ⊢
  rw [ea, eb] at h
  show zval b64 (val64 (dmul a b)) ≤ _
  rw [val64_dmul, ea, eb]
  obtain ⟨h1, h2, h3⟩ := product_units fa fb
  rw [h1]
  refine zval_round_le good_b64 fV nV (e0 := 2 * b64.qmin) (by rw [qmin_b64]; decide) h2 ?_
  rw [h3, signed_xor, show (b64.qmin - 2 * b64.qmin).toNat = (-b64.qmin).toNat by omega, pow_qmin64]
  exact h
theorem mul_ge {a b : UInt64} {z : Int} (ha : DFin a) (hb : DFin b) (hz : Rep z) (h : z * O ≤ zv a * zv b) : z ≤ zv (Jvm.FP.dmul a b) := by
  obtain ⟨V, fV, nV, rfl⟩ := hz
  obtain ⟨s, c, q, ea, fa⟩ := fin_of ha
  obtain ⟨t, d, r, eb, fb⟩ := fin_of hb
  unfold zv at h ⊢
  rw [ea, eb] at h
  show _ ≤ zval b64 (val64 (dmul a b))
  rw [val64_dmul, ea, eb]
  obtain ⟨h1, h2, h3⟩ := product_units fa fb
  rw [h1]
  refine zval_round_ge good_b64 fV nV (e0 := 2 * b64.qmin) (by rw [qmin_b64]; decide) h2 ?_
  rw [h3, signed_xor, show (b64.qmin - 2 * b64.qmin).toNat = (-b64.qmin).toNat by omega, pow_qmin64]
  exact h
theorem mul_eq {a b : UInt64} {z : Int} (ha : DFin a) (hb : DFin b) (hz : Rep z) (h : zv a * zv b = z * O) : zv (Jvm.FP.dmul a b) = z :=
  Int.le_antisymm (mul_le ha hb hz (Int.le_of_eq h)) (mul_ge ha hb hz (Int.le_of_eq h.symm))
/-! sums -/
theorem add_le {a b : UInt64} {z : Int} (ha : DFin a) (hb : DFin b) (hz : Rep z) (h : zv a + zv b ≤ z) : zv (Jvm.FP.dadd a b) ≤ z := by
  obtain ⟨V, fV, nV, rfl⟩ := hz
  show zval b64 (val64 (dadd a b)) ≤ _
  rw [val64_dadd]
  exact sum_le good_b64 ha hb (val64_fits a) (val64_fits b) fV nV h
theorem add_ge {a b : UInt64} {z : Int} (ha : DFin a) (hb : DFin b) (hz : Rep z) (h : z ≤ zv a + zv b) : z ≤ zv (Jvm.FP.dadd a b) := by
  obtain ⟨V, fV, nV, rfl⟩ := hz
  show _ ≤ zval b64 (val64 (dadd a b))
  rw [val64_dadd]
  exact sum_ge good_b64 ha hb (val64_fits a) (val64_fits b) fV nV h
theorem add_eq {a b : UInt64} {z : Int} (ha : DFin a) (hb : DFin b) (hz : Rep z) (h : zv a + zv b = z) : zv (Jvm.FP.dadd a b) = z :=
  Int.le_antisymm (add_le ha hb hz (Int.le_of_eq h)) (add_ge ha hb hz (Int.le_of_eq h.symm))
theorem fin_negate {b : UInt64} (hb : DFin b) : ∃ s c q, negate (val64 b) = .fin s c q := by
  obtain ⟨s, c, q, h⟩ := hb
  rw [h]; exact ⟨_, _, _, rfl⟩
theorem sub_le {a b : UInt64} {z : Int} (ha : DFin a) (hb : DFin b) (hz : Rep z) (h : zv a - zv b ≤ z) : zv (Jvm.FP.dsub a b) ≤ z := by
  obtain ⟨V, fV, nV, rfl⟩ := hz
  show zval b64 (val64 (dsub a b)) ≤ _
  rw [val64_dsub]
  refine sum_le good_b64 ha (fin_negate hb) (val64_fits a) (negate_fits (val64_fits b)) fV nV ?_
  rw [zval_negate]; unfold zv at h; omega
theorem sub_ge {a b : UInt64} {z : Int} (ha : DFin a) (hb : DFin b) (hz : Rep z) (h : z ≤ zv a - zv b) : z ≤ zv (Jvm.FP.dsub a b) := by
  obtain ⟨V, fV, nV, rfl⟩ := hz
  show _ ≤ zval b64 (val64 (dsub a b))
  rw [val64_dsub]
  refine sum_ge good_b64 ha (fin_negate hb) (val64_fits a) (negate_fits (val64_fits b)) fV nV ?_
  rw [zval_negate]; unfold zv at h; omega
theorem sub_eq {a b : UInt64} {z : Int} (ha : DFin a) (hb : DFin b) (hz : Rep z) (h : zv a - zv b = z) : zv (Jvm.FP.dsub a b) = z :=
  Int.le_antisymm (sub_le ha hb hz (Int.le_of_eq h)) (sub_ge ha hb hz (Int.le_of_eq h.symm))
/-! quotients -/
theorem ratio_le {s : Bool} {A B : Nat} {e e0 : Int} {V : Datum} (hB : 0 < B) (hV : Jvm.FP.Core.fits b64 V) (hn : V ≠ .nan) (h0 : e0 ≤ b64.qmin) (h0e : e0 ≤ e)
    (h : signed s (inUnits A e e0) ≤ zval b64 V * ((2 ^ (b64.qmin - e0).toNat * B : Nat) : Int)) : zval b64 (roundRatio b64 s A B e) ≤ zval b64 V := by
  have hle := zmag_roundRatio_le good_b64 (s := s) (A := A) hB hV hn h0 h0e
  have hge := zmag_roundRatio_ge good_b64 (s := s) (A := A) hB hV h0 h0e
  have hP : 0 < 2 ^ (b64.qmin - e0).toNat * B := Nat.mul_pos (Nat.two_pow_pos _) hB
  rw [Nat.mul_assoc] at hle hge
  unfold zval at h ⊢
  rw [sgn_roundRatio]
  rw [← signed_mul] at h
  have hz : zmag b64 V * (2 ^ (b64.qmin - e0).toNat * B) = 0 → zmag b64 V = 0 := by
    intro h
    rcases Nat.mul_eq_zero.mp h with h | h <;> omega
  generalize zmag b64 V * (2 ^ (b64.qmin - e0).toNat * B) = vP at *
  generalize sgn V = t at *
  cases s <;> cases t <;> simp only [signed, if_true, Bool.false_eq_true, if_false] at h ⊢
  · have := hle (by omega); omega
  · have := hle (by omega); have := hz (by omega); omega
  · omega
  · have := hge (by omega); omega
theorem signed_flip (s : Bool) (m : Nat) : signed (!s) m = -signed s m := by cases s <;> simp [signed]
theorem ratio_ge {s : Bool} {A B : Nat} {e e0 : Int} {V : Datum} (hB : 0 < B) (hV : Jvm.FP.Core.fits b64 V) (hn : V ≠ .nan) (h0 : e0 ≤ b64.qmin) (h0e : e0 ≤ e)
    (h : zval b64 V * ((2 ^ (b64.qmin - e0).toNat * B : Nat) : Int) ≤ signed s (inUnits A e e0)) : zval b64 V ≤ zval b64 (roundRatio b64 s A B e) := by
  have h1 := ratio_le (s := !s) (A := A) (e := e) (V := negate V) hB (negate_fits hV) (negate_ne_nan hn) h0 h0e (by
    rw [zval_negate, Int.neg_mul, signed_flip]; omega)
  rw [zval_negate, ← negate_roundRatio, zval_negate] at h1
  omega
theorem zval_fin (s : Bool) (c : Nat) (q : Int) : zval b64 (.fin s c q) = signed s c * ((2 ^ (q - b64.qmin).toNat : Nat) : Int) := by
  show signed s (inUnits c q b64.qmin) = _
  unfold inUnits; rw [signed_mul]
theorem pow_mul_eq {a b c d : Nat} (h : a + b = c + d) : (2 ^ a * 2 ^ b : Nat) = 2 ^ c * 2 ^ d := by rw [← Nat.pow_add, ← Nat.pow_add, h]
/-- how c·2^q / (d·2^r) ≤ z reads in units -/
theorem div_units {s : Bool} {c d : Nat} {q r : Int} (hq : b64.qmin ≤ q) (hr : b64.qmin ≤ r) :
    ∃ (x y : Nat), (signed s (inUnits c (q - r) (min b64.qmin (q - r)))) * ((2 ^ x : Nat) : Int) = (signed s c * ((2 ^ (q - b64.qmin).toNat : Nat) : Int)) * O * ((2 ^ y : Nat) : Int) ∧
      ∀ z : Int, (z * ((2 ^ (b64.qmin - min b64.qmin (q - r)).toNat * d : Nat) : Int)) * ((2 ^ x : Nat) : Int) = z * ((d : Int) * ((2 ^ (r - b64.qmin).toNat : Nat) : Int)) * ((2 ^ y : Nat) : Int) := by
  have hO : O = ((2 ^ (-b64.qmin).toNat : Nat) : Int) := by rw [pow_qmin64]
  have hqm : b64.qmin ≤ 0 := by rw [qmin_b64]; decide
  refine ⟨(r - 2 * b64.qmin + min b64.qmin (q - r)).toNat, (-(r - 2 * b64.qmin + min b64.qmin (q - r))).toNat, ?_, fun z => ?_⟩
  · unfold inUnits
    rw [signed_mul, hO]
    have e : (q - r - min b64.qmin (q - r)).toNat + (r - 2 * b64.qmin + min b64.qmin (q - r)).toNat = ((q - b64.qmin).toNat + (-b64.qmin).toNat) + (-(r - 2 * b64.qmin + min b64.qmin (q - r))).toNat := by omega
    have e2 := pow_mul_eq e
    rw [Nat.pow_add _ (q - b64.qmin).toNat] at e2
    have e3 : (((2 ^ (q - r - min b64.qmin (q - r)).toNat : Nat) : Int)) * ((2 ^ (r - 2 * b64.qmin + min b64.qmin (q - r)).toNat : Nat) : Int) = ((2 ^ (q - b64.qmin).toNat : Nat) : Int) * ((2 ^ (-b64.qmin).toNat : Nat) : Int) * ((2 ^ (-(r - 2 * b64.qmin + min b64.qmin (q - r))).toNat : Nat) : Int) := by
      rw [← Int.natCast_mul, ← Int.natCast_mul, ← Int.natCast_mul, e2]
    rw [Int.mul_assoc, e3]; simp only [Int.mul_assoc]
  · have e : (b64.qmin - min b64.qmin (q - r)).toNat + (r - 2 * b64.qmin + min b64.qmin (q - r)).toNat = (r - b64.qmin).toNat + (-(r - 2 * b64.qmin + min b64.qmin (q - r))).toNat := by omega
    have e2 := pow_mul_eq e
    have e3 : ((2 ^ (b64.qmin - min b64.qmin (q - r)).toNat * d : Nat) : Int) * ((2 ^ (r - 2 * b64.qmin + min b64.qmin (q - r)).toNat : Nat) : Int) = ((d : Int) * ((2 ^ (r - b64.qmin).toNat : Nat) : Int)) * ((2 ^ (-(r - 2 * b64.qmin + min b64.qmin (q - r))).toNat : Nat) : Int) := by
      rw [← Int.natCast_mul, ← Int.natCast_mul, ← Int.natCast_mul, Nat.mul_right_comm, e2, Nat.mul_comm d, Nat.mul_right_comm]
    rw [Int.mul_assoc, e3]; simp only [Int.mul_assoc]
theorem pos_fin {s : Bool} {c : Nat} {q : Int} (h : 0 < signed s c * ((2 ^ (q - b64.qmin).toNat : Nat) : Int)) : s = false ∧ 0 < c := by
  have hp : (0 : Int) < ((2 ^ (q - b64.qmin).toNat : Nat) : Int) := Int.natCast_pos.mpr (Nat.two_pow_pos _)
  have h1 : 0 < signed s c := by
    refine Int.lt_of_not_ge fun hle => ?_
    have := Int.mul_le_mul_of_nonneg_right hle (Int.le_of_lt hp)
    omega
  cases s
  · exact ⟨rfl, by simp only [signed, Bool.false_eq_true, if_false] at h1; omega⟩
  · simp only [signed, if_true] at h1; omega
theorem div_parts {a b : UInt64} (ha : DFin a) (hb : DFin b) (hp : 0 < zv b) : ∃ s c q d r, val64 (Jvm.FP.ddiv a b) = roundRatio b64 s c d (q - r) ∧ 0 < d ∧ b64.qmin ≤ q ∧ b64.qmin ≤ r ∧
    zv a = signed s c * ((2 ^ (q - b64.qmin).toNat : Nat) : Int) ∧ zv b = (d : Int) * ((2 ^ (r - b64.qmin).toNat : Nat) : Int) := by
  obtain ⟨s, c, q, ea, fa⟩ := fin_of ha
  obtain ⟨t, d, r, eb, fb⟩ := fin_of hb
  unfold zv at hp ⊢
  rw [eb, zval_fin] at hp
  obtain ⟨rfl, hd⟩ := pos_fin hp
  refine ⟨s, c, q, d, r, ?_, hd, fa.2.1, fb.2.1, ?_, ?_⟩
  · show val64 (ddiv a b) = _
    rw [val64_ddiv, ea, eb]
    show (if d = 0 then _ else roundRatio b64 (s != false) c d (q - r)) = _
    rw [if_neg (by omega)]
    cases s <;> rfl
  · rw [ea, zval_fin]
  · rw [eb, zval_fin]; rfl
theorem div_le {a b : UInt64} {z : Int} (ha : DFin a) (hb : DFin b) (hp : 0 < zv b) (hz : Rep z) (h : zv a * O ≤ z * zv b) : zv (Jvm.FP.ddiv a b) ≤ z := by
  obtain ⟨s, c, q, d, r, e1, hd, hq, hr, e2, e3⟩ := div_parts ha hb hp
  obtain ⟨V, fV, nV, rfl⟩ := hz
  unfold zv at h ⊢
  rw [e1]
  refine ratio_le hd fV nV (e0 := min b64.qmin (q - r)) (by omega) (by omega) ?_
  obtain ⟨x, y, u1, u2⟩ := div_units (s := s) (c := c) (d := d) hq hr
  refine Int.le_of_mul_le_mul_right (a := ((2 ^ x : Nat) : Int)) ?_ (Int.natCast_pos.mpr (Nat.two_pow_pos x))
  rw [u1, u2]
  refine Int.mul_le_mul_of_nonneg_right ?_ (Int.natCast_nonneg _)
  rw [← e2, ← e3]; exact h
theorem div_ge {a b : UInt64} {z : Int} (ha : DFin a) (hb : DFin b) (hp : 0 < zv b) (hz : Rep z) (h : z * zv b ≤ zv a * O) : z ≤ zv (Jvm.FP.ddiv a b) := by
  obtain ⟨s, c, q, d, r, e1, hd, hq, hr, e2, e3⟩ := div_parts ha hb hp
  obtain ⟨V, fV, nV, rfl⟩ := hz
  unfold zv at h ⊢
  rw [e1]
  refine ratio_ge hd fV nV (e0 := min b64.qmin (q - r)) (by omega) (by omega) ?_
  obtain ⟨x, y, u1, u2⟩ := div_units (s := s) (c := c) (d := d) hq hr
  refine Int.le_of_mul_le_mul_right (a := ((2 ^ x : Nat) : Int)) ?_ (Int.natCast_pos.mpr (Nat.two_pow_pos x))
  rw [u1, u2]
  refine Int.mul_le_mul_of_nonneg_right ?_ (Int.natCast_nonneg _)
  rw [← e2, ← e3]; exact h
theorem div_eq {a b : UInt64} {z : Int} (ha : DFin a) (hb : DFin b) (hp : 0 < zv b) (hz : Rep z) (h : zv a * O = z * zv b) : zv (Jvm.FP.ddiv a b) = z :=
  Int.le_antisymm (div_le ha hb hp hz (Int.le_of_eq h)) (div_ge ha hb hp hz (Int.le_of_eq h.symm))
/-! no NaNs, finite results -/
theorem nn_fin {a : UInt64} (h : DFin a) : Jvm.Free.Fl.NoNaN64 a := Jvm.Free.Fl.val64_no.mpr h.ne_nan
theorem nn_mul {a b : UInt64} (ha : DFin a) (hb : DFin b) : Jvm.Free.Fl.NoNaN64 (Jvm.FP.dmul a b) := Jvm.Free.Fl.noNaN64_no.mpr (dmul_out ha hb)
theorem nn_add {a b : UInt64} (ha : DFin a) (hb : DFin b) : Jvm.Free.Fl.NoNaN64 (Jvm.FP.dadd a b) := Jvm.Free.Fl.noNaN64_no.mpr (dadd_out ha.notNaN hb)
theorem nn_sub {a b : UInt64} (ha : DFin a) (hb : DFin b) : Jvm.Free.Fl.NoNaN64 (Jvm.FP.dsub a b) := Jvm.Free.Fl.noNaN64_no.mpr (dsub_out ha.notNaN hb)
theorem zv_zero {a : UInt64} (h : DZero a) : zv a = 0 := h.zval
theorem nn_div {a b : UInt64} (ha : DFin a) (hb : DFin b) (hz : zv b ≠ 0) : Jvm.Free.Fl.NoNaN64 (Jvm.FP.ddiv a b) := Jvm.Free.Fl.noNaN64_no.mpr (ddiv_out ha.notNaN hb fun q => hz (zv_zero q))
theorem nn_ne {a : UInt64} (h : Jvm.Free.Fl.NoNaN64 a) : val64 a ≠ .nan := Jvm.Free.Fl.val64_no.mp h
theorem top_big : 18446744073709551616 * one64 < b64.tails * 2 ^ (b64.exps - 2) := by decide +kernel
theorem zmag_zv (a : UInt64) : ((zmag b64 (val64 a) : Nat) : Int) = zv a ∨ ((zmag b64 (val64 a) : Nat) : Int) = -zv a := by
  unfold zv zval
  cases sgn (val64 a) <;> simp [signed]
theorem fin_of_zv {a : UInt64} (h : Jvm.Free.Fl.NoNaN64 a) (h1 : -(18446744073709551616 * O) ≤ zv a) (h2 : zv a ≤ 18446744073709551616 * O) : DFin a := by
  have hn := nn_ne h
  cases e : val64 a with
  | nan => exact absurd e hn
  | fin s c q => exact ⟨s, c, q, e⟩
  | inf s =>
    exfalso
    have hz : zmag b64 (val64 a) = b64.tails * 2 ^ (b64.exps - 2) := by rw [e]; rfl
    have ht := top_big
    have hc := zmag_zv a
    rw [hz] at hc
    generalize b64.tails * 2 ^ (b64.exps - 2) = T at *
    unfold O at h1 h2
    rcases hc with hc | hc <;> omega
/-! comparisons -/
theorem cmp_zv {a b : UInt64} (ha : Jvm.Free.Fl.NoNaN64 a) (hb : Jvm.Free.Fl.NoNaN64 b) : Jvm.FP.dcmp a b = some (compare (zv a) (zv b)) := dcmp_zval (nn_ne ha) (nn_ne hb)
theorem compare_if (x y : Int) : compare x y = if x < y then .lt else if x = y then .eq else .gt := rfl
open Jvm.Op in
theorem if_lt {a b : UInt64} (ha : Jvm.Free.Fl.NoNaN64 a) (hb : Jvm.Free.Fl.NoNaN64 b) (o : Jvm.ClassFile.CmpOp) : ifCond.holds .lt (cmpValue (Jvm.FP.dcmp a b) o) = decide (zv a < zv b) := by
  rw [cmp_zv ha hb, compare_if]; by_cases h1 : zv a < zv b
  · simp only [h1, if_true]; cases o <;> decide
  · by_cases h2 : zv a = zv b
    · simp only [h1, h2, Int.lt_irrefl, if_true, if_false]; cases o <;> decide
    · simp only [h1, h2, if_false]; cases o <;> decide
open Jvm.Op in
theorem if_ge {a b : UInt64} (ha : Jvm.Free.Fl.NoNaN64 a) (hb : Jvm.Free.Fl.NoNaN64 b) (o : Jvm.ClassFile.CmpOp) : ifCond.holds .ge (cmpValue (Jvm.FP.dcmp a b) o) = decide (zv b ≤ zv a) := by
  rw [cmp_zv ha hb, compare_if]; by_cases h1 : zv a < zv b
  · have : ¬ zv b ≤ zv a := by omega
    simp only [h1, this, if_true]; cases o <;> decide
  · have : zv b ≤ zv a := by omega
    by_cases h2 : zv a = zv b
    · simp only [h1, h2, this, Int.lt_irrefl, Int.le_refl, if_true, if_false]; cases o <;> decide
    · simp only [h1, h2, this, if_false]; cases o <;> decide
open Jvm.Op in
theorem if_gt {a b : UInt64} (ha : Jvm.Free.Fl.NoNaN64 a) (hb : Jvm.Free.Fl.NoNaN64 b) (o : Jvm.ClassFile.CmpOp) : ifCond.holds .gt (cmpValue (Jvm.FP.dcmp a b) o) = decide (zv b < zv a) := by
  rw [cmp_zv ha hb, compare_if]; by_cases h1 : zv a < zv b
  · have : ¬ zv b < zv a := by omega
    simp only [h1, this, if_true]; cases o <;> decide
  · by_cases h2 : zv a = zv b
    · simp only [h1, h2, Int.lt_irrefl, if_true, if_false]; cases o <;> decide
    · have : zv b < zv a := by omega
      simp only [h1, h2, this, if_false]; cases o <;> decide
open Jvm.Op in
theorem if_le {a b : UInt64} (ha : Jvm.Free.Fl.NoNaN64 a) (hb : Jvm.Free.Fl.NoNaN64 b) (o : Jvm.ClassFile.CmpOp) : ifCond.holds .le (cmpValue (Jvm.FP.dcmp a b) o) = decide (zv a ≤ zv b) := by
  rw [cmp_zv ha hb, compare_if]; by_cases h1 : zv a < zv b
  · have : zv a ≤ zv b := by omega
    simp only [h1, this, if_true]; cases o <;> decide
  · by_cases h2 : zv a = zv b
    · simp only [h1, h2, Int.lt_irrefl, Int.le_refl, if_true, if_false]; cases o <;> decide
    · have : ¬ zv a ≤ zv b := by omega
      simp only [h1, h2, this, if_false]; cases o <;> decide
open Jvm.Op in
theorem if_eq {a b : UInt64} (ha : Jvm.Free.Fl.NoNaN64 a) (hb : Jvm.Free.Fl.NoNaN64 b) (o : Jvm.ClassFile.CmpOp) : ifCond.holds .eq (cmpValue (Jvm.FP.dcmp a b) o) = decide (zv a = zv b) := by
  rw [cmp_zv ha hb, compare_if]; by_cases h1 : zv a < zv b
  · have : ¬ zv a = zv b := by omega
    simp only [h1, this, if_true]; cases o <;> decide
  · by_cases h2 : zv a = zv b
    · simp only [h2, Int.lt_irrefl, if_true, if_false]; cases o <;> decide
    · simp only [h1, h2, if_false]; cases o <;> decide
open Jvm.Op in
theorem if_ne {a b : UInt64} (ha : Jvm.Free.Fl.NoNaN64 a) (hb : Jvm.Free.Fl.NoNaN64 b) (o : Jvm.ClassFile.CmpOp) : ifCond.holds .ne (cmpValue (Jvm.FP.dcmp a b) o) = decide (¬ zv a = zv b) := by
  rw [cmp_zv ha hb, compare_if]; by_cases h1 : zv a < zv b
  · have : ¬ zv a = zv b := by omega
    simp only [h1, this, if_true]; cases o <;> decide
  · by_cases h2 : zv a = zv b
    · simp only [h2, Int.lt_irrefl, if_true, if_false]; cases o <;> decide
    · simp only [h1, h2, if_false]; cases o <;> decide
/-! longs and ints compared -/
open Jvm.Op Jvm.RoadKit in
theorem lw (cd : Jvm.ClassFile.Cond) (x y : Int64) : ifCond.holds cd (lcmpW x y) = (match cd with | .lt => decide (x.toInt < y.toInt) | .le => decide (x.toInt ≤ y.toInt) | .gt => decide (y.toInt < x.toInt) | .ge => decide (y.toInt ≤ x.toInt) | .eq => decide (x.toInt = y.toInt) | .ne => decide (¬ x.toInt = y.toInt)) := by
  unfold lcmpW
  simp only [gt_iff_lt, Int64.lt_iff_toInt_lt, ← Int64.toInt_inj]
  by_cases h1 : y.toInt < x.toInt
  · rw [if_pos h1]
    cases cd <;> simp only [h1, show ¬ x.toInt < y.toInt by omega, show ¬ x.toInt ≤ y.toInt by omega, show y.toInt ≤ x.toInt by omega, show ¬ x.toInt = y.toInt by omega] <;> decide
  · rw [if_neg h1]
    by_cases h2 : x.toInt = y.toInt
    · rw [if_pos h2, h2]
      cases cd <;> simp only [Int.lt_irrefl, Int.le_refl] <;> decide
    · rw [if_neg h2]
      cases cd <;> simp only [h1, h2, show x.toInt < y.toInt by omega, show x.toInt ≤ y.toInt by omega, show ¬ y.toInt ≤ x.toInt by omega] <;> decide
theorem i0_iff (x : Int32) : x = 0 ↔ x.toInt = 0 := by rw [← Int32.toInt_inj]; rfl
open Jvm.Op in
theorem iw (cd : Jvm.ClassFile.Cond) (x : Int32) : ifCond.holds cd x = (match cd with | .lt => decide (x.toInt < 0) | .le => decide (x.toInt ≤ 0) | .gt => decide (0 < x.toInt) | .ge => decide (0 ≤ x.toInt) | .eq => decide (x.toInt = 0) | .ne => decide (¬ x.toInt = 0)) := by
  have e0 : (0 : Int32).toInt = 0 := by decide
  cases cd <;> simp only [ifCond.holds, gt_iff_lt, ge_iff_le, Int32.lt_iff_toInt_lt, Int32.le_iff_toInt_le, e0]
  · by_cases h : x = 0
    · subst h; decide
    · have h' : ¬ x.toInt = 0 := fun q => h ((i0_iff x).mpr q)
      simp [h, h']
  · by_cases h : x = 0
    · subst h; decide
    · have h' : ¬ x.toInt = 0 := fun q => h ((i0_iff x).mpr q)
      simp [h, h']
end Jvm.OwnFP
namespace Jvm.OwnFP
open Jvm.FP.Core
/-! a long divided by a power of two -/
def P (k : Nat) : Int := ((2 ^ (1074 - k) : Nat) : Int)
theorem P_pos (k : Nat) : 0 < P k := Int.natCast_pos.mpr (Nat.two_pow_pos _)
theorem P_O {k : Nat} (hk : k ≤ 1074) : ((2 ^ k : Nat) : Int) * P k = O := (pow_O k hk).symm
theorem rep_P {m : Int} (k : Nat) (hm : m.natAbs ≤ 9007199254740992) : Rep (m * P k) := rep_le (1074 - k) hm (by omega)
theorem q_le {x : Int64} {b : UInt64} {k : Nat} (hk : k ≤ 1000) (hF : DFin b) (hb : zv b = ((2 ^ k : Nat) : Int) * O) {m : Int} (hm : m.natAbs ≤ 9007199254740992) (h : x.toInt ≤ m) : zv (Jvm.FP.ddiv (Jvm.FP.l2d x) b) ≤ m * P k := by
  have hO := O_pos
  have h2 : (0 : Int) < ((2 ^ k : Nat) : Int) := Int.natCast_pos.mpr (Nat.two_pow_pos _)
  refine div_le (l2dF x) hF (by rw [hb]; exact Int.mul_pos h2 hO) (rep_P k hm) ?_
  have h1 : zv (Jvm.FP.l2d x) ≤ m * O := l2d_le (rep_int hm) (Int.mul_le_mul_of_nonneg_right h (Int.le_of_lt hO))
  rw [hb, ← Int.mul_assoc]
  refine Int.mul_le_mul_of_nonneg_right ?_ (Int.le_of_lt hO)
  rw [Int.mul_assoc, Int.mul_comm (P k), P_O (by omega)]
  exact h1
theorem q_ge {x : Int64} {b : UInt64} {k : Nat} (hk : k ≤ 1000) (hF : DFin b) (hb : zv b = ((2 ^ k : Nat) : Int) * O) {m : Int} (hm : m.natAbs ≤ 9007199254740992) (h : m ≤ x.toInt) : m * P k ≤ zv (Jvm.FP.ddiv (Jvm.FP.l2d x) b) := by
  have hO := O_pos
  have h2 : (0 : Int) < ((2 ^ k : Nat) : Int) := Int.natCast_pos.mpr (Nat.two_pow_pos _)
  refine div_ge (l2dF x) hF (by rw [hb]; exact Int.mul_pos h2 hO) (rep_P k hm) ?_
  have h1 : m * O ≤ zv (Jvm.FP.l2d x) := l2d_ge (rep_int hm) (Int.mul_le_mul_of_nonneg_right h (Int.le_of_lt hO))
  rw [hb, ← Int.mul_assoc]
  refine Int.mul_le_mul_of_nonneg_right ?_ (Int.le_of_lt hO)
  rw [Int.mul_assoc, Int.mul_comm (P k), P_O (by omega)]
  exact h1
/-- the quotient against a whole number -/
theorem q_cmp {x : Int64} {b : UInt64} {k : Nat} (hk : k ≤ 1000) (hF : DFin b) (hb : zv b = ((2 ^ k : Nat) : Int) * O) {B m : Int} (hm : m = B * ((2 ^ k : Nat) : Int)) (hm1 : m.natAbs < 9007199254740992) :
    (zv (Jvm.FP.ddiv (Jvm.FP.l2d x) b) ≤ B * O ↔ x.toInt ≤ m) ∧ (B * O ≤ zv (Jvm.FP.ddiv (Jvm.FP.l2d x) b) ↔ m ≤ x.toInt) := by
  have e : B * O = m * P k := by rw [hm, Int.mul_assoc, P_O (by omega)]
  have hP := P_pos k
  rw [e]
  refine ⟨⟨fun h => Int.not_lt.mp fun hl => ?_, fun h => q_le hk hF hb (by omega) h⟩, ⟨fun h => Int.not_lt.mp fun hl => ?_, fun h => q_ge hk hF hb (by omega) h⟩⟩
  · have := q_ge hk hF hb (x := x) (m := m + 1) (by omega) (by omega)
    rw [Int.add_mul] at this; omega
  · have := q_le hk hF hb (x := x) (m := m - 1) (by omega) (by omega)
    rw [Int.sub_mul] at this; omega
theorem neg_zv (a : UInt64) : zv (Jvm.FP.dneg a) = -zv a := by
  unfold zv; rw [Jvm.FP.val64_dneg, zval_negate]
theorem nn_neg {a : UInt64} (h : Jvm.Free.Fl.NoNaN64 a) : Jvm.Free.Fl.NoNaN64 (Jvm.FP.dneg a) := by
  refine Jvm.Free.Fl.val64_no.mpr ?_
  rw [Jvm.FP.val64_dneg]; exact negate_ne_nan (nn_ne h)
theorem zv_lit {a : UInt64} (z : Int) (h : zv a = z) : zv a = z := h
theorem zv_d0 : zv Jvm.FP.dconst0 = 0 := by decide +kernel
theorem zv_d1 : zv Jvm.FP.dconst1 = O := by decide +kernel
theorem nn_d0 : Jvm.Free.Fl.NoNaN64 Jvm.FP.dconst0 := by unfold Jvm.Free.Fl.NoNaN64; decide
theorem nn_d1 : Jvm.Free.Fl.NoNaN64 Jvm.FP.dconst1 := by unfold Jvm.Free.Fl.NoNaN64; decide
end Jvm.OwnFP
namespace Jvm.OwnFP
open Jvm.FP.Core
/-! rounding two values keeps their order -/
theorem nat_mono_core {w v P B B' X X' : Nat} (hB : 0 < B) (hB' : 0 < B') (hP : 0 < P) (hvw : v < w) (hXX : X * B' ≤ X' * B) (h1 : v * P * B < X) (h2 : X' < w * P * B')
    (n1 : ((X : Int) - ((w * P : Nat) : Int) * (B : Int)).natAbs ≤ ((X : Int) - ((v * P : Nat) : Int) * (B : Int)).natAbs)
    (n2 : ((X' : Int) - ((v * P : Nat) : Int) * (B' : Int)).natAbs ≤ ((X' : Int) - ((w * P : Nat) : Int) * (B' : Int)).natAbs) : X * B' = X' * B := by
  rw [← Int.natCast_mul, ← Int.natCast_mul] at n1 n2
  have a1 : X < w * P * B := by
    refine Nat.lt_of_not_le fun hle => ?_
    have q1 := Nat.mul_le_mul_right B' hle
    have q2 : w * P * B' * B ≤ X' * B := by rw [Nat.mul_right_comm]; exact Nat.le_trans q1 hXX
    have := Nat.le_of_mul_le_mul_right q2 hB
    omega
  have a2 : v * P * B' < X' := by
    refine Nat.lt_of_not_le fun hle => ?_
    have q1 := Nat.mul_le_mul_right B hle
    have q2 : X * B' ≤ v * P * B * B' := by rw [Nat.mul_right_comm _ B]; exact Nat.le_trans hXX q1
    have := Nat.le_of_mul_le_mul_right q2 hB'
    omega
  have b1 : w * P * B + v * P * B ≤ 2 * X := by omega
  have b2 : 2 * X' ≤ w * P * B' + v * P * B' := by omega
  have c1 := Nat.mul_le_mul_right B' b1
  have c2 := Nat.mul_le_mul_right B b2
  rw [Nat.add_mul, Nat.mul_right_comm _ B B', Nat.mul_right_comm (v * P) B B', Nat.mul_assoc 2] at c1
  rw [Nat.add_mul, Nat.mul_assoc 2] at c2
  omega
theorem ratio_mono {s : Bool} {A B A' B' : Nat} {e e' : Int} (hB : 0 < B) (hB' : 0 < B') (h : A * B' * 2 ^ (e - e').toNat ≤ A' * B * 2 ^ (e' - e).toNat) :
    zmag b64 (roundRatio b64 s A B e) ≤ zmag b64 (roundRatio b64 s A' B' e') := by
  refine Nat.le_of_not_lt fun hvw => ?_
  obtain ⟨e0, h0, he, he', hm⟩ : ∃ e0 : Int, e0 < b64.qmin ∧ e0 ≤ e ∧ e0 ≤ e' ∧ e0 = min (b64.qmin - 1) (min e e') := ⟨min (b64.qmin - 1) (min e e'), by omega, by omega, by omega, rfl⟩
  have hx : inUnits A e e0 * B' = A * B' * 2 ^ (e - e').toNat * 2 ^ (min e e' - e0).toNat := by
    unfold inUnits
    rw [show (e - e0).toNat = (e - e').toNat + (min e e' - e0).toNat by omega, Nat.pow_add, Nat.mul_right_comm, ← Nat.mul_assoc, Nat.mul_right_comm A B']
  have hx' : inUnits A' e' e0 * B = A' * B * 2 ^ (e' - e).toNat * 2 ^ (min e e' - e0).toNat := by
    unfold inUnits
    rw [show (e' - e0).toNat = (e' - e).toNat + (min e e' - e0).toNat by omega, Nat.pow_add, Nat.mul_right_comm, ← Nat.mul_assoc, Nat.mul_right_comm A' B]
  have hXX : inUnits A e e0 * B' ≤ inUnits A' e' e0 * B := by rw [hx, hx']; exact Nat.mul_le_mul_right _ h
  have fW := roundRatio_fits good_b64 s A hB e
  have fV := roundRatio_fits good_b64 s A' hB' e'
  have h1 : zmag b64 (roundRatio b64 s A' B' e') * 2 ^ (b64.qmin - e0).toNat * B < inUnits A e e0 := by
    refine Nat.lt_of_not_le fun hle => ?_
    have := zmag_roundRatio_le good_b64 (s := s) (A := A) hB fV (roundRatio_ne_nan b64 s A' B' e') (Int.le_of_lt h0) he hle
    omega
  have h2 : inUnits A' e' e0 < zmag b64 (roundRatio b64 s A B e) * 2 ^ (b64.qmin - e0).toNat * B' := by
    refine Nat.lt_of_not_le fun hle => ?_
    have := zmag_roundRatio_ge good_b64 (s := s) (A := A') hB' fW (Int.le_of_lt h0) he' hle
    omega
  rcases roundRatio_cases b64 s A' B' e' with ⟨c', q', hV⟩ | hV
  · rcases roundRatio_cases b64 s A B e with ⟨c, q, hW⟩ | hW
    · rw [hV] at fV; rw [hW] at fW
      have n1 := roundRatio_nearest good_b64 hB hW fV.1 fV.2.1 (Int.le_of_lt h0) he
      have n2 := roundRatio_nearest good_b64 hB' hV fW.1 fW.2.1 (Int.le_of_lt h0) he'
      rw [hV] at h1 hvw; rw [hW] at h2 hvw
      unfold distance at n1 n2
      rw [units_fin fW (Int.le_of_lt h0), units_fin fV (Int.le_of_lt h0)] at n1 n2
      have heq := nat_mono_core hB hB' (Nat.two_pow_pos (b64.qmin - e0).toNat) hvw hXX h1 h2 n1 n2
      rw [hx, hx'] at heq
      have heq2 := Nat.eq_of_mul_eq_mul_right (Nat.two_pow_pos _) heq
      have hc := roundRatio_congr (f := b64) (s := s) hB hB' heq2
      rw [hV, hW] at hc
      rw [hc] at hvw
      omega
    · have t1 := (roundRatio_inf good_b64 (s := s) hB h0 he).mp hW
      have t2 : (2 ^ (b64.p + 1) - 1) * 2 ^ (b64.qmax - 1 - e0).toNat * B' ≤ inUnits A' e' e0 := by
        have q1 := Nat.mul_le_mul_right B' t1
        have q2 := Nat.le_trans q1 hXX
        rw [Nat.mul_right_comm _ B B'] at q2
        exact Nat.le_of_mul_le_mul_right q2 hB
      have t3 := (roundRatio_inf good_b64 (s := s) hB' h0 he').mpr t2
      rw [hW, t3] at hvw
      exact Nat.lt_irrefl _ hvw
  · rw [hV] at hvw
    have := zmag_le_top good_b64 fW
    exact Nat.lt_irrefl _ (Nat.lt_of_lt_of_le hvw this)
theorem zval_pos (A B : Nat) (e : Int) : zval b64 (roundRatio b64 false A B e) = (zmag b64 (roundRatio b64 false A B e) : Int) := by
  unfold zval; rw [sgn_roundRatio]; rfl
theorem l2d_ratio {n : Int64} (h : 0 ≤ n.toInt) : zv (Jvm.FP.l2d n) = (zmag b64 (roundRatio b64 false n.toInt.natAbs 1 0) : Int) := by
  show zval b64 (val64 (l2d n)) = _
  rw [val64_l2d]
  show zval b64 (roundRatio b64 (decide (n.toInt < 0)) n.toInt.natAbs 1 0) = _
  rw [show decide (n.toInt < 0) = false from decide_eq_false (by omega), zval_pos]
theorem l2d_mono {n m : Int64} (h : 0 ≤ n.toInt) (hnm : n.toInt ≤ m.toInt) : zv (Jvm.FP.l2d n) ≤ zv (Jvm.FP.l2d m) := by
  rw [l2d_ratio h, l2d_ratio (by omega)]
  refine Int.ofNat_le.mpr (ratio_mono (by decide) (by decide) ?_)
  simp only [Int.sub_self, Int.toNat_zero, Nat.pow_zero, Nat.mul_one]
  omega
theorem l2d_nonneg {n : Int64} (h : 0 ≤ n.toInt) : 0 ≤ zv (Jvm.FP.l2d n) := by rw [l2d_ratio h]; exact Int.natCast_nonneg _
theorem rep_zero : Rep 0 := by have := rep_le (n := 0) 0 (by decide) (by decide); rw [Int.zero_mul] at this; exact this
/-! doubling -/
theorem leading_one {A : Nat} (hA : 0 < A) : leading A 1 = (A.log2 : Int) := by
  unfold leading
  have h1 : (1 : Nat).log2 = 0 := by decide
  have h2 : 2 ^ A.log2 ≤ A := Nat.log2_self_le (by omega)
  simp only [h1]
  rw [show ((A.log2 : Int) - ((0 : Nat) : Int)) = (A.log2 : Int) by omega, Int.toNat_natCast, show (-(A.log2 : Int)).toNat = 0 by omega, Nat.pow_zero, Nat.mul_one, Nat.one_mul, if_pos h2]
theorem dbl_mag {A : Nat} (hA : 0 < A) (hb : A < 2 ^ 64) : zmag b64 (roundRatio b64 false (2 * A) 1 0) = 2 * zmag b64 (roundRatio b64 false A 1 0) := by
  rw [roundRatio_congr (A' := A) (B' := 1) (e' := 1) (e := 0) (by decide) (by decide) (by simp only [Nat.mul_one]; rw [show ((0 : Int) - 1).toNat = 0 by decide, show ((1 : Int) - 0).toNat = 1 by decide]; omega)]
  have hl : A.log2 < 64 := (Nat.log2_lt (by omega)).mpr hb
  have q0 : quantum b64 A 1 0 = (A.log2 : Int) - 52 := by
    unfold quantum; rw [leading_one hA, qmin_b64, show (b64.p : Int) - 1 = 52 by decide]; omega
  have q1 : quantum b64 A 1 1 = (A.log2 : Int) - 52 + 1 := by
    unfold quantum; rw [leading_one hA, qmin_b64, show (b64.p : Int) - 1 = 52 by decide]; omega
  unfold roundRatio
  rw [if_neg (by omega), if_neg (by omega), q0, q1]
  unfold roundAt
  have u1 : unitsNum A 1 ((A.log2 : Int) - 52 + 1) = unitsNum A 0 ((A.log2 : Int) - 52) := by
    unfold unitsNum; rw [show (1 - ((A.log2 : Int) - 52 + 1)).toNat = (0 - ((A.log2 : Int) - 52)).toNat by omega]
  have u2 : unitsDen 1 1 ((A.log2 : Int) - 52 + 1) = unitsDen 1 0 ((A.log2 : Int) - 52) := by
    unfold unitsDen; rw [show ((A.log2 : Int) - 52 + 1 - 1).toNat = ((A.log2 : Int) - 52 - 0).toNat by omega]
  rw [u1, u2]
  generalize nearest (unitsNum A 0 ((A.log2 : Int) - 52)) (unitsDen 1 0 ((A.log2 : Int) - 52)) = N
  have key : ∀ c : Nat, ∀ q : Int, b64.qmin ≤ q → q + 1 ≤ b64.qmax → zmag b64 (bound b64 false c (q + 1)) = 2 * zmag b64 (bound b64 false c q) := by
    intro c q h1 h2
    unfold bound
    rw [if_pos h2, if_pos (by omega)]
    show inUnits c (q + 1) b64.qmin = 2 * inUnits c q b64.qmin
    unfold inUnits
    rw [show (q + 1 - b64.qmin).toNat = (q - b64.qmin).toNat + 1 by omega, Nat.pow_succ, ← Nat.mul_assoc, Nat.mul_comm]
  unfold settle
  split
  · exact key _ _ (by rw [qmin_b64]; omega) (by rw [qmax_b64]; omega)
  · exact key _ _ (by rw [qmin_b64]; omega) (by rw [qmax_b64]; omega)
theorem l2d_dbl {n m : Int64} (hn : 0 < n.toInt) (h : m.toInt = 2 * n.toInt) : zv (Jvm.FP.l2d m) = 2 * zv (Jvm.FP.l2d n) := by
  have b := Int64.toInt_lt n
  rw [l2d_ratio (by omega), l2d_ratio (by omega), h, show (2 * n.toInt).natAbs = 2 * n.toInt.natAbs by omega, dbl_mag (by omega) (by omega)]
  omega
/-- a positive long is at least 1 -/
theorem l2d_pos {n : Int64} (h : 1 ≤ n.toInt) : O ≤ zv (Jvm.FP.l2d n) := by
  have := l2d_ge (n := n) (z := 1 * O) (rep_int (by decide)) (Int.mul_le_mul_of_nonneg_right h (Int.le_of_lt O_pos))
  omega
theorem div_mono2 {a b c c' : UInt64} (ha : DFin a) (hb : DFin b) (hc : DFin c) (hc' : DFin c') (hp : 0 < zv c) (hp' : 0 < zv c') (h0 : 0 ≤ zv a) (h0' : 0 ≤ zv b) (h : zv a * zv c' ≤ zv b * zv c) : zv (Jvm.FP.ddiv a c) ≤ zv (Jvm.FP.ddiv b c') := by
  by_cases hz : zv a = 0
  · have h1 := div_eq (z := 0) ha hc hp rep_zero (by rw [hz]; simp)
    rw [h1]
    exact div_ge hb hc' hp' rep_zero (by rw [Int.zero_mul]; exact Int.mul_nonneg h0' (Int.le_of_lt O_pos))
  · have hzb : zv b ≠ 0 := fun q => by
      rw [q, Int.zero_mul] at h
      have : 0 < zv a * zv c' := Int.mul_pos (by omega) hp'
      omega
    obtain ⟨s, c1, q, d, r, e1, hd, hq, hr, e2, e3⟩ := div_parts ha hc hp
    obtain ⟨s', c2, q', d', r', e1', hd', hq', hr', e2', e3'⟩ := div_parts hb hc' hp'
    obtain ⟨rfl, -⟩ := pos_fin (s := s) (c := c1) (q := q) (by rw [← e2]; omega)
    obtain ⟨rfl, -⟩ := pos_fin (s := s') (c := c2) (q := q') (by rw [← e2']; omega)
    unfold zv
    rw [e1, e1', zval_pos, zval_pos]
    refine Int.ofNat_le.mpr (ratio_mono hd hd' ?_)
    have k3 : (c1 * 2 ^ (q - b64.qmin).toNat) * (d' * 2 ^ (r' - b64.qmin).toNat) ≤ (c2 * 2 ^ (q' - b64.qmin).toNat) * (d * 2 ^ (r - b64.qmin).toNat) := by
      rw [e2, e2', e3, e3'] at h
      simp only [signed, Bool.false_eq_true, if_false] at h
      exact Int.ofNat_le.mp (by simp only [Int.natCast_mul]; exact h)
    obtain ⟨M, x1, x2⟩ : ∃ M : Nat, (q - b64.qmin).toNat + (r' - b64.qmin).toNat = ((q - r) - (q' - r')).toNat + M ∧ (q' - b64.qmin).toNat + (r - b64.qmin).toNat = ((q' - r') - (q - r)).toNat + M :=
      ⟨min ((q - b64.qmin).toNat + (r' - b64.qmin).toNat) ((q' - b64.qmin).toNat + (r - b64.qmin).toNat), by omega, by omega⟩
    rw [Nat.mul_mul_mul_comm, ← Nat.pow_add, Nat.mul_mul_mul_comm c2, ← Nat.pow_add, x1, x2, Nat.pow_add, Nat.pow_add, ← Nat.mul_assoc, ← Nat.mul_assoc] at k3
    exact Nat.le_of_mul_le_mul_right k3 (Nat.two_pow_pos _)
theorem div_mono {a b c : UInt64} (ha : DFin a) (hb : DFin b) (hc : DFin c) (hp : 0 < zv c) (h0 : 0 ≤ zv a) (h : zv a ≤ zv b) : zv (Jvm.FP.ddiv a c) ≤ zv (Jvm.FP.ddiv b c) :=
  div_mono2 ha hb hc hc hp hp h0 (by omega) (Int.mul_le_mul_of_nonneg_right h (Int.le_of_lt hp))
/-- a / n for 0 ≤ a ≤ n, 1 ≤ n -/
theorem frac {a n : Int64} (h0 : 0 ≤ a.toInt) (h : a.toInt ≤ n.toInt) (hn : 1 ≤ n.toInt) : Jvm.Free.Fl.NoNaN64 (Jvm.FP.ddiv (Jvm.FP.l2d a) (Jvm.FP.l2d n)) ∧ DFin (Jvm.FP.ddiv (Jvm.FP.l2d a) (Jvm.FP.l2d n)) ∧ 0 ≤ zv (Jvm.FP.ddiv (Jvm.FP.l2d a) (Jvm.FP.l2d n)) ∧ zv (Jvm.FP.ddiv (Jvm.FP.l2d a) (Jvm.FP.l2d n)) ≤ O := by
  have hO := O_pos
  have hp : 0 < zv (Jvm.FP.l2d n) := by have := l2d_pos hn; omega
  have nn := nn_div (l2dF a) (l2dF n) (Int.ne_of_gt hp)
  have h1 := div_ge (l2dF a) (l2dF n) hp rep_zero (by rw [Int.zero_mul]; exact Int.mul_nonneg (l2d_nonneg h0) (Int.le_of_lt hO))
  have h2 := div_le (z := 1 * O) (l2dF a) (l2dF n) hp (rep_int (by decide)) (by
    rw [Int.one_mul, Int.mul_comm O]; exact Int.mul_le_mul_of_nonneg_right (l2d_mono h0 h) (Int.le_of_lt hO))
  exact ⟨nn, fin_of_zv nn (by omega) (by omega), h1, by omega⟩
theorem frac_zero {a n : Int64} (h0 : a.toInt = 0) (hn : 1 ≤ n.toInt) : zv (Jvm.FP.ddiv (Jvm.FP.l2d a) (Jvm.FP.l2d n)) = 0 := by
  have hp : 0 < zv (Jvm.FP.l2d n) := by have := l2d_pos hn; have := O_pos; omega
  exact div_eq (l2dF a) (l2dF n) hp rep_zero (by rw [l2d_eq (by omega), h0]; simp)
theorem frac_one {a n : Int64} (h : a.toInt = n.toInt) (hn : 1 ≤ n.toInt) : zv (Jvm.FP.ddiv (Jvm.FP.l2d a) (Jvm.FP.l2d n)) = O := by
  have hp : 0 < zv (Jvm.FP.l2d n) := by have := l2d_pos hn; have := O_pos; omega
  have e : a = n := Int64.toInt_inj.mp h
  subst e
  have := div_eq (z := 1 * O) (l2dF a) (l2dF a) hp (rep_int (by decide)) (by rw [Int.one_mul, Int.mul_comm])
  omega
theorem frac_half {a n : Int64} (h : 2 * a.toInt = n.toInt) (hn : 1 ≤ n.toInt) : 2 * zv (Jvm.FP.ddiv (Jvm.FP.l2d a) (Jvm.FP.l2d n)) = O := by
  have hp : 0 < zv (Jvm.FP.l2d n) := by have := l2d_pos hn; have := O_pos; omega
  have hd := l2d_dbl (n := a) (m := n) (by omega) h.symm
  have hP : O = 2 * ((2 ^ 1073 : Nat) : Int) := pow_O 1 (by decide)
  have := div_eq (z := 1 * ((2 ^ 1073 : Nat) : Int)) (l2dF a) (l2dF n) hp (rep_le 1073 (by decide) (by decide)) (by
    rw [hd, hP, Int.one_mul, Int.mul_comm, Int.mul_comm 2 (zv _), ← Int.mul_assoc, Int.mul_assoc 2, Int.mul_comm 2, Int.mul_comm ((2 ^ 1073 : Nat) : Int)])
  rw [this, Int.one_mul, hP]
/-! differences -/
theorem sub_form {a b : UInt64} (ha : DFin a) (hb : DFin b) (h : 0 < zv a - zv b) : ∃ n e, b64.qmin ≤ e ∧ zv (Jvm.FP.dsub a b) = (zmag b64 (roundRatio b64 false n 1 e) : Int) ∧ ((inUnits n e b64.qmin : Nat) : Int) = zv a - zv b := by
  obtain ⟨s, c, q, ea, fa⟩ := fin_of ha
  obtain ⟨t, d, r, eb, fb⟩ := fin_of hb
  have fb' : Jvm.FP.Core.fits b64 (.fin (!t) d r) := fb
  obtain ⟨sg, n, e, h1, h2, h3⟩ := sum_units fa fb'
  have hz : zval b64 (.fin s c q) + zval b64 (.fin (!t) d r) = zv a - zv b := by
    have : zval b64 (.fin (!t) d r) = -zval b64 (.fin t d r) := zval_negate b64 (.fin t d r)
    unfold zv; rw [ea, eb, this]; omega
  rw [hz] at h3
  have hsg : sg = false := by
    cases sg
    · rfl
    · simp only [signed, if_true] at h3; omega
  subst hsg
  refine ⟨n, e, h2, ?_, by simpa [signed] using h3⟩
  show zval b64 (val64 (dsub a b)) = _
  rw [val64_dsub, ea, eb]
  show zval b64 (round b64 (exactSum (.fin s c q) (.fin (!t) d r))) = _
  rw [h1]
  exact zval_pos n 1 e
theorem sub_mono {a b c d : UInt64} (ha : DFin a) (hb : DFin b) (hc : DFin c) (hd : DFin d) (h0 : 0 ≤ zv a - zv b) (h : zv a - zv b ≤ zv c - zv d) : zv (Jvm.FP.dsub a b) ≤ zv (Jvm.FP.dsub c d) := by
  by_cases hz : zv a - zv b = 0
  · have h1 := sub_eq (z := 0) ha hb rep_zero hz
    rw [h1]
    exact sub_ge hc hd rep_zero (by omega)
  · obtain ⟨n, e, q1, q2, q3⟩ := sub_form ha hb (by omega)
    obtain ⟨n', e', r1, r2, r3⟩ := sub_form hc hd (by omega)
    rw [q2, r2]
    refine Int.ofNat_le.mpr (ratio_mono (by decide) (by decide) ?_)
    rw [← q3, ← r3] at h
    have k := Int.ofNat_le.mp h
    unfold inUnits at k
    rw [Nat.mul_one, Nat.mul_one]
    obtain ⟨M, x1, x2⟩ : ∃ M : Nat, (e - b64.qmin).toNat = (e - e').toNat + M ∧ (e' - b64.qmin).toNat = (e' - e).toNat + M := ⟨(min e e' - b64.qmin).toNat, by omega, by omega⟩
    rw [x1, x2, Nat.pow_add, Nat.pow_add, ← Nat.mul_assoc, ← Nat.mul_assoc] at k
    exact Nat.le_of_mul_le_mul_right k (Nat.two_pow_pos _)
end Jvm.OwnFP
namespace Jvm.OwnFP
open Jvm.FP.Core
/-! a quotient is as near as any number of 53 digits -/
theorem natAbs_scale (x : Int) (m : Nat) : (x * ((m : Nat) : Int)).natAbs = x.natAbs * m := by rw [Int.natAbs_mul, Int.natAbs_natCast]
theorem div_near {a b : UInt64} (ha : DFin a) (hb : DFin b) (hp : 0 < zv b) (h0 : 0 < zv a) (hR : DFin (Jvm.FP.ddiv a b)) {n k : Nat} (hn : n < 9007199254740992) :
    (zv a * O - zv (Jvm.FP.ddiv a b) * zv b).natAbs ≤ (zv a * O - ((n * 2 ^ k : Nat) : Int) * zv b).natAbs := by
  obtain ⟨s, c, q, d, r, e1, hd, hq, hr, e2, e3⟩ := div_parts ha hb hp
  obtain ⟨rfl, -⟩ := pos_fin (s := s) (c := c) (q := q) (by rw [← e2]; exact h0)
  obtain ⟨t, c1, q1, e4, f4⟩ := fin_of hR
  have ht : t = false := by
    have := sgn_roundRatio b64 false c d (q - r)
    rw [← e1, e4] at this; exact this
  subst ht
  rw [e4] at e1
  have hd' := roundRatio_nearest good_b64 (c' := n) (q' := (k : Int) - 1074) (e0 := min b64.qmin (q - r)) hd e1.symm (Nat.lt_of_lt_of_le hn (by decide +kernel)) (by rw [qmin_b64]; omega) (by omega) (by omega)
  unfold distance at hd'
  have hz : zv (Jvm.FP.ddiv a b) = ((zmag b64 (.fin false c1 q1) : Nat) : Int) := by
    unfold zv; rw [e4]; rfl
  have u1 : inUnits c1 q1 (min b64.qmin (q - r)) = zmag b64 (.fin false c1 q1) * 2 ^ (b64.qmin - min b64.qmin (q - r)).toNat := units_fin f4 (by omega)
  have u2 : inUnits n ((k : Int) - 1074) (min b64.qmin (q - r)) = n * 2 ^ k * 2 ^ (b64.qmin - min b64.qmin (q - r)).toNat := by
    rw [inUnits_move n (r := b64.qmin) (by omega) (by rw [qmin_b64]; omega)]
    unfold inUnits
    rw [show ((k : Int) - 1074 - b64.qmin).toNat = k by rw [qmin_b64]; omega]
  rw [u1, u2] at hd'
  obtain ⟨x, y, v1, v2⟩ := div_units (s := false) (c := c) (d := d) hq hr
  have key : ∀ z : Int, (((inUnits c (q - r) (min b64.qmin (q - r)) : Nat) : Int) - z * ((2 ^ (b64.qmin - min b64.qmin (q - r)).toNat * d : Nat) : Int)).natAbs * 2 ^ x = (zv a * O - z * zv b).natAbs * 2 ^ y := by
    intro z
    rw [← natAbs_scale, ← natAbs_scale, Int.sub_mul, Int.sub_mul, v2 z, e2, e3]
    have v1' : ((inUnits c (q - r) (min b64.qmin (q - r)) : Nat) : Int) * ((2 ^ x : Nat) : Int) = signed false c * ((2 ^ (q - b64.qmin).toNat : Nat) : Int) * O * ((2 ^ y : Nat) : Int) := v1
    rw [v1']
  have k1 := key ((zmag b64 (.fin false c1 q1) : Nat) : Int)
  have k2 := key ((n * 2 ^ k : Nat) : Int)
  have w1 : ((zmag b64 (.fin false c1 q1) * 2 ^ (b64.qmin - min b64.qmin (q - r)).toNat : Nat) : Int) * (d : Int) = ((zmag b64 (.fin false c1 q1) : Nat) : Int) * ((2 ^ (b64.qmin - min b64.qmin (q - r)).toNat * d : Nat) : Int) := by
    rw [← Int.natCast_mul, ← Int.natCast_mul, Nat.mul_assoc]
  have w2 : ((n * 2 ^ k * 2 ^ (b64.qmin - min b64.qmin (q - r)).toNat : Nat) : Int) * (d : Int) = ((n * 2 ^ k : Nat) : Int) * ((2 ^ (b64.qmin - min b64.qmin (q - r)).toNat * d : Nat) : Int) := by
    rw [← Int.natCast_mul, ← Int.natCast_mul, Nat.mul_assoc (n * 2 ^ k)]
  rw [w1, w2] at hd'
  have hm := Nat.mul_le_mul_right (2 ^ x) hd'
  rw [k1, k2] at hm
  rw [hz]
  exact Nat.le_of_mul_le_mul_right hm (Nat.two_pow_pos y)
end Jvm.OwnFP
namespace Jvm.RoadKit
open Sem ClassFile Op Lib Jvm.Stand Jvm.Free Jvm.LawKit Jvm.FP Jvm.Free.Fl
section NatR
variable {p : Program} {l : Launch} {e : Env} {R : Room} {s : State} {m : MethodId} {args : Array Value} {below : List Frame} {meth : Method} {c : Code} {T : State} {locs : List Loc} {cells slots : Nat} {Z : State} {h : Heap}
/-- a static call from a double to a long that a pure payer answers -/
theorem natR (X : Stand p l e R s m args below meth c T locs cells slots) (hx : p.tables.exec = Jvm.exec) (hZ : Z.Warmed39 s.vm) {a0 : Array Value} {own : String} {index : Nat} {y : MethodName} (hown : s.vm.findClass own = some m.cls)
    (w1 : (Jvm.Cond.methodLink own index y).before a0 Z = true) (w2 : (Jvm.Cond.static y).before a0 Z = true) (w3 : (Jvm.Cond.initialized y.cls).before a0 Z = true) {by0 : ByteArray} {ml : Nat} {rt : Option FieldType} (w4 : (Jvm.Cond.code y by0 ml rt).before a0 Z = true) (hy : y.cls ≠ "java/lang/invoke/MethodHandle" ∧ y.cls ≠ "java/lang/invoke/VarHandle")
    (eT : T.heap = h) {W : Nat} {b : UInt64} {f : UInt64 → Int64} (hK : (Jvm.Cond.code y by0 ml rt).before args s = true → Back l R p e below s args y 3 W (fun A a => A.cells ≤ R.cells ∧ A.slots ≤ R.slots ∧ ∃ g : UInt64, a = #[.double g]) (fun A a v B => pureAt A B ∧ ∀ g : UInt64, a = #[.double g] → v = some (.long (f g))))
    {g : JFrame} (hg : g.method = m) (hsize : g.locals.size = c.maxLocals) {argsL rest : List Value} (hlen : ∀ sig, parseMethodDescriptor y.desc = some sig → argsL.length = sig.parameters.length) (hst : g.stack = argsL.reverse ++ rest) (hW : 2 * g.monitorRoom + (rest.map fun v => v.category).sum ≤ W)
    (hd : decode c.code g.pc = .ok (.invokestatic index, 3)) (hc : cells ≤ R.cells) (hs : slots ≤ R.slots) (ha : argsL = [.double b]) :
    ∃ T', Stand p l e R s m args below meth c T' locs cells slots ∧ T'.heap = h ∧ ∀ target, Steps p.tables e below (T'.setTop { g with pc := g.pc + 3, stack := .long (f b) :: rest }) target → Steps p.tables e below (T.setTop g) target := by
  have c4 : (Jvm.Cond.code y by0 ml rt).before args s = true := mvT hZ w4
  obtain ⟨mk, hnamed⟩ := Cond.code_named c4
  obtain ⟨methM, cM, hmethM, -, -, -, -, -, -, hsigM⟩ := Cond.code_spec hnamed c4
  obtain ⟨v, vm1, ⟨U, L, k, n⟩, hW1, X', ⟨⟨h1, h2, h3, h4⟩, hv⟩, st⟩ := Stand.staticBack (args := args) X hx hown (mvT hZ w1) (mvT hZ w2) (mvT hZ w3) hnamed hmethM hsigM hy (hK c4) hg hsize (Steps.refl _) hlen hst hW hd (fun vm1 _ => ⟨hc, hs, b, by rw [ha]⟩)
  have hv' := hv b (by rw [ha])
  subst hv'
  dsimp only [Pt.U, Pt.locs, Pt.cells, Pt.slots] at h1 h2 h3 h4 X' st
  subst h2 h3 h4
  exact ⟨U, X', h1.trans eT, fun target k => st.trans k⟩
end NatR
end Jvm.RoadKit
namespace Jvm.Pilot.@@N@@
open Jvm Jvm.ClassFile Sem Op Lib Jvm.Free Jvm.Stand Jvm.LawKit Jvm.RoadKit Bundle Jvm.Pilot.@@N@@.Jvm.D
def j5_3_s0 (q0 : Int64) (q1 : Int64) : Int64 := if ifCond.holds .lt (lcmpW q0 q1) = true then q1 else q0
def r4 (w_rounds_a0 : Int32) (w_nanos_a0 : Int64) : Int64 := (Jvm.Free.Hsc.MRound.roundOf (FP.ddiv (FP.dmul (FP.i2d w_rounds_a0) (4741671816366391296 : UInt64)) (FP.l2d (j5_3_s0 w_nanos_a0 (1 : Int64)))))
def v0_7 (p0 : Int32) (q1 : Int64) (p2 : Int32) : Int32 := ((p0 &&& (2147483647 : Int32)) % (4500000 : Int32))
def j0_12_s0 (p0 : Int32) (q1 : Int64) (p2 : Int32) : Int32 := if ifCond.holds .eq (p2 &&& (1 : Int32)) = true then (0 : Int32) else (1 : Int32)
def v0_41 (p0 : Int32) (q1 : Int64) (p2 : Int32) : Int64 := (r4 (v0_7 p0 q1 p2) q1)
def v0_48 (p0 : Int32) (q1 : Int64) (p2 : Int32) : Int64 := (j5_3_s0 q1 (1 : Int64))
def v0_57 (p0 : Int32) (q1 : Int64) (p2 : Int32) : Int64 := (((v0_7 p0 q1 p2).toInt64) * (1000000000 : Int64))
def v0_64 (p0 : Int32) (q1 : Int64) (p2 : Int32) : Int64 := ((v0_57 p0 q1 p2) / (v0_48 p0 q1 p2))
def v0_71 (p0 : Int32) (q1 : Int64) (p2 : Int32) : Int64 := ((v0_57 p0 q1 p2) % (v0_48 p0 q1 p2))
def j0_81_s0 (p0 : Int32) (q1 : Int64) (p2 : Int32) : Int64 := if ifCond.holds .lt (lcmpW (v0_71 p0 q1 p2) ((v0_48 p0 q1 p2) - (v0_71 p0 q1 p2))) = true then (v0_64 p0 q1 p2) else ((v0_64 p0 q1 p2) + (1 : Int64))
def j0_100_s0 (p0 : Int32) (q1 : Int64) (p2 : Int32) : Int32 := if ifCond.holds .ne (lcmpW (v0_41 p0 q1 p2) (j0_81_s0 p0 q1 p2)) = true then (0 : Int32) else (1 : Int32)
section Own
open Jvm.OwnFP Jvm.FP.Core
open Jvm.Free.Hsc.MRound (roundOf bexp shOf sigOf shrOf halfOf)
/-! Math.round of a double from 0 to below 2^52, out of its bits -/
theorem own_toNat {b : UInt64} (h : b.toNat < 9223372036854775808) : b.toInt64.toInt = (b.toNat : Int) ∧ b.toInt64.toBitVec.toNat = b.toNat := by
  refine ⟨?_, rfl⟩
  show b.toBitVec.toInt = _
  rw [BitVec.toInt_eq_toNat_of_lt]
  · rfl
  · show 2 * b.toNat < 2 ^ 64; omega
theorem own_small {x : Int64} (h : x.toBitVec.toNat < 9223372036854775808) : x.toInt = (x.toBitVec.toNat : Int) := by
  show x.toBitVec.toInt = _
  rw [BitVec.toInt_eq_toNat_of_lt]
  omega
theorem own_bexp {b : UInt64} (h : b.toNat < 9223372036854775808) : (bexp b).toInt = ((b.toNat / 4503599627370496 : Nat) : Int) := by
  unfold bexp
  have e1 : (b.toInt64 &&& 9218868437227405312).toBitVec.toNat = b.toNat &&& 9218868437227405312 := by
    show (b.toInt64.toBitVec &&& (9218868437227405312 : Int64).toBitVec).toNat = _
    rw [BitVec.toNat_and]; rfl
  have e2 : b.toNat &&& 9218868437227405312 < 9223372036854775808 := Nat.lt_of_le_of_lt Nat.and_le_left h
  rw [Jvm.Kit.i64_shr _ _ (k := 52) (by decide), own_small (by rw [e1]; exact e2), e1]
  have e3 : (b.toNat &&& 9218868437227405312) / 2 ^ 52 = b.toNat / 2 ^ 52 := by
    rw [← Nat.shiftRight_eq_div_pow, Nat.shiftRight_and_distrib, show 9218868437227405312 >>> 52 = 2 ^ 11 - 1 by decide, Nat.and_two_pow_sub_one_eq_mod, Nat.shiftRight_eq_div_pow]
    omega
  omega
theorem own_sig {b : UInt64} (h : b.toNat < 9223372036854775808) : (sigOf b).toInt = ((4503599627370496 + b.toNat % 4503599627370496 : Nat) : Int) := by
  unfold sigOf
  have e1 : ((b.toInt64 &&& 4503599627370495) ||| 4503599627370496).toBitVec.toNat = (b.toNat &&& 4503599627370495) ||| 4503599627370496 := by
    show ((b.toInt64.toBitVec &&& (4503599627370495 : Int64).toBitVec) ||| (4503599627370496 : Int64).toBitVec).toNat = _
    rw [BitVec.toNat_or, BitVec.toNat_and]; rfl
  have e2 : (b.toNat &&& 4503599627370495) ||| 4503599627370496 = 4503599627370496 + b.toNat % 4503599627370496 := by
    rw [show (4503599627370495 : Nat) = 2 ^ 52 - 1 by decide, Nat.and_two_pow_sub_one_eq_mod, Nat.or_comm, show (4503599627370496 : Nat) = 2 ^ 52 * 1 by decide, ← Nat.two_pow_add_eq_or_of_lt (Nat.mod_lt _ (by decide))]
  have e3 : 4503599627370496 + b.toNat % 4503599627370496 < 9223372036854775808 := by omega
  rw [own_small (by rw [e1, e2]; exact e3), e1, e2]
theorem own_shc : ∀ E : Fin 2048, ((1074 - Int64.ofNat E.1) &&& (-64) = 0) ↔ (1011 ≤ E.1 ∧ E.1 ≤ 1074) := by decide +kernel
theorem own_sha : ∀ i : Fin 64, ((((Int64.ofNat i.1).toInt32.toInt64 &&& 63).toBitVec.smod 64).toNat) = i.1 := by decide +kernel
theorem own_int64 {x : Int64} {n : Nat} (h : x.toInt = (n : Int)) (hn : n < 9223372036854775808) : x = Int64.ofNat n := Int64.toInt_inj.mp (by rw [Int64.toInt_ofNat_of_lt (by omega)]; exact h)
theorem own_sh {b : UInt64} (h : b.toNat < 9223372036854775808) : shOf b = 1074 - Int64.ofNat (b.toNat / 4503599627370496) := by
  unfold shOf; rw [own_int64 (own_bexp h) (by omega)]
/-- units of 2^-1073: halves -/
def own_H : Int := ((2 ^ 1073 : Nat) : Int)
theorem own_HO : O = 2 * own_H := pow_O 1 (by decide)
theorem own_Hpos : 0 < own_H := Int.natCast_pos.mpr (Nat.two_pow_pos _)
theorem own_zv {b : UInt64} (h : b.toNat < 9223372036854775808) (hF : DFin b) : zv b = (Jvm.FP.Core.unitsOf b64 b.toNat : Int) := by
  have hn := hF.ne_nan
  unfold zv zval
  rw [sgn_bits hn, zmag_bits hn, Nat.mod_eq_of_lt (by omega), show decide (2 ^ 63 ≤ b.toNat) = false from decide_eq_false (by omega)]; rfl
theorem own_units {m : Nat} (h : 4503599627370496 ≤ m) : Jvm.FP.Core.unitsOf b64 m = (4503599627370496 + m % 4503599627370496) * 2 ^ (m / 4503599627370496 - 1) := by
  unfold Jvm.FP.Core.unitsOf; rw [tails_b64]; rw [if_neg (by omega)]
theorem own_round {b : UInt64} (h : b.toNat < 9223372036854775808) (hF : DFin b) (hlt : zv b < 4503599627370496 * O) : (roundOf b).toInt = (zv b / own_H + 1) / 2 := by
  have hz := own_zv h hF
  have hE : b.toNat / 4503599627370496 < 2048 := by omega
  have hc := own_shc ⟨b.toNat / 4503599627370496, hE⟩
  unfold roundOf
  rw [own_sh h]
  by_cases hm : 1011 ≤ b.toNat / 4503599627370496 ∧ b.toNat / 4503599627370496 ≤ 1074
  · rw [if_pos (hc.mpr hm), if_neg (by
      rw [Int64.lt_iff_toInt_lt, (own_toNat h).1, show (0 : Int64).toInt = 0 by decide]; omega)]
    unfold halfOf shrOf
    have hs : shOf b = Int64.ofNat (1074 - b.toNat / 4503599627370496) := by
      rw [own_sh h]
      refine Int64.toInt_inj.mp ?_
      rw [Int64.toInt_ofNat_of_lt (by omega), Jvm.Kit.i64_sub] <;> rw [Int64.toInt_ofNat_of_lt (by omega), show (1074 : Int64).toInt = 1074 by decide] <;> omega
    have ha := own_sha ⟨1074 - b.toNat / 4503599627370496, by omega⟩
    have e1 : ((sigOf b) >>> ((shOf b).toInt32.toInt64 &&& 63)).toInt = (sigOf b).toInt / 2 ^ (1074 - b.toNat / 4503599627370496) := by
      rw [hs]; exact Jvm.Kit.i64_shr _ _ ha
    have hsg := own_sig h
    have b1 : 0 ≤ (sigOf b).toInt / 2 ^ (1074 - b.toNat / 4503599627370496) := Int.ediv_nonneg (by omega) (Int.le_of_lt (Int.pow_pos (by decide)))
    have b2 : (sigOf b).toInt / 2 ^ (1074 - b.toNat / 4503599627370496) ≤ (sigOf b).toInt := Int.ediv_le_self _ (by omega)
    have e2 : ((sigOf b) >>> ((shOf b).toInt32.toInt64 &&& 63) + 1).toInt = (sigOf b).toInt / 2 ^ (1074 - b.toNat / 4503599627370496) + 1 := by
      rw [Jvm.Kit.i64_add] <;> rw [e1, show (1 : Int64).toInt = 1 by decide] <;> omega
    rw [Jvm.Kit.i64_shr _ _ (k := 1) (by decide), e2]
    have hu := own_units (m := b.toNat) (by omega)
    have e3 : zv b / own_H = (sigOf b).toInt / 2 ^ (1074 - b.toNat / 4503599627370496) := by
      rw [hz, hu, hsg]
      unfold own_H
      have hp : (2 : Nat) ^ 1073 = 2 ^ (1074 - b.toNat / 4503599627370496) * 2 ^ (b.toNat / 4503599627370496 - 1) := by rw [← Nat.pow_add]; congr 1; omega
      rw [hp]
      have hn : ((4503599627370496 + b.toNat % 4503599627370496) * 2 ^ (b.toNat / 4503599627370496 - 1)) / (2 ^ (1074 - b.toNat / 4503599627370496) * 2 ^ (b.toNat / 4503599627370496 - 1)) = (4503599627370496 + b.toNat % 4503599627370496) / 2 ^ (1074 - b.toNat / 4503599627370496) := Nat.mul_div_mul_right _ _ (Nat.two_pow_pos _)
      rw [← Int.natCast_ediv, hn, Int.natCast_ediv]
      simp
    rw [e3]; rfl
  · rw [if_neg (fun q => hm (hc.mp q))]
    by_cases hl : b.toNat / 4503599627370496 < 1011
    · -- below 2^-12
      have hsm : Jvm.FP.Core.unitsOf b64 b.toNat < 2 ^ 1073 := by
        by_cases ht : b.toNat < 4503599627370496
        · unfold Jvm.FP.Core.unitsOf; rw [tails_b64, if_pos (by omega)]
          exact Nat.lt_of_lt_of_le ht (by decide +kernel)
        · rw [own_units (by omega)]
          have h1 : 4503599627370496 + b.toNat % 4503599627370496 < 2 ^ 53 := by omega
          have h2 : 2 ^ (b.toNat / 4503599627370496 - 1) ≤ 2 ^ 1009 := Nat.pow_le_pow_right (by decide) (by omega)
          calc _ < 2 ^ 53 * 2 ^ (b.toNat / 4503599627370496 - 1) := Nat.mul_lt_mul_of_pos_right h1 (Nat.two_pow_pos _)
            _ ≤ 2 ^ 53 * 2 ^ 1009 := Nat.mul_le_mul_left _ h2
            _ ≤ 2 ^ 1073 := by rw [← Nat.pow_add]; exact Nat.pow_le_pow_right (by decide) (by decide)
      have hn := hF.ne_nan
      have hv : (FP.d2l b).toInt = 0 := by
        show (d2l b).toInt = 0
        rw [d2l_val hn, zmag_bits hn, Nat.mod_eq_of_lt (by omega)]
        have : Jvm.FP.Core.unitsOf b64 b.toNat / one64 = 0 := Nat.div_eq_of_lt (Nat.lt_of_lt_of_le hsm (by unfold one64; exact Nat.pow_le_pow_right (by decide) (by decide)))
        rw [this, signed_zero]; decide
      have hv2 : zv b / own_H = 0 := by
        rw [hz]; unfold own_H
        rw [← Int.natCast_ediv, Nat.div_eq_of_lt hsm]; rfl
      rw [hv, hv2]; decide
    · -- 2^52 and above: not here
      exfalso
      have hu := own_units (m := b.toNat) (by omega)
      have h2 : 2 ^ 1074 ≤ 2 ^ (b.toNat / 4503599627370496 - 1) := Nat.pow_le_pow_right (by decide) (by omega)
      have h3 : 4503599627370496 * 2 ^ 1074 ≤ Jvm.FP.Core.unitsOf b64 b.toNat := by rw [hu]; exact Nat.mul_le_mul (by omega) h2
      have h4 : (4503599627370496 * O : Int) = ((4503599627370496 * 2 ^ 1074 : Nat) : Int) := by rw [Int.natCast_mul]; rfl
      rw [hz, h4] at hlt
      omega
/-! the quotient -/
abbrev own_g : UInt64 := 4741671816366391296
theorem own_gF : DFin own_g := (fin_bits own_g).mpr (by decide +kernel)
theorem own_gZ : zv own_g = 1000000000 * O := by decide +kernel
theorem own_gS : sgn (val64 own_g) = false := by decide +kernel
section V
variable (p0 : Int32) (q1 : Int64) (p2 : Int32)
theorem own_r : 0 ≤ (v0_7 p0 q1 p2).toInt ∧ (v0_7 p0 q1 p2).toInt ≤ 4499999 := by
  have h : (p0 &&& (2147483647 : Int32)).toInt = p0.toInt % 2 ^ 31 := Jvm.Kit.i32_mask p0 2147483647 (k := 31) (by decide) (by decide)
  unfold v0_7
  rw [Jvm.Kit.i32_rem_nonneg (by rw [h]; omega), show (4500000 : Int32).toInt = 4500000 by decide]
  omega
theorem own_n : 1 ≤ (v0_48 p0 q1 p2).toInt := by
  unfold v0_48 j5_3_s0
  rw [lw, show (1 : Int64).toInt = 1 by decide]
  dsimp only
  split
  · decide
  · rename_i h; simp only [decide_eq_true_eq] at h; omega
theorem own_hz63 : (v0_48 p0 q1 p2) ≠ (0 : Int64) := fun h => by
  have := own_n p0 q1 p2; rw [h] at this; exact absurd this (by decide)
theorem own_a : (v0_57 p0 q1 p2).toInt = (v0_7 p0 q1 p2).toInt * 1000000000 := by
  have h := own_r p0 q1 p2
  unfold v0_57
  rw [Jvm.Kit.i64_mul] <;> rw [Int32.toInt_toInt64, show (1000000000 : Int64).toInt = 1000000000 by decide] <;> omega
/-- the product, exact -/
abbrev own_x : UInt64 := FP.dmul (FP.i2d (v0_7 p0 q1 p2)) own_g
theorem own_hn8_38 : Jvm.Free.Fl.NoNaN64 (FP.dmul (FP.i2d (v0_7 p0 q1 p2)) (4741671816366391296 : UInt64)) := nn_mul (i2dF _) own_gF
theorem own_xZ : zv (own_x p0 q1 p2) = (v0_57 p0 q1 p2).toInt * O := by
  have h := own_r p0 q1 p2
  rw [own_a]
  refine mul_eq (i2dF _) own_gF (rep_int (by omega)) ?_
  rw [i2d_eq, own_gZ, mmmc, ← Int.mul_assoc]
theorem own_xF : DFin (own_x p0 q1 p2) := by
  have h := own_r p0 q1 p2
  have hO := O_pos
  have e := own_xZ p0 q1 p2
  have ha := own_a p0 q1 p2
  refine fin_of_zv (own_hn8_38 p0 q1 p2) ?_ ?_ <;> rw [e]
  · rw [← Int.neg_mul]; exact Int.mul_le_mul_of_nonneg_right (by omega) (Int.le_of_lt hO)
  · exact Int.mul_le_mul_of_nonneg_right (by omega) (Int.le_of_lt hO)
theorem own_d : 0 < zv (FP.l2d (v0_48 p0 q1 p2)) := by
  have := l2d_pos (own_n p0 q1 p2); have := O_pos; omega
abbrev own_v : UInt64 := FP.ddiv (own_x p0 q1 p2) (FP.l2d (v0_48 p0 q1 p2))
theorem own_hn18_38 : Jvm.Free.Fl.NoNaN64 (FP.ddiv (FP.dmul (FP.i2d (v0_7 p0 q1 p2)) (4741671816366391296 : UInt64)) (FP.l2d (j5_3_s0 q1 (1 : Int64)))) := nn_div (own_xF p0 q1 p2) (l2dF _) (Int.ne_of_gt (own_d p0 q1 p2))
theorem own_vB : 0 ≤ zv (own_v p0 q1 p2) ∧ zv (own_v p0 q1 p2) ≤ (v0_57 p0 q1 p2).toInt * O := by
  have h := own_r p0 q1 p2; have ha := own_a p0 q1 p2; have hx := own_xZ p0 q1 p2; have hd := own_d p0 q1 p2
  have hO := O_pos
  have hnn : 0 ≤ (v0_57 p0 q1 p2).toInt * O := Int.mul_nonneg (by omega) (Int.le_of_lt hO)
  refine ⟨div_ge (own_xF p0 q1 p2) (l2dF _) hd rep_zero (by rw [Int.zero_mul, hx]; exact Int.mul_nonneg hnn (Int.le_of_lt hO)), div_le (own_xF p0 q1 p2) (l2dF _) hd (rep_int (by omega)) ?_⟩
  rw [hx]
  exact Int.mul_le_mul_of_nonneg_left (l2d_pos (own_n p0 q1 p2)) hnn
theorem own_vF : DFin (own_v p0 q1 p2) := by
  have h := own_vB p0 q1 p2; have hr := own_r p0 q1 p2; have ha := own_a p0 q1 p2; have hO := O_pos
  have u : (v0_57 p0 q1 p2).toInt * O ≤ 18446744073709551616 * O := Int.mul_le_mul_of_nonneg_right (by omega) (Int.le_of_lt hO)
  exact fin_of_zv (own_hn18_38 p0 q1 p2) (by omega) (by omega)
theorem own_sgl (n : Int64) (h : 0 ≤ n.toInt) : ∃ c q, val64 (FP.l2d n) = .fin false c q := by
  obtain ⟨c, q, e⟩ := l2d_shape n
  exact ⟨c, q, by rw [show decide (n.toInt < 0) = false from decide_eq_false (by omega)] at e; exact e⟩
theorem own_vS : (own_v p0 q1 p2).toNat < 9223372036854775808 := by
  have h := own_r p0 q1 p2
  have hv := (own_vF p0 q1 p2).ne_nan
  obtain ⟨c, q, e1⟩ := own_sgl ((v0_7 p0 q1 p2).toInt64) (by rw [Int32.toInt_toInt64]; omega)
  have e1' : val64 (FP.i2d (v0_7 p0 q1 p2)) = .fin false c q := by rw [← e1]; exact congrArg val64 (i2d_l2d _)
  obtain ⟨gc, gq, e2⟩ : ∃ c q, val64 own_g = .fin false c q := by
    obtain ⟨s, c, q, e⟩ := own_gF
    have := own_gS; rw [e] at this
    exact ⟨c, q, by rw [e, show s = false from this]⟩
  obtain ⟨xc, xq, e3⟩ : ∃ c q, val64 (own_x p0 q1 p2) = .fin false c q := by
    obtain ⟨s, c', q', e⟩ := own_xF p0 q1 p2
    have e0 : val64 (own_x p0 q1 p2) = round b64 (exactProduct (val64 (FP.i2d (v0_7 p0 q1 p2))) (val64 own_g)) := val64_dmul _ _
    rw [e1', e2] at e0
    have hs : sgn (val64 (own_x p0 q1 p2)) = false := by rw [e0]; exact sgn_roundRatio b64 false _ 1 _
    rw [e] at hs
    exact ⟨c', q', by rw [e, show s = false from hs]⟩
  obtain ⟨dc, dq, e4⟩ := own_sgl (v0_48 p0 q1 p2) (by have := own_n p0 q1 p2; omega)
  have hd0 : dc ≠ 0 := fun hz => by
    have := own_d p0 q1 p2
    unfold zv at this; rw [e4, hz, zval_fin] at this
    simp [signed] at this
  have e5 : val64 (own_v p0 q1 p2) = quotient b64 (val64 (own_x p0 q1 p2)) (val64 (FP.l2d (v0_48 p0 q1 p2))) := val64_ddiv _ _
  rw [e3, e4] at e5
  have e6 : val64 (own_v p0 q1 p2) = roundRatio b64 false xc dc (xq - dq) := by
    rw [e5]
    show (if dc = 0 then _ else roundRatio b64 (false != false) xc dc (xq - dq)) = _
    rw [if_neg hd0]; rfl
  have hs : sgn (val64 (own_v p0 q1 p2)) = false := by rw [e6]; exact sgn_roundRatio ..
  rw [sgn_bits hv] at hs
  have := of_decide_eq_false hs
  omega
/-- what is wanted: a / n rounded half up -/
theorem own_want : ∃ w : Int, (j0_81_s0 p0 q1 p2).toInt = w ∧ 0 ≤ w ∧ (2 * w - 1) * (v0_48 p0 q1 p2).toInt ≤ 2 * (v0_57 p0 q1 p2).toInt ∧ 2 * (v0_57 p0 q1 p2).toInt + 1 ≤ (2 * w + 1) * (v0_48 p0 q1 p2).toInt := by
  have h := own_r p0 q1 p2; have ha := own_a p0 q1 p2; have hn := own_n p0 q1 p2
  have hq : (v0_64 p0 q1 p2).toInt = (v0_57 p0 q1 p2).toInt / (v0_48 p0 q1 p2).toInt := by
    unfold v0_64
    rw [Jvm.Kit.i64_div (by intro hh; omega), Int.tdiv_eq_ediv_of_nonneg (by omega)]
  have hm : (v0_71 p0 q1 p2).toInt = (v0_57 p0 q1 p2).toInt % (v0_48 p0 q1 p2).toInt := by
    unfold v0_71
    rw [Int64.toInt_mod, Int.tmod_eq_emod_of_nonneg (by omega)]
  have d1 := Int.mul_ediv_add_emod (v0_57 p0 q1 p2).toInt (v0_48 p0 q1 p2).toInt
  have d2 := Int.emod_nonneg (v0_57 p0 q1 p2).toInt (b := (v0_48 p0 q1 p2).toInt) (by omega)
  have d3 := Int.emod_lt_of_pos (v0_57 p0 q1 p2).toInt (b := (v0_48 p0 q1 p2).toInt) (by omega)
  have d4 : 0 ≤ (v0_57 p0 q1 p2).toInt / (v0_48 p0 q1 p2).toInt := Int.ediv_nonneg (by omega) (by omega)
  have d5 : (v0_57 p0 q1 p2).toInt / (v0_48 p0 q1 p2).toInt ≤ (v0_57 p0 q1 p2).toInt := Int.ediv_le_self _ (by omega)
  have bn := Int64.toInt_lt (v0_48 p0 q1 p2)
  rw [← hq] at d1 d4 d5
  rw [← hm] at d1 d2 d3
  have hs : ((v0_48 p0 q1 p2) - (v0_71 p0 q1 p2)).toInt = (v0_48 p0 q1 p2).toInt - (v0_71 p0 q1 p2).toInt := Jvm.Kit.i64_sub (by omega) (by omega)
  unfold j0_81_s0
  rw [lw, hs]
  generalize (v0_48 p0 q1 p2).toInt = n at *
  generalize (v0_57 p0 q1 p2).toInt = a at *
  generalize (v0_71 p0 q1 p2).toInt = r at *
  by_cases hc : r < n - r
  · rw [if_pos (by simpa using hc)]
    refine ⟨_, rfl, d4, ?_, ?_⟩
    · rw [Int.sub_mul, Int.mul_assoc, Int.mul_comm (v0_64 p0 q1 p2).toInt]; omega
    · rw [Int.add_mul, Int.mul_assoc, Int.mul_comm (v0_64 p0 q1 p2).toInt]; omega
  · rw [if_neg (by simpa using hc)]
    have e : (v0_64 p0 q1 p2 + 1).toInt = (v0_64 p0 q1 p2).toInt + 1 := by
      rw [Jvm.Kit.i64_add] <;> rw [show (1 : Int64).toInt = 1 by decide] <;> omega
    refine ⟨_, e, by omega, ?_, ?_⟩
    · rw [Int.sub_mul, Int.mul_assoc, Int.add_mul, Int.mul_comm (v0_64 p0 q1 p2).toInt]; omega
    · rw [Int.add_mul, Int.mul_assoc, Int.add_mul, Int.mul_comm (v0_64 p0 q1 p2).toInt]; omega
end V
theorem own_top {K : Nat} (h1 : 1 ≤ K) (h2 : K < 9007199254740992) : ∃ i : Nat, i ≤ 53 ∧ K * 2 ^ i ≤ 9007199254740992 ∧ 9007199254740992 < K * 2 ^ (i + 1) := by
  have l1 : 2 ^ K.log2 ≤ K := Nat.log2_self_le (by omega)
  have l2 : K < 2 ^ (K.log2 + 1) := Nat.lt_log2_self
  have l3 : K.log2 < 53 := (Nat.log2_lt (by omega)).mpr h2
  by_cases hp : K = 2 ^ K.log2
  · refine ⟨53 - K.log2, by omega, ?_, ?_⟩
    · rw [hp, Nat.log2_two_pow, ← Nat.pow_add, show K.log2 + (53 - K.log2) = 53 by omega]; decide
    · rw [hp, Nat.log2_two_pow, ← Nat.pow_add, show K.log2 + (53 - K.log2 + 1) = 54 by omega]; decide
  · refine ⟨52 - K.log2, by omega, ?_, ?_⟩
    · have : K * 2 ^ (52 - K.log2) ≤ 2 ^ (K.log2 + 1) * 2 ^ (52 - K.log2) := Nat.mul_le_mul_right _ (Nat.le_of_lt l2)
      rw [← Nat.pow_add, show K.log2 + 1 + (52 - K.log2) = 53 by omega] at this
      exact Nat.le_trans this (by decide)
    · have h3 : 2 ^ K.log2 < K := by omega
      have : 2 ^ K.log2 * 2 ^ (52 - K.log2 + 1) < K * 2 ^ (52 - K.log2 + 1) := Nat.mul_lt_mul_of_pos_right h3 (Nat.two_pow_pos _)
      rw [← Nat.pow_add, show K.log2 + (52 - K.log2 + 1) = 53 by omega] at this
      exact Nat.lt_of_le_of_lt (by decide) this
theorem own_acA (a H o : Int) : a * (2 * H) * o = 2 * a * (H * o) := by ac_rfl
theorem own_acB (a T E o : Int) : a * (2 * (T * E)) * o = (2 * a * T) * (E * o) := by ac_rfl
theorem own_acC (K T E n o : Int) : K * (T * E) * (n * o) = (K * n * T) * (E * o) := by ac_rfl
theorem own_acD (x E n o : Int) : x * E * (n * o) = (x * n) * (E * o) := by ac_rfl
theorem own_acE (K d T : Int) : K * (2 * (d * T)) = d * (K * (T * 2)) := by ac_rfl
theorem own_core {a K n T E o : Int} (ho : 0 < o) (hE : 0 < E) (hT : 1 ≤ T) (hK : 1 ≤ K) (hn : 1 ≤ n) (hd : 2 * a + 1 ≤ K * n) (hT2 : 9007199254740993 ≤ K * (T * 2)) (ha : a ≤ 4499999000000000)
    (h : (a * (2 * (T * E)) * o - K * (T * E) * (n * o)).natAbs ≤ (a * (2 * (T * E)) * o - (K * T - 1) * E * (n * o)).natAbs) : False := by
  have C : (K * T - 1) * E * (n * o) = (K * n * T - n) * (E * o) := by
    rw [own_acD, Int.sub_mul (K * T), Int.one_mul, Int.mul_right_comm]
  have d1 : 2 * a * T * (E * o) - K * n * T * (E * o) = (2 * a * T - K * n * T) * (E * o) := (Int.sub_mul ..).symm
  have d2 : 2 * a * T * (E * o) - (K * n * T - n) * (E * o) = (2 * a * T - (K * n * T - n)) * (E * o) := (Int.sub_mul ..).symm
  rw [own_acB, own_acC, C, d1, d2, Int.natAbs_mul (2 * a * T - K * n * T) (E * o), Int.natAbs_mul (2 * a * T - (K * n * T - n)) (E * o)] at h
  have h' := Nat.le_of_mul_le_mul_right h (Int.natAbs_pos.mpr (Int.ne_of_gt (Int.mul_pos hE ho)))
  obtain ⟨δ, hdel⟩ : ∃ δ, δ = K * n - 2 * a := ⟨_, rfl⟩
  have y0 : δ * T = K * n * T - 2 * a * T := by rw [hdel, Int.sub_mul]
  have y1 : 2 * a * T - K * n * T = -(δ * T) := by omega
  have y2 : 2 * a * T - (K * n * T - n) = n - δ * T := by omega
  rw [y1, y2] at h'
  have hy : 1 * 1 ≤ δ * T := Int.mul_le_mul (by omega) hT (by decide) (by omega)
  have h2 : 2 * (δ * T) ≤ n := by omega
  have h3 := Int.mul_le_mul_of_nonneg_left h2 (show 0 ≤ K by omega)
  have h5 := Int.mul_le_mul_of_nonneg_left hT2 (show 0 ≤ δ by omega)
  rw [own_acE] at h3
  have h6 := Int.le_trans h5 h3
  omega
theorem own_repH {k : Int} (h : k.natAbs ≤ 9007199254740992) : Rep (k * own_H) := rep_le (n := k) 1073 h (by decide)
theorem own_H2 : own_H = ((2 ^ 1020 : Nat) : Int) * 9007199254740992 := by decide +kernel
section W
variable (p0 : Int32) (q1 : Int64) (p2 : Int32)
theorem own_lohi {w : Int} (hw : 0 ≤ w) (h1 : (2 * w - 1) * (v0_48 p0 q1 p2).toInt ≤ 2 * (v0_57 p0 q1 p2).toInt) (h2 : 2 * (v0_57 p0 q1 p2).toInt + 1 ≤ (2 * w + 1) * (v0_48 p0 q1 p2).toInt) :
    (2 * w - 1) * own_H ≤ zv (own_v p0 q1 p2) ∧ zv (own_v p0 q1 p2) < (2 * w + 1) * own_H := by
  have hr := own_r p0 q1 p2; have ha := own_a p0 q1 p2; have hn := own_n p0 q1 p2; have hx := own_xZ p0 q1 p2; have hd := own_d p0 q1 p2
  have hB := own_vB p0 q1 p2; have hO := O_pos; have hH := own_Hpos; have eO := own_HO
  have xF := own_xF p0 q1 p2; have vF := own_vF p0 q1 p2
  have a1 : 0 ≤ (v0_57 p0 q1 p2).toInt := by omega
  have a2 : (v0_57 p0 q1 p2).toInt ≤ 4499999000000000 := by omega
  have hHO := Int.mul_pos hH hO
  have A : (v0_57 p0 q1 p2).toInt * O * O = 2 * (v0_57 p0 q1 p2).toInt * (own_H * O) := by
    rw [← own_acA, ← eO]
  by_cases hb : (v0_48 p0 q1 p2).toInt ≤ 9007199254740992
  · have hz := l2d_eq (n := v0_48 p0 q1 p2) (by omega)
    have k1 : 2 * w - 1 ≤ 2 * (v0_57 p0 q1 p2).toInt := by
      by_cases hw1 : w = 0
      · omega
      · have := Int.mul_le_mul_of_nonneg_left hn (show 0 ≤ 2 * w - 1 by omega)
        omega
    refine ⟨?_, ?_⟩
    · refine div_ge xF (l2dF _) hd (own_repH (by omega)) ?_
      rw [hx, hz, mmmc, A]
      exact Int.mul_le_mul_of_nonneg_right h1 (Int.le_of_lt hHO)
    · have up : zv (own_v p0 q1 p2) ≤ (2 * w + 1) * own_H := div_le xF (l2dF _) hd (own_repH (by omega)) (by
        rw [hx, hz, mmmc, A]
        exact Int.mul_le_mul_of_nonneg_right (by omega) (Int.le_of_lt hHO))
      refine Int.lt_iff_le_and_ne.mpr ⟨up, fun he => ?_⟩
      by_cases h0 : (v0_57 p0 q1 p2).toInt = 0
      · have hv := hB.2
        rw [h0, Int.zero_mul] at hv
        have := Int.mul_pos (show 0 < 2 * w + 1 by omega) hH
        rw [he] at hv
        omega
      · obtain ⟨i, i1, i2, i3⟩ := own_top (K := (2 * w + 1).toNat) (by omega) (by omega)
        have hK : (((2 * w + 1).toNat : Nat) : Int) = 2 * w + 1 := Int.toNat_of_nonneg (by omega)
        have hKp : 1 ≤ (2 * w + 1).toNat * 2 ^ i := Nat.mul_pos (by omega) (Nat.two_pow_pos i)
        have near := div_near (n := (2 * w + 1).toNat * 2 ^ i - 1) (k := 1073 - i) xF (l2dF (v0_48 p0 q1 p2)) hd (by rw [hx]; exact Int.mul_pos (by omega) hO) vF (by omega)
        have cN : (((((2 * w + 1).toNat * 2 ^ i - 1) * 2 ^ (1073 - i) : Nat)) : Int) = ((2 * w + 1) * ((2 ^ i : Nat) : Int) - 1) * ((2 ^ (1073 - i) : Nat) : Int) := by
          rw [Int.natCast_mul, Int.natCast_sub hKp, Int.natCast_mul, hK]; rfl
        have hHs : own_H = ((2 ^ i : Nat) : Int) * ((2 ^ (1073 - i) : Nat) : Int) := by
          unfold own_H; rw [← pow_split, show i + (1073 - i) = 1073 by omega]
        have he' : zv (Jvm.FP.ddiv (own_x p0 q1 p2) (FP.l2d (v0_48 p0 q1 p2))) = (2 * w + 1) * own_H := he
        rw [cN, he', hx, hz] at near
        have t1 := Nat.two_pow_pos i
        have t2 := Nat.two_pow_pos (1073 - i)
        refine own_core (a := (v0_57 p0 q1 p2).toInt) (K := 2 * w + 1) (n := (v0_48 p0 q1 p2).toInt) (T := ((2 ^ i : Nat) : Int)) (E := ((2 ^ (1073 - i) : Nat) : Int)) (o := O) hO (Int.natCast_pos.mpr t2) (Int.ofNat_le.mpr t1) (by omega) hn h2 ?_ a2 ?_
        · have h7 : ((9007199254740992 : Nat) : Int) < (((2 * w + 1).toNat * 2 ^ (i + 1) : Nat) : Int) := Int.ofNat_lt.mpr i3
          rw [Int.natCast_mul, hK, pow_split] at h7
          exact Int.add_one_le_of_lt h7
        · rw [← hHs, ← eO]; exact near
  · have hw0 : w = 0 := by
      by_cases h : w = 0
      · exact h
      · have := Int.mul_le_mul_of_nonneg_right (show 1 ≤ 2 * w - 1 by omega) (show 0 ≤ (v0_48 p0 q1 p2).toInt by omega)
        omega
    subst hw0
    have hge : 9007199254740992 * O ≤ zv (FP.l2d (v0_48 p0 q1 p2)) := l2d_ge (rep_int (by decide)) (Int.mul_le_mul_of_nonneg_right (by omega) (Int.le_of_lt hO))
    have e2 := own_H2
    have hg : 0 < ((2 ^ 1020 : Nat) : Int) := Int.natCast_pos.mpr (Nat.two_pow_pos _)
    have up := div_le (z := 9007199254740991 * ((2 ^ 1020 : Nat) : Int)) xF (l2dF _) hd (rep_le 1020 (by decide) (by decide)) (by
      rw [hx, A]
      have u1 : 2 * (v0_57 p0 q1 p2).toInt * (own_H * O) ≤ 9007199254740991 * (own_H * O) := Int.mul_le_mul_of_nonneg_right (by omega) (Int.le_of_lt hHO)
      have u2 : 9007199254740991 * ((2 ^ 1020 : Nat) : Int) * (9007199254740992 * O) ≤ 9007199254740991 * ((2 ^ 1020 : Nat) : Int) * zv (FP.l2d (v0_48 p0 q1 p2)) := Int.mul_le_mul_of_nonneg_left hge (Int.mul_nonneg (by decide) (Int.le_of_lt hg))
      have u3 : 9007199254740991 * ((2 ^ 1020 : Nat) : Int) * (9007199254740992 * O) = 9007199254740991 * (own_H * O) := by
        rw [e2]; generalize ((2 ^ 1020 : Nat) : Int) = g
        rw [Int.mul_assoc, Int.mul_assoc]
      rw [u3] at u2
      exact Int.le_trans u1 u2)
    have up' : zv (own_v p0 q1 p2) ≤ 9007199254740991 * ((2 ^ 1020 : Nat) : Int) := up
    refine ⟨?_, ?_⟩
    · have := hB.1; omega
    · rw [e2]
      generalize ((2 ^ 1020 : Nat) : Int) = g at *
      omega
theorem own_hres108 : j0_100_s0 p0 q1 p2 = 1 := by
  obtain ⟨w, e, w0, h1, h2⟩ := own_want p0 q1 p2
  have hl := own_lohi p0 q1 p2 w0 h1 h2
  have hH := own_Hpos; have hO := O_pos
  have hr := own_round (own_vS p0 q1 p2) (own_vF p0 q1 p2) (by
    have hB := own_vB p0 q1 p2; have h := own_r p0 q1 p2; have ha := own_a p0 q1 p2
    exact Int.lt_of_le_of_lt hB.2 (Int.mul_lt_mul_of_pos_right (by omega) hO))
  have hv : (v0_41 p0 q1 p2).toInt = w := by
    show (roundOf (own_v p0 q1 p2)).toInt = w
    rw [hr]
    have e1 : 2 * w - 1 ≤ zv (own_v p0 q1 p2) / own_H := (Int.le_ediv_iff_mul_le hH).mpr hl.1
    have e2 : zv (own_v p0 q1 p2) / own_H < 2 * w + 1 := Int.ediv_lt_of_lt_mul hH hl.2
    omega
  unfold j0_100_s0
  rw [lw, hv, e]
  simp
end W
end Own
theorem d2_0 : decode jdk_30_method_1_code 0 = .ok (.aload_n 0, 1) := by decide +kernel
theorem d2_1 : decode jdk_30_method_1_code 1 = .ok (.invokespecial 1, 3) := by decide +kernel
theorem d2_4 : decode jdk_30_method_1_code 4 = .ok (.return_, 1) := by decide +kernel
theorem pn_2 : plainName "java/lang/Record" = true := by first | (simp [plainName, overriddenIn]; done) | decide +kernel
theorem pd_0 : parseMethodDescriptor "()V" = some ⟨[], none⟩ := by decide +kernel
theorem pd_1 : parseMethodDescriptor "(JJ)J" = some ⟨[.long, .long], some .long⟩ := by decide +kernel
theorem pd_2 : parseMethodDescriptor "(D)J" = some ⟨[.double], some .long⟩ := by decide +kernel
theorem pd_3 : parseMethodDescriptor "(IJZ)V" = some ⟨[.int, .long, .boolean], none⟩ := by decide +kernel
theorem pd_4 : parseMethodDescriptor "()J" = some ⟨[], some .long⟩ := by decide +kernel
theorem ef_2 (m : MethodId) (a0 : Addr) : entryFrame m #[(.ref a0)] 1 = mkF m 0 #[.val (.ref a0)] [] := by first | (simp [entryFrame, mkF, argsToLocals, Value.category]; done) | rfl
def Q2 (Z : State) (a0 : Addr) (h0 : Heap) (n0 : Nat) (v : Option Value) (h : Heap) (L : List Loc) : Prop := v = none ∧ Fr n0 L ∧ h = h0
set_option maxRecDepth 65536 in
set_option maxHeartbeats 40000000 in
theorem rm2 (l : Launch) (Z : State) (aw : Array Value) (hw : ∀ d ∈ tables_1, d.before aw Z = true) (ws : List Jvm.Cond) (a0 : Addr) (h0 : Heap) (n0 : Nat) (Z0 : n0 ≤ h0.size) :
    MetFree l (⟨"java/lang/Record", "<init>", "()V"⟩ : MethodName) (head1 (Jvm.Cond.code (⟨"java/lang/Record", "<init>", "()V"⟩ : MethodName) jdk_30_method_1_code 1 none :: ws) ({ frames := 1, cells := 0, slots := 0, locals := 12 } : Room)) (fun a U => a = #[(.ref a0)] ∧ Z.Warmed39 U.vm ∧ U.heap = h0) (fun _ _ _ _ _ => True) (fun _ U o U' => ∃ v L, o = .returned v ∧ Q2 Z a0 h0 n0 v U'.heap L ∧ FrameEnd U o U' L ({ frames := 1, cells := 0, slots := 0, locals := 12 } : Room).cells ({ frames := 1, cells := 0, slots := 0, locals := 12 } : Room).slots) := by
  refine MetFree.of_bodySF (plainFor_of_name pn_2) hisR ?_
  intro p e s m args below meth c s₁ Bd hml0 hP hK
  obtain ⟨rfl, hZ, hh⟩ := hP
  have hx := Bd.exec
  have hby := Bd.bytes
  have hml : c.maxLocals = 1 := hml0
  have hown : s.vm.findClass "java/lang/Record" = some m.cls := findClass_of_methodNamed Bd.named
  have hnm := (name_of_methodNamed Bd.named Bd.method).1
  have X0 : Stand p l e ({ frames := 1, cells := 0, slots := 0, locals := 12 } : Room) s m #[(.ref a0)] below meth c s₁ [] 0 0 := Stand.of_body Bd
  have e0 : s₁.heap = h0 := by rw [← hh, Bd.state]; rfl
  have N0 := Fr.nil n0
  have pre0 : ∀ t, Steps p.tables e below (s₁.setTop (mkF m 0 #[.val (.ref a0)] [])) t → Steps p.tables e below (s₁.setTop (entryFrame m #[(.ref a0)] 1)) t := fun t k => castTop (ef_2 m a0) k
  obtain ⟨T1, X1, e1, st1⟩ := initO X0 hx hZ hown (hw _ (List.mem_of_getElem? (i := 13) rfl)) (hw _ (List.mem_of_getElem? (i := 14) rfl)) (hw _ (List.mem_of_getElem? (i := 15) rfl)) e0 (g := (mkF m 1 #[.val (.ref a0)] [(.ref a0)])) rfl (by rw [hml]; rfl) rfl (hb hby d2_1) (by decide) (W := 0) (by show 2 * 0 + _ ≤ _; exact Nat.le_of_eq rfl) (by decide)
  obtain ⟨fs, hr, hrun, hended, hW, hsame⟩ := X1.leave (v := none) (fun _ => rfl)
  refine ⟨_, _, pre0 _ ?_, hrun, hended, _, _, rfl, ?_, ⟨_, rfl⟩, hW, hsame.mono (by decide) (by decide)⟩
  · show Steps p.tables e below (s₁.setTop (mkF m 0 #[.val (.ref a0)] [])) _
    refine XS.aloadN X0.here hx rfl (hb hby d2_0) rfl rfl ?_
    show Steps p.tables e below (s₁.setTop (mkF m 1 #[.val (.ref a0)] [(.ref a0)])) _
    refine st1 _ ?_
    show Steps p.tables e below (T1.setTop (mkF m 4 #[.val (.ref a0)] [])) _
    exact X1.returnOut hx Bd.returns (hb hby d2_4) hr
  · show Q2 Z a0 h0 n0 _ T1.heap _
    rw [e1]
    exact ⟨rfl, N0, rfl⟩
theorem d1_0 : decode prog_13_method_1_code 0 = .ok (.aload_n 0, 1) := by decide +kernel
theorem d1_1 : decode prog_13_method_1_code 1 = .ok (.invokespecial 1, 3) := by decide +kernel
theorem d1_4 : decode prog_13_method_1_code 4 = .ok (.aload_n 0, 1) := by decide +kernel
theorem d1_5 : decode prog_13_method_1_code 5 = .ok (.iload_n 1, 1) := by decide +kernel
theorem d1_6 : decode prog_13_method_1_code 6 = .ok (.putfield 7, 3) := by decide +kernel
theorem d1_9 : decode prog_13_method_1_code 9 = .ok (.aload_n 0, 1) := by decide +kernel
theorem d1_10 : decode prog_13_method_1_code 10 = .ok (.lload_n 2, 1) := by decide +kernel
theorem d1_11 : decode prog_13_method_1_code 11 = .ok (.putfield 13, 3) := by decide +kernel
theorem d1_14 : decode prog_13_method_1_code 14 = .ok (.aload_n 0, 1) := by decide +kernel
theorem d1_15 : decode prog_13_method_1_code 15 = .ok (.iload 4, 2) := by decide +kernel
theorem d1_17 : decode prog_13_method_1_code 17 = .ok (.putfield 17, 3) := by decide +kernel
theorem d1_20 : decode prog_13_method_1_code 20 = .ok (.return_, 1) := by decide +kernel
theorem pn_1 : plainName "com/example/lockstep/lockstep/bench/Measurement$Run" = true := by first | (simp [plainName, overriddenIn]; done) | decide +kernel
theorem ef_1 (m : MethodId) (a0 : Addr) (p1 : Int32) (q2 : Int64) (p3 : Int32) : entryFrame m #[(.ref a0), (.int p1), (.long q2), (.int p3)] 5 = mkF m 0 #[.val (.ref a0), .val (.int p1), .val (.long q2), .second, .val (.int p3)] [] := by first | (simp [entryFrame, mkF, argsToLocals, Value.category]; done) | rfl
def Q1 (Z : State) (a0 : Addr) (p1 : Int32) (q2 : Int64) (p3 : Int32) (u_rounds_a0 : Value) (u_nanos_a0 : Value) (u_checked_a0 : Value) (h0 : Heap) (n0 : Nat) (v : Option Value) (h : Heap) (L : List Loc) : Prop := v = none ∧ Fr n0 L ∧ Keep h0 h [a0] ∧ Exa Z h a0 "com/example/lockstep/lockstep/bench/Measurement$Run" ∧ Fld Z h a0 "com/example/lockstep/lockstep/bench/Measurement$Run" "rounds" "I" (.int p1) ∧ Fld Z h a0 "com/example/lockstep/lockstep/bench/Measurement$Run" "nanos" "J" (.long q2) ∧ Fld Z h a0 "com/example/lockstep/lockstep/bench/Measurement$Run" "checked" "Z" (.int (nar .boolean p3))
set_option maxRecDepth 65536 in
set_option maxHeartbeats 40000000 in
theorem rm1 (l : Launch) (Z : State) (aw : Array Value) (hw : ∀ d ∈ tables_1, d.before aw Z = true) (ws : List Jvm.Cond) (a0 : Addr) (p1 : Int32) (q2 : Int64) (p3 : Int32) (u_rounds_a0 : Value) (u_nanos_a0 : Value) (u_checked_a0 : Value) (h0 : Heap) (n0 : Nat) (Z0 : n0 ≤ h0.size) (F_is_a0 : Exa Z h0 a0 "com/example/lockstep/lockstep/bench/Measurement$Run") (F_rounds_a0 : Fld Z h0 a0 "com/example/lockstep/lockstep/bench/Measurement$Run" "rounds" "I" u_rounds_a0) (F_nanos_a0 : Fld Z h0 a0 "com/example/lockstep/lockstep/bench/Measurement$Run" "nanos" "J" u_nanos_a0) (F_checked_a0 : Fld Z h0 a0 "com/example/lockstep/lockstep/bench/Measurement$Run" "checked" "Z" u_checked_a0) (g_a0 : n0 ≤ a0) :
    MetFree l (⟨"com/example/lockstep/lockstep/bench/Measurement$Run", "<init>", "(IJZ)V"⟩ : MethodName) (head1 (Jvm.Cond.code (⟨"com/example/lockstep/lockstep/bench/Measurement$Run", "<init>", "(IJZ)V"⟩ : MethodName) prog_13_method_1_code 5 none :: ws) ({ frames := 2, cells := 0, slots := 0, locals := 24 } : Room)) (fun a U => a = #[(.ref a0), (.int p1), (.long q2), (.int p3)] ∧ Z.Warmed39 U.vm ∧ U.heap = h0) (fun _ _ _ _ _ => True) (fun _ U o U' => ∃ v L, o = .returned v ∧ Q1 Z a0 p1 q2 p3 u_rounds_a0 u_nanos_a0 u_checked_a0 h0 n0 v U'.heap L ∧ FrameEnd U o U' L ({ frames := 2, cells := 0, slots := 0, locals := 24 } : Room).cells ({ frames := 2, cells := 0, slots := 0, locals := 24 } : Room).slots) := by
  refine MetFree.of_bodySF (plainFor_of_name pn_1) hisR ?_
  intro p e s m args below meth c s₁ Bd hml0 hP hK
  obtain ⟨rfl, hZ, hh⟩ := hP
  have hx := Bd.exec
  have hby := Bd.bytes
  have hml : c.maxLocals = 5 := hml0
  have hown : s.vm.findClass "com/example/lockstep/lockstep/bench/Measurement$Run" = some m.cls := findClass_of_methodNamed Bd.named
  have hnm := (name_of_methodNamed Bd.named Bd.method).1
  have X0 : Stand p l e ({ frames := 2, cells := 0, slots := 0, locals := 24 } : Room) s m #[(.ref a0), (.int p1), (.long q2), (.int p3)] below meth c s₁ [] 0 0 := Stand.of_body Bd
  have e0 : s₁.heap = h0 := by rw [← hh, Bd.state]; rfl
  have N0 := Fr.nil n0
  have pre0 : ∀ t, Steps p.tables e below (s₁.setTop (mkF m 0 #[.val (.ref a0), .val (.int p1), .val (.long q2), .second, .val (.int p3)] [])) t → Steps p.tables e below (s₁.setTop (entryFrame m #[(.ref a0), (.int p1), (.long q2), (.int p3)] 5)) t := fun t k => castTop (ef_1 m a0 p1 q2 p3) k
  obtain ⟨_, _, ⟨T1, L1, k1, n1⟩, -, X1, ⟨Lc1, hQ1, l1, y1, z1'⟩, st1⟩ := X0.specialBack hx (y := (⟨"java/lang/Record", "<init>", "()V"⟩ : MethodName)) rfl hown (mvT hZ (hw _ (List.mem_of_getElem? (i := 8) rfl))) (mvT hZ (hw _ (List.mem_of_getElem? (i := 9) rfl))) (mvT hZ (hw _ (List.mem_of_getElem? (i := 12) rfl))) (by decide) (backOf (W := 0) (rm2 l Z aw hw [] a0 h0 n0 Z0 ) hZ (hw _ (List.mem_of_getElem? (i := 12) rfl)) (hw _ (List.mem_of_getElem? (i := 11) rfl)) (by decide) (by decide)) (g := (mkF m 1 #[.val (.ref a0), .val (.int p1), .val (.long q2), .second, .val (.int p3)] [(.ref a0)])) rfl (by rw [hml]; rfl) (Steps.refl _) (a := a0) (argsL := []) (rest := []) (lenOf pd_0 rfl) rfl (by show 2 * 0 + _ ≤ _; exact Nat.le_of_eq rfl) (hb hby d1_1) (fun _ _ => ⟨rfl, e0, (by decide : 0 + 0 ≤ _), (by decide : 0 + 0 ≤ _)⟩)
  dsimp only [Pt.U, Pt.locs, Pt.cells, Pt.slots] at X1 l1 y1 z1' st1 hQ1
  subst l1 y1 z1'
  obtain ⟨rfl, N1q, hq1⟩ := hQ1
  have f1_0 : Exa Z T1.heap a0 "com/example/lockstep/lockstep/bench/Measurement$Run" := by rw [hq1]; exact F_is_a0
  have f1_1 : Fld Z T1.heap a0 "com/example/lockstep/lockstep/bench/Measurement$Run" "rounds" "I" u_rounds_a0 := by rw [hq1]; exact F_rounds_a0
  have f1_2 : Fld Z T1.heap a0 "com/example/lockstep/lockstep/bench/Measurement$Run" "nanos" "J" u_nanos_a0 := by rw [hq1]; exact F_nanos_a0
  have f1_3 : Fld Z T1.heap a0 "com/example/lockstep/lockstep/bench/Measurement$Run" "checked" "Z" u_checked_a0 := by rw [hq1]; exact F_checked_a0
  have z1 : n0 ≤ T1.heap.size := by rw [hq1]; exact Z0
  have K1 : Keep h0 T1.heap [a0] := by rw [hq1]; exact (Keep.refl h0 [a0])
  have N1 := Fr.app N0 N1q
  obtain ⟨T2, h2, X2, e2, W2, st2⟩ := putF X1 hx hZ hown (host := "") (Or.inl (hw _ (List.mem_of_getElem? (i := 16) rfl))) Via.refl rfl f1_1 f1_0 (Or.inr ⟨(hw _ (List.mem_of_getElem? (i := 17) rfl)), rfl, hnm⟩) (hw _ (List.mem_of_getElem? (i := 3) rfl)) (ty := .int) (by decide) rfl rfl (g := (mkF m 6 #[.val (.ref a0), .val (.int p1), .val (.long q2), .second, .val (.int p3)] [(.int p1), (.ref a0)])) rfl rfl (hb hby d1_6)
  have f2_0 : Exa Z h2 a0 "com/example/lockstep/lockstep/bench/Measurement$Run" := f1_0.wr W2
  have f2_1 : Fld Z h2 a0 "com/example/lockstep/lockstep/bench/Measurement$Run" "rounds" "I" (.int p1) := f1_1.same W2
  have f2_2 : Fld Z h2 a0 "com/example/lockstep/lockstep/bench/Measurement$Run" "nanos" "J" u_nanos_a0 := f1_2.other W2 (Or.inr (slot_ne (Or.inr (hw _ (List.mem_of_getElem? (i := 19) rfl))) (Or.inr (hw _ (List.mem_of_getElem? (i := 17) rfl))) (by decide) (t := .long) (t' := .int) (by decide) (by decide)))
  have f2_3 : Fld Z h2 a0 "com/example/lockstep/lockstep/bench/Measurement$Run" "checked" "Z" u_checked_a0 := f1_3.other W2 (Or.inr (slot_ne (Or.inr (hw _ (List.mem_of_getElem? (i := 21) rfl))) (Or.inr (hw _ (List.mem_of_getElem? (i := 17) rfl))) (by decide) (t := .boolean) (t' := .int) (by decide) (by decide)))
  have K2 : Keep h0 h2 [a0] := K1.wr W2 (Or.inl (List.mem_of_getElem? (i := 0) rfl))
  have N2 := Fr.snoc X2 N1 g_a0
  have z2 : n0 ≤ h2.size := Nat.le_trans z1 (Keep.of_wr W2).1
  obtain ⟨T3, h3, X3, e3, W3, st3⟩ := putF X2 hx hZ hown (host := "") (Or.inl (hw _ (List.mem_of_getElem? (i := 18) rfl))) Via.refl e2 f2_2 f2_0 (Or.inr ⟨(hw _ (List.mem_of_getElem? (i := 19) rfl)), rfl, hnm⟩) (hw _ (List.mem_of_getElem? (i := 3) rfl)) (ty := .long) (by decide) rfl rfl (g := (mkF m 11 #[.val (.ref a0), .val (.int p1), .val (.long q2), .second, .val (.int p3)] [(.long q2), (.ref a0)])) rfl rfl (hb hby d1_11)
  have f3_0 : Exa Z h3 a0 "com/example/lockstep/lockstep/bench/Measurement$Run" := f2_0.wr W3
  have f3_1 : Fld Z h3 a0 "com/example/lockstep/lockstep/bench/Measurement$Run" "rounds" "I" (.int p1) := f2_1.other W3 (Or.inr (slot_ne (Or.inr (hw _ (List.mem_of_getElem? (i := 17) rfl))) (Or.inr (hw _ (List.mem_of_getElem? (i := 19) rfl))) (by decide) (t := .int) (t' := .long) (by decide) (by decide)))
  have f3_2 : Fld Z h3 a0 "com/example/lockstep/lockstep/bench/Measurement$Run" "nanos" "J" (.long q2) := f2_2.same W3
  have f3_3 : Fld Z h3 a0 "com/example/lockstep/lockstep/bench/Measurement$Run" "checked" "Z" u_checked_a0 := f2_3.other W3 (Or.inr (slot_ne (Or.inr (hw _ (List.mem_of_getElem? (i := 21) rfl))) (Or.inr (hw _ (List.mem_of_getElem? (i := 19) rfl))) (by decide) (t := .boolean) (t' := .long) (by decide) (by decide)))
  have K3 : Keep h0 h3 [a0] := K2.wr W3 (Or.inl (List.mem_of_getElem? (i := 0) rfl))
  have N3 := Fr.snoc X3 N2 g_a0
  have z3 : n0 ≤ h3.size := Nat.le_trans z2 (Keep.of_wr W3).1
  obtain ⟨T4, h4, X4, e4, W4, st4⟩ := putFN X3 hx hZ hown (hw _ (List.mem_of_getElem? (i := 20) rfl)) Via.refl e3 f3_3 f3_0 (Or.inr ⟨(hw _ (List.mem_of_getElem? (i := 21) rfl)), rfl, hnm⟩) (hw _ (List.mem_of_getElem? (i := 3) rfl)) (ty := .boolean) (v' := (.int (nar .boolean p3))) (by decide) rfl (fits_nar_bool _) (g := (mkF m 17 #[.val (.ref a0), .val (.int p1), .val (.long q2), .second, .val (.int p3)] [(.int p3), (.ref a0)])) rfl rfl (hb hby d1_17)
  have f4_0 : Exa Z h4 a0 "com/example/lockstep/lockstep/bench/Measurement$Run" := f3_0.wr W4
  have f4_1 : Fld Z h4 a0 "com/example/lockstep/lockstep/bench/Measurement$Run" "rounds" "I" (.int p1) := f3_1.other W4 (Or.inr (slot_ne (Or.inr (hw _ (List.mem_of_getElem? (i := 17) rfl))) (Or.inr (hw _ (List.mem_of_getElem? (i := 21) rfl))) (by decide) (t := .int) (t' := .boolean) (by decide) (by decide)))
  have f4_2 : Fld Z h4 a0 "com/example/lockstep/lockstep/bench/Measurement$Run" "nanos" "J" (.long q2) := f3_2.other W4 (Or.inr (slot_ne (Or.inr (hw _ (List.mem_of_getElem? (i := 19) rfl))) (Or.inr (hw _ (List.mem_of_getElem? (i := 21) rfl))) (by decide) (t := .long) (t' := .boolean) (by decide) (by decide)))
  have f4_3 : Fld Z h4 a0 "com/example/lockstep/lockstep/bench/Measurement$Run" "checked" "Z" (.int (nar .boolean p3)) := f3_3.same W4
  have K4 : Keep h0 h4 [a0] := K3.wr W4 (Or.inl (List.mem_of_getElem? (i := 0) rfl))
  have N4 := Fr.snoc X4 N3 g_a0
  have z4 : n0 ≤ h4.size := Nat.le_trans z3 (Keep.of_wr W4).1
  obtain ⟨fs, hr, hrun, hended, hW, hsame⟩ := X4.leave (v := none) (fun _ => rfl)
  refine ⟨_, _, pre0 _ ?_, hrun, hended, _, _, rfl, ?_, ⟨_, rfl⟩, hW, hsame.mono (by decide) (by decide)⟩
  · show Steps p.tables e below (s₁.setTop (mkF m 0 #[.val (.ref a0), .val (.int p1), .val (.long q2), .second, .val (.int p3)] [])) _
    refine XS.aloadN X0.here hx rfl (hb hby d1_0) rfl rfl ?_
    show Steps p.tables e below (s₁.setTop (mkF m 1 #[.val (.ref a0), .val (.int p1), .val (.long q2), .second, .val (.int p3)] [(.ref a0)])) _
    refine st1.trans ?_
    show Steps p.tables e below (T1.setTop (mkF m 4 #[.val (.ref a0), .val (.int p1), .val (.long q2), .second, .val (.int p3)] [])) _
    refine XS.aloadN X1.here hx rfl (hb hby d1_4) rfl rfl ?_
    show Steps p.tables e below (T1.setTop (mkF m 5 #[.val (.ref a0), .val (.int p1), .val (.long q2), .second, .val (.int p3)] [(.ref a0)])) _
    refine XS.iloadN X1.here hx rfl (hb hby d1_5) rfl ?_
    show Steps p.tables e below (T1.setTop (mkF m 6 #[.val (.ref a0), .val (.int p1), .val (.long q2), .second, .val (.int p3)] [(.int p1), (.ref a0)])) _
    refine st2 _ ?_
    show Steps p.tables e below (T2.setTop (mkF m 9 #[.val (.ref a0), .val (.int p1), .val (.long q2), .second, .val (.int p3)] [])) _
    refine XS.aloadN X2.here hx rfl (hb hby d1_9) rfl rfl ?_
    show Steps p.tables e below (T2.setTop (mkF m 10 #[.val (.ref a0), .val (.int p1), .val (.long q2), .second, .val (.int p3)] [(.ref a0)])) _
    refine XS.lloadN X2.here hx rfl (hb hby d1_10) rfl ?_
    show Steps p.tables e below (T2.setTop (mkF m 11 #[.val (.ref a0), .val (.int p1), .val (.long q2), .second, .val (.int p3)] [(.long q2), (.ref a0)])) _
    refine st3 _ ?_
    show Steps p.tables e below (T3.setTop (mkF m 14 #[.val (.ref a0), .val (.int p1), .val (.long q2), .second, .val (.int p3)] [])) _
    refine XS.aloadN X3.here hx rfl (hb hby d1_14) rfl rfl ?_
    show Steps p.tables e below (T3.setTop (mkF m 15 #[.val (.ref a0), .val (.int p1), .val (.long q2), .second, .val (.int p3)] [(.ref a0)])) _
    refine XS.iload X3.here hx rfl (hb hby d1_15) rfl ?_
    show Steps p.tables e below (T3.setTop (mkF m 17 #[.val (.ref a0), .val (.int p1), .val (.long q2), .second, .val (.int p3)] [(.int p3), (.ref a0)])) _
    refine st4 _ ?_
    show Steps p.tables e below (T4.setTop (mkF m 20 #[.val (.ref a0), .val (.int p1), .val (.long q2), .second, .val (.int p3)] [])) _
    exact X4.returnOut hx Bd.returns (hb hby d1_20) hr
  · show Q1 Z a0 p1 q2 p3 u_rounds_a0 u_nanos_a0 u_checked_a0 h0 n0 _ T4.heap _
    rw [e4]
    exact ⟨rfl, N4, K4, f4_0, f4_1, f4_2, f4_3⟩
theorem d5_0 : decode jdk_29_method_66_code 0 = .ok (.lload_n 0, 1) := by decide +kernel
theorem d5_1 : decode jdk_29_method_66_code 1 = .ok (.lload_n 2, 1) := by decide +kernel
theorem d5_2 : decode jdk_29_method_66_code 2 = .ok (.lcmp, 1) := by decide +kernel
theorem d5_3 : decode jdk_29_method_66_code 3 = .ok (.ifCond .lt 7, 3) := by decide +kernel
theorem d5_6 : decode jdk_29_method_66_code 6 = .ok (.lload_n 0, 1) := by decide +kernel
theorem d5_7 : decode jdk_29_method_66_code 7 = .ok (.goto 4, 3) := by decide +kernel
theorem d5_10 : decode jdk_29_method_66_code 10 = .ok (.lload_n 2, 1) := by decide +kernel
theorem d5_11 : decode jdk_29_method_66_code 11 = .ok (.lreturn, 1) := by decide +kernel
theorem ef_5 (m : MethodId) (q0 : Int64) (q1 : Int64) : entryFrame m #[(.long q0), (.long q1)] 4 = mkF m 0 #[.val (.long q0), .second, .val (.long q1), .second] [] := by first | (simp [entryFrame, mkF, argsToLocals, Value.category]; done) | rfl
def Q5 (Z : State) (q0 : Int64) (q1 : Int64) (h0 : Heap) (n0 : Nat) (v : Option Value) (h : Heap) (L : List Loc) : Prop := v = some (.long (j5_3_s0 q0 q1)) ∧ Fr n0 L ∧ h = h0
set_option maxRecDepth 65536 in
set_option maxHeartbeats 40000000 in
theorem rm5 (l : Launch) (Z : State) (aw : Array Value) (hw : ∀ d ∈ tables_1, d.before aw Z = true) (ws : List Jvm.Cond) (q0 : Int64) (q1 : Int64) (h0 : Heap) (n0 : Nat) (Z0 : n0 ≤ h0.size) :
    MetFree l (⟨"java/lang/Math", "max", "(JJ)J"⟩ : MethodName) (head1 (Jvm.Cond.code (⟨"java/lang/Math", "max", "(JJ)J"⟩ : MethodName) jdk_29_method_66_code 4 (some .long) :: ws) ({ frames := 0, cells := 0, slots := 0, locals := 0 } : Room)) (fun a U => a = #[(.long q0), (.long q1)] ∧ Z.Warmed39 U.vm ∧ U.heap = h0) (fun _ _ _ _ _ => True) (fun _ U o U' => ∃ v L, o = .returned v ∧ Q5 Z q0 q1 h0 n0 v U'.heap L ∧ FrameEnd U o U' L ({ frames := 0, cells := 0, slots := 0, locals := 0 } : Room).cells ({ frames := 0, cells := 0, slots := 0, locals := 0 } : Room).slots) := by
  refine MetFree.of_bodySF (Jvm.Free.JP.mathPlain rfl (by decide +kernel)) hisR ?_
  intro p e s m args below meth c s₁ Bd hml0 hP hK
  obtain ⟨rfl, hZ, hh⟩ := hP
  have hx := Bd.exec
  have hby := Bd.bytes
  have hml : c.maxLocals = 4 := hml0
  have hown : s.vm.findClass "java/lang/Math" = some m.cls := findClass_of_methodNamed Bd.named
  have hnm := (name_of_methodNamed Bd.named Bd.method).1
  have X0 : Stand p l e ({ frames := 0, cells := 0, slots := 0, locals := 0 } : Room) s m #[(.long q0), (.long q1)] below meth c s₁ [] 0 0 := Stand.of_body Bd
  have e0 : s₁.heap = h0 := by rw [← hh, Bd.state]; rfl
  have N0 := Fr.nil n0
  have pre0 : ∀ t, Steps p.tables e below (s₁.setTop (mkF m 0 #[.val (.long q0), .second, .val (.long q1), .second] [])) t → Steps p.tables e below (s₁.setTop (entryFrame m #[(.long q0), (.long q1)] 4)) t := fun t k => castTop (ef_5 m q0 q1) k
  obtain ⟨fs, hr, hrun, hended, hW, hsame⟩ := X0.leave (v := some (.long (j5_3_s0 q0 q1))) (fun h => by rw [Bd.returns] at h; cases h)
  refine ⟨_, _, pre0 _ ?_, hrun, hended, _, _, rfl, ?_, ⟨_, rfl⟩, hW, hsame.mono (by decide) (by decide)⟩
  · show Steps p.tables e below (s₁.setTop (mkF m 0 #[.val (.long q0), .second, .val (.long q1), .second] [])) _
    refine XS.lloadN X0.here hx rfl (hb hby d5_0) rfl ?_
    show Steps p.tables e below (s₁.setTop (mkF m 1 #[.val (.long q0), .second, .val (.long q1), .second] [(.long q0)])) _
    refine XS.lloadN X0.here hx rfl (hb hby d5_1) rfl ?_
    show Steps p.tables e below (s₁.setTop (mkF m 2 #[.val (.long q0), .second, .val (.long q1), .second] [(.long q1), (.long q0)])) _
    refine XS.lcmp X0.here hx rfl (hb hby d5_2) rfl ?_
    show Steps p.tables e below (s₁.setTop (mkF m 3 #[.val (.long q0), .second, .val (.long q1), .second] [(.int (lcmpW q0 q1))])) _
    suffices kt3 : Steps p.tables e below (s₁.setTop (mkF m 11 #[.val (.long q0), .second, .val (.long q1), .second] [(.long (j5_3_s0 q0 q1))])) (s₁.setFrames fs) by
      by_cases hc3 : ifCond.holds .lt (lcmpW q0 q1) = true
      · rw [show (j5_3_s0 q0 q1) = q1 from if_pos hc3] at kt3
        refine XS.ifYes X0.here hx rfl (pc0 := 3) (pc' := 10) rfl (hb hby d5_3) rfl hc3 (by decide) (by decide) ?_
        show Steps p.tables e below (s₁.setTop (mkF m 10 #[.val (.long q0), .second, .val (.long q1), .second] [])) _
        refine XS.lloadN X0.here hx rfl (hb hby d5_10) rfl ?_
        exact kt3
      · rw [show (j5_3_s0 q0 q1) = q0 from if_neg hc3] at kt3
        refine XS.ifNo X0.here hx rfl (hb hby d5_3) rfl (eq_false_of_ne_true hc3) ?_
        show Steps p.tables e below (s₁.setTop (mkF m 6 #[.val (.long q0), .second, .val (.long q1), .second] [])) _
        refine XS.lloadN X0.here hx rfl (hb hby d5_6) rfl ?_
        show Steps p.tables e below (s₁.setTop (mkF m 7 #[.val (.long q0), .second, .val (.long q1), .second] [(.long q0)])) _
        refine XS.goto X0.here hx rfl (pc0 := 7) (pc' := 11) rfl (hb hby d5_7) (by decide) (by decide) ?_
        exact kt3
    show Steps p.tables e below (s₁.setTop (mkF m 11 #[.val (.long q0), .second, .val (.long q1), .second] [(.long (j5_3_s0 q0 q1))])) _
    exact X0.lreturnOut hx Bd.returns (hb hby d5_11) hr
  · show Q5 Z q0 q1 h0 n0 _ s₁.heap _
    rw [e0]
    exact ⟨rfl, N0, rfl⟩
theorem d4_0 : decode prog_13_method_2_code 0 = .ok (.aload_n 0, 1) := by decide +kernel
theorem d4_1 : decode prog_13_method_2_code 1 = .ok (.getfield 7, 3) := by decide +kernel
theorem d4_4 : decode prog_13_method_2_code 4 = .ok (.i2d, 1) := by decide +kernel
theorem d4_5 : decode prog_13_method_2_code 5 = .ok (.ldc2_w 21, 3) := by decide +kernel
theorem d4_8 : decode prog_13_method_2_code 8 = .ok (.dmul, 1) := by decide +kernel
theorem d4_9 : decode prog_13_method_2_code 9 = .ok (.aload_n 0, 1) := by decide +kernel
theorem d4_10 : decode prog_13_method_2_code 10 = .ok (.getfield 13, 3) := by decide +kernel
theorem d4_13 : decode prog_13_method_2_code 13 = .ok (.lconst 1, 1) := by decide +kernel
theorem d4_14 : decode prog_13_method_2_code 14 = .ok (.invokestatic 23, 3) := by decide +kernel
theorem d4_17 : decode prog_13_method_2_code 17 = .ok (.l2d, 1) := by decide +kernel
theorem d4_18 : decode prog_13_method_2_code 18 = .ok (.ddiv, 1) := by decide +kernel
theorem d4_19 : decode prog_13_method_2_code 19 = .ok (.invokestatic 29, 3) := by decide +kernel
theorem d4_22 : decode prog_13_method_2_code 22 = .ok (.lreturn, 1) := by decide +kernel
theorem ef_4 (m : MethodId) (a0 : Addr) : entryFrame m #[(.ref a0)] 1 = mkF m 0 #[.val (.ref a0)] [] := by first | (simp [entryFrame, mkF, argsToLocals, Value.category]; done) | rfl
def Q4 (Z : State) (a0 : Addr) (w_rounds_a0 : Int32) (w_nanos_a0 : Int64) (h0 : Heap) (n0 : Nat) (v : Option Value) (h : Heap) (L : List Loc) : Prop := v = some (.long (r4 w_rounds_a0 w_nanos_a0)) ∧ Fr n0 L ∧ h = h0
set_option maxRecDepth 65536 in
set_option maxHeartbeats 40000000 in
theorem rm4 (l : Launch) (Z : State) (aw : Array Value) (hw : ∀ d ∈ tables_1, d.before aw Z = true) (ws : List Jvm.Cond) (a0 : Addr) (w_rounds_a0 : Int32) (w_nanos_a0 : Int64) (h0 : Heap) (n0 : Nat) (Z0 : n0 ≤ h0.size) (F_rounds_a0 : Fld Z h0 a0 "com/example/lockstep/lockstep/bench/Measurement$Run" "rounds" "I" (.int w_rounds_a0)) (hn8 : Jvm.Free.Fl.NoNaN64 (FP.dmul (FP.i2d w_rounds_a0) (4741671816366391296 : UInt64))) (F_nanos_a0 : Fld Z h0 a0 "com/example/lockstep/lockstep/bench/Measurement$Run" "nanos" "J" (.long w_nanos_a0)) (hn18 : Jvm.Free.Fl.NoNaN64 (FP.ddiv (FP.dmul (FP.i2d w_rounds_a0) (4741671816366391296 : UInt64)) (FP.l2d (j5_3_s0 w_nanos_a0 (1 : Int64))))) :
    MetFree l (⟨"com/example/lockstep/lockstep/bench/Measurement$Run", "phasesPerSecond", "()J"⟩ : MethodName) (head1 (Jvm.Cond.code (⟨"com/example/lockstep/lockstep/bench/Measurement$Run", "phasesPerSecond", "()J"⟩ : MethodName) prog_13_method_2_code 1 (some .long) :: ws) ({ frames := 2, cells := 0, slots := 0, locals := 61 } : Room)) (fun a U => a = #[(.ref a0)] ∧ Z.Warmed39 U.vm ∧ U.heap = h0) (fun _ _ _ _ _ => True) (fun _ U o U' => ∃ v L, o = .returned v ∧ Q4 Z a0 w_rounds_a0 w_nanos_a0 h0 n0 v U'.heap L ∧ FrameEnd U o U' L ({ frames := 2, cells := 0, slots := 0, locals := 61 } : Room).cells ({ frames := 2, cells := 0, slots := 0, locals := 61 } : Room).slots) := by
  refine MetFree.of_bodySF (plainFor_of_name pn_1) hisR ?_
  intro p e s m args below meth c s₁ Bd hml0 hP hK
  obtain ⟨rfl, hZ, hh⟩ := hP
  have hx := Bd.exec
  have hby := Bd.bytes
  have hml : c.maxLocals = 1 := hml0
  have hown : s.vm.findClass "com/example/lockstep/lockstep/bench/Measurement$Run" = some m.cls := findClass_of_methodNamed Bd.named
  have hnm := (name_of_methodNamed Bd.named Bd.method).1
  have X0 : Stand p l e ({ frames := 2, cells := 0, slots := 0, locals := 61 } : Room) s m #[(.ref a0)] below meth c s₁ [] 0 0 := Stand.of_body Bd
  have e0 : s₁.heap = h0 := by rw [← hh, Bd.state]; rfl
  have N0 := Fr.nil n0
  have pre0 : ∀ t, Steps p.tables e below (s₁.setTop (mkF m 0 #[.val (.ref a0)] [])) t → Steps p.tables e below (s₁.setTop (entryFrame m #[(.ref a0)] 1)) t := fun t k => castTop (ef_4 m a0) k
  obtain ⟨T1, X1, e1, st1⟩ := getF X0 hx hZ hown (host := "") (Or.inl (hw _ (List.mem_of_getElem? (i := 16) rfl))) Via.refl e0 F_rounds_a0 (g := (mkF m 1 #[.val (.ref a0)] [(.ref a0)])) rfl rfl (hb hby d4_1)
  obtain ⟨T2, X2, e2, st2⟩ := getF X1 hx hZ hown (host := "") (Or.inl (hw _ (List.mem_of_getElem? (i := 18) rfl))) Via.refl e1 F_nanos_a0 (g := (mkF m 10 #[.val (.ref a0)] [(.ref a0), (.double (FP.dmul (FP.i2d w_rounds_a0) (4741671816366391296 : UInt64)))])) rfl rfl (hb hby d4_10)
  obtain ⟨_, _, ⟨T3, L3, k3, n3⟩, -, X3, ⟨Lc3, hQ3, l3, y3, z3'⟩, st3⟩ := Jvm.LawKit.callS X2 hx (y := (⟨"java/lang/Math", "max", "(JJ)J"⟩ : MethodName)) hown (mvT hZ (hw _ (List.mem_of_getElem? (i := 28) rfl))) (mvT hZ (hw _ (List.mem_of_getElem? (i := 29) rfl))) (mvT hZ (hw _ (List.mem_of_getElem? (i := 30) rfl))) (mvT hZ (hw _ (List.mem_of_getElem? (i := 31) rfl))) (by decide) (backOf (W := 2) (rm5 l Z aw hw [] w_nanos_a0 (1 : Int64) h0 n0 Z0 ) hZ (hw _ (List.mem_of_getElem? (i := 31) rfl)) (hw _ (List.mem_of_getElem? (i := 30) rfl)) (by decide) (by decide)) (g := (mkF m 14 #[.val (.ref a0)] [(.long (1 : Int64)), (.long w_nanos_a0), (.double (FP.dmul (FP.i2d w_rounds_a0) (4741671816366391296 : UInt64)))])) rfl (by rw [hml]; rfl) (argsL := [(.long w_nanos_a0), (.long (1 : Int64))]) (rest := [(.double (FP.dmul (FP.i2d w_rounds_a0) (4741671816366391296 : UInt64)))]) (lenOf pd_1 rfl) rfl (by show 2 * 0 + _ ≤ _; exact Nat.le_of_eq rfl) (hb hby d4_14) (fun _ _ => ⟨rfl, e2, (by decide : 0 + 0 ≤ _), (by decide : 0 + 0 ≤ _)⟩)
  dsimp only [Pt.U, Pt.locs, Pt.cells, Pt.slots] at X3 l3 y3 z3' st3 hQ3
  subst l3 y3 z3'
  obtain ⟨rfl, N3q, hq3⟩ := hQ3
  have f3_0 : Fld Z T3.heap a0 "com/example/lockstep/lockstep/bench/Measurement$Run" "rounds" "I" (.int w_rounds_a0) := by rw [hq3]; exact F_rounds_a0
  have f3_1 : Fld Z T3.heap a0 "com/example/lockstep/lockstep/bench/Measurement$Run" "nanos" "J" (.long w_nanos_a0) := by rw [hq3]; exact F_nanos_a0
  have z3 : n0 ≤ T3.heap.size := by rw [hq3]; exact Z0
  have K3 : Keep h0 T3.heap [a0] := by rw [hq3]; exact (Keep.refl h0 [a0])
  have N3 := Fr.app N0 N3q
  obtain ⟨T4, X4, e4, st4⟩ := natR X3 hx hZ hown (hw _ (List.mem_of_getElem? (i := 32) rfl)) (hw _ (List.mem_of_getElem? (i := 33) rfl)) (hw _ (List.mem_of_getElem? (i := 30) rfl)) (hw _ (List.mem_of_getElem? (i := 34) rfl)) (by decide) rfl (W := 0) (b := (FP.ddiv (FP.dmul (FP.i2d w_rounds_a0) (4741671816366391296 : UInt64)) (FP.l2d (j5_3_s0 w_nanos_a0 (1 : Int64))))) (fun hcw => Jvm.Free.Hsc.MRound.pays (W := 0) (by decide) (by decide) (by simp only [Jvm.Free.Hsc.MRound.tab, Cond.before_and, Bool.and_eq_true]; exact ⟨hcw, mvT hZ (hw _ (List.mem_of_getElem? (i := 35) rfl)), mvT hZ (hw _ (List.mem_of_getElem? (i := 38) rfl)), mvT hZ (hw _ (List.mem_of_getElem? (i := 36) rfl)), mvT hZ (hw _ (List.mem_of_getElem? (i := 37) rfl)), mvT hZ (hw _ (List.mem_of_getElem? (i := 39) rfl)), mvT hZ (hw _ (List.mem_of_getElem? (i := 40) rfl)), mvT hZ (hw _ (List.mem_of_getElem? (i := 41) rfl)), mvT hZ (hw _ (List.mem_of_getElem? (i := 44) rfl)), mvT hZ (hw _ (List.mem_of_getElem? (i := 45) rfl))⟩) (mvT hZ (hw _ (List.mem_of_getElem? (i := 30) rfl)))) (g := (mkF m 19 #[.val (.ref a0)] [(.double (FP.ddiv (FP.dmul (FP.i2d w_rounds_a0) (4741671816366391296 : UInt64)) (FP.l2d (j5_3_s0 w_nanos_a0 (1 : Int64)))))])) rfl (by rw [hml]; rfl) (argsL := [(.double (FP.ddiv (FP.dmul (FP.i2d w_rounds_a0) (4741671816366391296 : UInt64)) (FP.l2d (j5_3_s0 w_nanos_a0 (1 : Int64)))))]) (rest := []) (lenOf pd_2 rfl) rfl (by show 2 * 0 + _ ≤ _; exact Nat.le_of_eq rfl) (hb hby d4_19) (by decide : 0 ≤ _) (by decide : 0 ≤ _) rfl
  obtain ⟨fs, hr, hrun, hended, hW, hsame⟩ := X4.leave (v := some (.long (r4 w_rounds_a0 w_nanos_a0))) (fun h => by rw [Bd.returns] at h; cases h)
  refine ⟨_, _, pre0 _ ?_, hrun, hended, _, _, rfl, ?_, ⟨_, rfl⟩, hW, hsame.mono (by decide) (by decide)⟩
  · show Steps p.tables e below (s₁.setTop (mkF m 0 #[.val (.ref a0)] [])) _
    refine XS.aloadN X0.here hx rfl (hb hby d4_0) rfl rfl ?_
    show Steps p.tables e below (s₁.setTop (mkF m 1 #[.val (.ref a0)] [(.ref a0)])) _
    refine st1 _ ?_
    show Steps p.tables e below (T1.setTop (mkF m 4 #[.val (.ref a0)] [(.int w_rounds_a0)])) _
    refine XS.i2dS X1.here hx rfl (hb hby d4_4) rfl rfl ?_
    show Steps p.tables e below (T1.setTop (mkF m 5 #[.val (.ref a0)] [(.double (FP.i2d w_rounds_a0))])) _
    refine X1.ldc2DoubleC hx hown (mvT hZ (hw _ (List.mem_of_getElem? (i := 27) rfl))) (g := (mkF m 5 #[.val (.ref a0)] [(.double (FP.i2d w_rounds_a0))])) rfl (hb hby d4_5) _ ?_
    show Steps p.tables e below (T1.setTop (mkF m 8 #[.val (.ref a0)] [(.double (4741671816366391296 : UInt64)), (.double (FP.i2d w_rounds_a0))])) _
    refine XS.dmulS X1.here hx rfl (hb hby d4_8) rfl hn8 rfl ?_
    show Steps p.tables e below (T1.setTop (mkF m 9 #[.val (.ref a0)] [(.double (FP.dmul (FP.i2d w_rounds_a0) (4741671816366391296 : UInt64)))])) _
    refine XS.aloadN X1.here hx rfl (hb hby d4_9) rfl rfl ?_
    show Steps p.tables e below (T1.setTop (mkF m 10 #[.val (.ref a0)] [(.ref a0), (.double (FP.dmul (FP.i2d w_rounds_a0) (4741671816366391296 : UInt64)))])) _
    refine st2 _ ?_
    show Steps p.tables e below (T2.setTop (mkF m 13 #[.val (.ref a0)] [(.long w_nanos_a0), (.double (FP.dmul (FP.i2d w_rounds_a0) (4741671816366391296 : UInt64)))])) _
    refine XS.lconst X2.here hx rfl (hb hby d4_13) ?_
    show Steps p.tables e below (T2.setTop (mkF m 14 #[.val (.ref a0)] [(.long (1 : Int64)), (.long w_nanos_a0), (.double (FP.dmul (FP.i2d w_rounds_a0) (4741671816366391296 : UInt64)))])) _
    refine st3 _ ?_
    show Steps p.tables e below (T3.setTop (mkF m 17 #[.val (.ref a0)] [(.long (j5_3_s0 w_nanos_a0 (1 : Int64))), (.double (FP.dmul (FP.i2d w_rounds_a0) (4741671816366391296 : UInt64)))])) _
    refine XS.l2dS X3.here hx rfl (hb hby d4_17) rfl rfl ?_
    show Steps p.tables e below (T3.setTop (mkF m 18 #[.val (.ref a0)] [(.double (FP.l2d (j5_3_s0 w_nanos_a0 (1 : Int64)))), (.double (FP.dmul (FP.i2d w_rounds_a0) (4741671816366391296 : UInt64)))])) _
    refine XS.ddivS X3.here hx rfl (hb hby d4_18) rfl hn18 rfl ?_
    show Steps p.tables e below (T3.setTop (mkF m 19 #[.val (.ref a0)] [(.double (FP.ddiv (FP.dmul (FP.i2d w_rounds_a0) (4741671816366391296 : UInt64)) (FP.l2d (j5_3_s0 w_nanos_a0 (1 : Int64)))))])) _
    refine st4 _ ?_
    show Steps p.tables e below (T4.setTop (mkF m 22 #[.val (.ref a0)] [(.long (Jvm.Free.Hsc.MRound.roundOf (FP.ddiv (FP.dmul (FP.i2d w_rounds_a0) (4741671816366391296 : UInt64)) (FP.l2d (j5_3_s0 w_nanos_a0 (1 : Int64))))))])) _
    exact X4.lreturnOut hx Bd.returns (hb hby d4_22) hr
  · show Q4 Z a0 w_rounds_a0 w_nanos_a0 h0 n0 _ T4.heap _
    rw [e4]
    exact ⟨rfl, N3, hq3⟩
theorem pn_0 : plainName "com/example/lockstep/lockstep/bench/RunPhasesPerSecondPinLaw" = true := by first | (simp [plainName, overriddenIn]; done) | decide +kernel
theorem ef_0 (m : MethodId) (p0 : Int32) (q1 : Int64) (p2 : Int32) : entryFrame m #[(.int p0), (.long q1), (.int p2)] maxLocals = mkF m 0 #[.val (.int p0), .val (.long q1), .second, .val (.int p2), .unset, .unset, .unset, .unset, .unset, .unset, .unset, .unset, .unset, .unset, .unset, .unset, .unset, .unset, .unset] [] := by first | (simp [entryFrame, mkF, argsToLocals, Value.category, maxLocals]; done) | rfl
def Q0 (Z : State) (p0 : Int32) (q1 : Int64) (p2 : Int32) (h0 : Heap) (n0 : Nat) (v : Option Value) (h : Heap) (L : List Loc) : Prop := v = some (.int (1 : Int32)) ∧ Fr n0 L
set_option maxRecDepth 65536 in
set_option maxHeartbeats 40000000 in
theorem rm0 (l : Launch) (Z : State) (aw : Array Value) (hw : ∀ d ∈ tables_1, d.before aw Z = true) (ws : List Jvm.Cond) (p0 : Int32) (q1 : Int64) (p2 : Int32) (h0 : Heap) (n0 : Nat) (Z0 : n0 ≤ h0.size) (hn8_38 : Jvm.Free.Fl.NoNaN64 (FP.dmul (FP.i2d (v0_7 p0 q1 p2)) (4741671816366391296 : UInt64))) (hn18_38 : Jvm.Free.Fl.NoNaN64 (FP.ddiv (FP.dmul (FP.i2d (v0_7 p0 q1 p2)) (4741671816366391296 : UInt64)) (FP.l2d (j5_3_s0 q1 (1 : Int64))))) (hz63 : (v0_48 p0 q1 p2) ≠ (0 : Int64)) (hres108 : (j0_100_s0 p0 q1 p2) = (1 : Int32)) :
    MetFree l x (head1 (Jvm.Cond.code x code maxLocals ret :: ws) room_1) (fun a U => a = #[(.int p0), (.long q1), (.int p2)] ∧ Z.Warmed39 U.vm ∧ U.heap = h0) (fun _ _ _ _ _ => True) (fun _ U o U' => ∃ v L, o = .returned v ∧ Q0 Z p0 q1 p2 h0 n0 v U'.heap L ∧ FrameEnd U o U' L 1 3) := by
  refine MetFree.of_bodySF (plainFor_of_name pn_0) hisR ?_
  intro p e s m args below meth c s₁ Bd hml0 hP hK
  obtain ⟨rfl, hZ, hh⟩ := hP
  have hx := Bd.exec
  have hby := Bd.bytes
  have hml : c.maxLocals = 19 := hml0
  have hown : s.vm.findClass "com/example/lockstep/lockstep/bench/RunPhasesPerSecondPinLaw" = some m.cls := findClass_of_methodNamed Bd.named
  have hnm := (name_of_methodNamed Bd.named Bd.method).1
  have X0 : Stand p l e room_1 s m #[(.int p0), (.long q1), (.int p2)] below meth c s₁ [] 0 0 := Stand.of_body Bd
  have e0 : s₁.heap = h0 := by rw [← hh, Bd.state]; rfl
  have N0 := Fr.nil n0
  have pre0 : ∀ t, Steps p.tables e below (s₁.setTop (mkF m 0 #[.val (.int p0), .val (.long q1), .second, .val (.int p2), .unset, .unset, .unset, .unset, .unset, .unset, .unset, .unset, .unset, .unset, .unset, .unset, .unset, .unset, .unset] [])) t → Steps p.tables e below (s₁.setTop (entryFrame m #[(.int p0), (.long q1), (.int p2)] maxLocals)) t := fun t k => castTop (ef_0 m p0 q1 p2) k
  obtain ⟨T1, h1, X1, e1, E1, A1, D1, -, st1⟩ := newO X0 hx hZ hown (hw _ (List.mem_of_getElem? (i := 2) rfl)) (hw _ (List.mem_of_getElem? (i := 3) rfl)) (hw _ (List.mem_of_getElem? (i := 4) rfl)) e0 (g := (mkF m 22 #[.val (.int p0), .val (.long q1), .second, .val (.int p2), .val (.int (v0_7 p0 q1 p2)), .val (.int (j0_12_s0 p0 q1 p2)), .unset, .unset, .unset, .unset, .unset, .unset, .unset, .unset, .unset, .unset, .unset, .unset, .unset] [])) rfl (hb hby at_22) (by decide) (by decide)
  obtain ⟨b1, g1⟩ : ∃ z, z = h0.size := ⟨_, rfl⟩
  rw [← g1] at A1 D1 st1
  have g_b1 : n0 ≤ b1 := Nat.le_trans Z0 (Nat.le_of_eq g1.symm)
  have z1 : n0 ≤ h1.size := Nat.le_trans Z0 E1.1
  have F1_rounds : Fld Z h1 b1 "com/example/lockstep/lockstep/bench/Measurement$Run" "rounds" "I" (.int (0 : Int32)) := D1 (Or.inr (hw _ (List.mem_of_getElem? (i := 17) rfl))) (ty := .int) (by decide)
  have F1_nanos : Fld Z h1 b1 "com/example/lockstep/lockstep/bench/Measurement$Run" "nanos" "J" (.long (0 : Int64)) := D1 (Or.inr (hw _ (List.mem_of_getElem? (i := 19) rfl))) (ty := .long) (by decide)
  have F1_checked : Fld Z h1 b1 "com/example/lockstep/lockstep/bench/Measurement$Run" "checked" "Z" (.int (0 : Int32)) := D1 (Or.inr (hw _ (List.mem_of_getElem? (i := 21) rfl))) (ty := .boolean) (by decide)
  obtain ⟨_, _, ⟨T2, L2, k2, n2⟩, -, X2, ⟨Lc2, hQ2, l2, y2, z2'⟩, st2⟩ := X1.specialBack hx (y := (⟨"com/example/lockstep/lockstep/bench/Measurement$Run", "<init>", "(IJZ)V"⟩ : MethodName)) rfl hown (mvT hZ (hw _ (List.mem_of_getElem? (i := 5) rfl))) (mvT hZ (hw _ (List.mem_of_getElem? (i := 6) rfl))) (mvT hZ (hw _ (List.mem_of_getElem? (i := 7) rfl))) (by decide) (backOf (W := 1) (rm1 l Z aw hw [] b1 (v0_7 p0 q1 p2) q1 (j0_12_s0 p0 q1 p2) (.int (0 : Int32)) (.long (0 : Int64)) (.int (0 : Int32)) h1 n0 z1 A1 F1_rounds F1_nanos F1_checked g_b1) hZ (hw _ (List.mem_of_getElem? (i := 7) rfl)) (hw _ (List.mem_of_getElem? (i := 4) rfl)) (by decide) (by decide)) (g := (mkF m 31 #[.val (.int p0), .val (.long q1), .second, .val (.int p2), .val (.int (v0_7 p0 q1 p2)), .val (.int (j0_12_s0 p0 q1 p2)), .unset, .unset, .unset, .unset, .unset, .unset, .unset, .unset, .unset, .unset, .unset, .unset, .unset] [(.int (j0_12_s0 p0 q1 p2)), (.long q1), (.int (v0_7 p0 q1 p2)), (.ref b1), (.ref b1)])) rfl (by rw [hml]; rfl) (Steps.refl _) (a := b1) (argsL := [(.int (v0_7 p0 q1 p2)), (.long q1), (.int (j0_12_s0 p0 q1 p2))]) (rest := [(.ref b1)]) (lenOf pd_3 rfl) rfl (by show 2 * 0 + _ ≤ _; exact Nat.le_of_eq rfl) (hb hby at_31) (fun _ _ => ⟨rfl, e1, (by decide : 1 + 0 ≤ _), (by decide : 3 + 0 ≤ _)⟩)
  dsimp only [Pt.U, Pt.locs, Pt.cells, Pt.slots] at X2 l2 y2 z2' st2 hQ2
  subst l2 y2 z2'
  obtain ⟨rfl, N2q, K2q, x2, f2_k0, f2_k1, f2_k2⟩ := hQ2
  have z2 : n0 ≤ T2.heap.size := Nat.le_trans z1 K2q.1
  have N2 := Fr.app N0 N2q
  obtain ⟨cq3, kq3, q3a, q3b, q3c⟩ := isOf hZ rfl x2
  obtain ⟨_, _, ⟨T3, L3, k3, n3⟩, -, X3, ⟨Lc3, hQ3, l3, y3, z3'⟩, st3⟩ := X2.virtualBack hx (y := (⟨"com/example/lockstep/lockstep/bench/Measurement$Run", "phasesPerSecond", "()J"⟩ : MethodName)) (z := (⟨"com/example/lockstep/lockstep/bench/Measurement$Run", "phasesPerSecond", "()J"⟩ : MethodName)) hown (mvT hZ (hw _ (List.mem_of_getElem? (i := 22) rfl))) (mvT hZ (hw _ (List.mem_of_getElem? (i := 23) rfl))) (notFace_of_selects (args := #[]) (mvT hZ (hw _ (List.mem_of_getElem? (i := 25) rfl)))) (mvT hZ (hw _ (List.mem_of_getElem? (i := 25) rfl))) (mvT hZ (hw _ (List.mem_of_getElem? (i := 24) rfl))) (by decide) (backOf (W := 0) (rm4 l Z aw hw [] b1 (v0_7 p0 q1 p2) q1 T2.heap n0 z2 f2_k0 hn8_38 f2_k1 hn18_38) hZ (hw _ (List.mem_of_getElem? (i := 26) rfl)) (hw _ (List.mem_of_getElem? (i := 4) rfl)) (by decide) (by decide)) q3a q3c (g := (mkF m 38 #[.val (.int p0), .val (.long q1), .second, .val (.int p2), .val (.int (v0_7 p0 q1 p2)), .val (.int (j0_12_s0 p0 q1 p2)), .val (.ref b1), .unset, .unset, .unset, .unset, .unset, .unset, .unset, .unset, .unset, .unset, .unset, .unset] [(.ref b1)])) rfl (by rw [hml]; rfl) (Steps.refl _) (argsL := []) (rest := []) (lenOf pd_4 rfl) rfl (by show 2 * 0 + _ ≤ _; exact Nat.le_of_eq rfl) (hb hby at_38) (fun _ _ => ⟨rfl, rfl, (by decide : 1 + 0 ≤ _), (by decide : 3 + 0 ≤ _)⟩)
  dsimp only [Pt.U, Pt.locs, Pt.cells, Pt.slots] at X3 l3 y3 z3' st3 hQ3
  subst l3 y3 z3'
  obtain ⟨rfl, N3q, hq3⟩ := hQ3
  have f3_0 : Exa Z T3.heap b1 "com/example/lockstep/lockstep/bench/Measurement$Run" := by rw [hq3]; exact x2
  have f3_1 : Fld Z T3.heap b1 "com/example/lockstep/lockstep/bench/Measurement$Run" "rounds" "I" (.int (v0_7 p0 q1 p2)) := by rw [hq3]; exact f2_k0
  have f3_2 : Fld Z T3.heap b1 "com/example/lockstep/lockstep/bench/Measurement$Run" "nanos" "J" (.long q1) := by rw [hq3]; exact f2_k1
  have f3_3 : Fld Z T3.heap b1 "com/example/lockstep/lockstep/bench/Measurement$Run" "checked" "Z" (.int (nar .boolean (j0_12_s0 p0 q1 p2))) := by rw [hq3]; exact f2_k2
  have z3 : n0 ≤ T3.heap.size := by rw [hq3]; exact z2
  have N3 := Fr.app N2 N3q
  obtain ⟨_, _, ⟨T4, L4, k4, n4⟩, -, X4, ⟨Lc4, hQ4, l4, y4, z4'⟩, st4⟩ := Jvm.LawKit.callS X3 hx (y := (⟨"java/lang/Math", "max", "(JJ)J"⟩ : MethodName)) hown (mvT hZ (hw _ (List.mem_of_getElem? (i := 42) rfl))) (mvT hZ (hw _ (List.mem_of_getElem? (i := 29) rfl))) (mvT hZ (hw _ (List.mem_of_getElem? (i := 30) rfl))) (mvT hZ (hw _ (List.mem_of_getElem? (i := 31) rfl))) (by decide) (backOf (W := 0) (rm5 l Z aw hw [] q1 (1 : Int64) T3.heap n0 z3 ) hZ (hw _ (List.mem_of_getElem? (i := 31) rfl)) (hw _ (List.mem_of_getElem? (i := 30) rfl)) (by decide) (by decide)) (g := (mkF m 45 #[.val (.int p0), .val (.long q1), .second, .val (.int p2), .val (.int (v0_7 p0 q1 p2)), .val (.int (j0_12_s0 p0 q1 p2)), .val (.ref b1), .val (.long (v0_41 p0 q1 p2)), .second, .unset, .unset, .unset, .unset, .unset, .unset, .unset, .unset, .unset, .unset] [(.long (1 : Int64)), (.long q1)])) rfl (by rw [hml]; rfl) (argsL := [(.long q1), (.long (1 : Int64))]) (rest := []) (lenOf pd_1 rfl) rfl (by show 2 * 0 + _ ≤ _; exact Nat.le_of_eq rfl) (hb hby at_45) (fun _ _ => ⟨rfl, rfl, (by decide : 1 + 0 ≤ _), (by decide : 3 + 0 ≤ _)⟩)
  dsimp only [Pt.U, Pt.locs, Pt.cells, Pt.slots] at X4 l4 y4 z4' st4 hQ4
  subst l4 y4 z4'
  obtain ⟨rfl, N4q, hq4⟩ := hQ4
  have f4_0 : Exa Z T4.heap b1 "com/example/lockstep/lockstep/bench/Measurement$Run" := by rw [hq4]; exact f3_0
  have f4_1 : Fld Z T4.heap b1 "com/example/lockstep/lockstep/bench/Measurement$Run" "rounds" "I" (.int (v0_7 p0 q1 p2)) := by rw [hq4]; exact f3_1
  have f4_2 : Fld Z T4.heap b1 "com/example/lockstep/lockstep/bench/Measurement$Run" "nanos" "J" (.long q1) := by rw [hq4]; exact f3_2
  have f4_3 : Fld Z T4.heap b1 "com/example/lockstep/lockstep/bench/Measurement$Run" "checked" "Z" (.int (nar .boolean (j0_12_s0 p0 q1 p2))) := by rw [hq4]; exact f3_3
  have z4 : n0 ≤ T4.heap.size := by rw [hq4]; exact z3
  have N4 := Fr.app N3 N4q
  obtain ⟨fs, hr, hrun, hended, hW, hsame⟩ := X4.leave (v := some (.int (1 : Int32))) (fun h => by rw [Bd.returns] at h; cases h)
  refine ⟨_, _, pre0 _ ?_, hrun, hended, _, _, rfl, ?_, ⟨_, rfl⟩, hW, hsame.mono (by decide) (by decide)⟩
  · show Steps p.tables e below (s₁.setTop (mkF m 0 #[.val (.int p0), .val (.long q1), .second, .val (.int p2), .unset, .unset, .unset, .unset, .unset, .unset, .unset, .unset, .unset, .unset, .unset, .unset, .unset, .unset, .unset] [])) _
    refine XS.iloadN X0.here hx rfl (hb hby at_0) rfl ?_
    show Steps p.tables e below (s₁.setTop (mkF m 1 #[.val (.int p0), .val (.long q1), .second, .val (.int p2), .unset, .unset, .unset, .unset, .unset, .unset, .unset, .unset, .unset, .unset, .unset, .unset, .unset, .unset, .unset] [(.int p0)])) _
    refine X0.ldcInt hx hown (mvT hZ (hw _ (List.mem_of_getElem? (i := 0) rfl))) (g := (mkF m 1 #[.val (.int p0), .val (.long q1), .second, .val (.int p2), .unset, .unset, .unset, .unset, .unset, .unset, .unset, .unset, .unset, .unset, .unset, .unset, .unset, .unset, .unset] [(.int p0)])) rfl (hb hby at_1) _ ?_
    show Steps p.tables e below (s₁.setTop (mkF m 3 #[.val (.int p0), .val (.long q1), .second, .val (.int p2), .unset, .unset, .unset, .unset, .unset, .unset, .unset, .unset, .unset, .unset, .unset, .unset, .unset, .unset, .unset] [(.int (2147483647 : Int32)), (.int p0)])) _
    refine XS.iand X0.here hx rfl (hb hby at_3) rfl ?_
    show Steps p.tables e below (s₁.setTop (mkF m 4 #[.val (.int p0), .val (.long q1), .second, .val (.int p2), .unset, .unset, .unset, .unset, .unset, .unset, .unset, .unset, .unset, .unset, .unset, .unset, .unset, .unset, .unset] [(.int (p0 &&& (2147483647 : Int32)))])) _
    refine X0.ldcInt hx hown (mvT hZ (hw _ (List.mem_of_getElem? (i := 1) rfl))) (g := (mkF m 4 #[.val (.int p0), .val (.long q1), .second, .val (.int p2), .unset, .unset, .unset, .unset, .unset, .unset, .unset, .unset, .unset, .unset, .unset, .unset, .unset, .unset, .unset] [(.int (p0 &&& (2147483647 : Int32)))])) rfl (hb hby at_4) _ ?_
    show Steps p.tables e below (s₁.setTop (mkF m 6 #[.val (.int p0), .val (.long q1), .second, .val (.int p2), .unset, .unset, .unset, .unset, .unset, .unset, .unset, .unset, .unset, .unset, .unset, .unset, .unset, .unset, .unset] [(.int (4500000 : Int32)), (.int (p0 &&& (2147483647 : Int32)))])) _
    refine Jvm.OwnFP.iremM X0.here hx rfl (hb hby at_6) rfl (by decide) ?_
    show Steps p.tables e below (s₁.setTop (mkF m 7 #[.val (.int p0), .val (.long q1), .second, .val (.int p2), .unset, .unset, .unset, .unset, .unset, .unset, .unset, .unset, .unset, .unset, .unset, .unset, .unset, .unset, .unset] [(.int ((p0 &&& (2147483647 : Int32)) % (4500000 : Int32)))])) _
    refine XS.istore X0.here hx rfl (hb hby at_7) rfl (l' := #[.val (.int p0), .val (.long q1), .second, .val (.int p2), .val (.int (v0_7 p0 q1 p2)), .unset, .unset, .unset, .unset, .unset, .unset, .unset, .unset, .unset, .unset, .unset, .unset, .unset, .unset]) rfl ?_
    show Steps p.tables e below (s₁.setTop (mkF m 9 #[.val (.int p0), .val (.long q1), .second, .val (.int p2), .val (.int (v0_7 p0 q1 p2)), .unset, .unset, .unset, .unset, .unset, .unset, .unset, .unset, .unset, .unset, .unset, .unset, .unset, .unset] [])) _
    refine XS.iloadN X0.here hx rfl (hb hby at_9) rfl ?_
    show Steps p.tables e below (s₁.setTop (mkF m 10 #[.val (.int p0), .val (.long q1), .second, .val (.int p2), .val (.int (v0_7 p0 q1 p2)), .unset, .unset, .unset, .unset, .unset, .unset, .unset, .unset, .unset, .unset, .unset, .unset, .unset, .unset] [(.int p2)])) _
    refine XS.iconst X0.here hx rfl (hb hby at_10) ?_
    show Steps p.tables e below (s₁.setTop (mkF m 11 #[.val (.int p0), .val (.long q1), .second, .val (.int p2), .val (.int (v0_7 p0 q1 p2)), .unset, .unset, .unset, .unset, .unset, .unset, .unset, .unset, .unset, .unset, .unset, .unset, .unset, .unset] [(.int (1 : Int32)), (.int p2)])) _
    refine XS.iand X0.here hx rfl (hb hby at_11) rfl ?_
    show Steps p.tables e below (s₁.setTop (mkF m 12 #[.val (.int p0), .val (.long q1), .second, .val (.int p2), .val (.int (v0_7 p0 q1 p2)), .unset, .unset, .unset, .unset, .unset, .unset, .unset, .unset, .unset, .unset, .unset, .unset, .unset, .unset] [(.int (p2 &&& (1 : Int32)))])) _
    suffices kt12 : Steps p.tables e below (s₁.setTop (mkF m 20 #[.val (.int p0), .val (.long q1), .second, .val (.int p2), .val (.int (v0_7 p0 q1 p2)), .unset, .unset, .unset, .unset, .unset, .unset, .unset, .unset, .unset, .unset, .unset, .unset, .unset, .unset] [(.int (j0_12_s0 p0 q1 p2))])) (T4.setFrames fs) by
      by_cases hc12 : ifCond.holds .eq (p2 &&& (1 : Int32)) = true
      · rw [show (j0_12_s0 p0 q1 p2) = (0 : Int32) from if_pos hc12] at kt12
        refine XS.ifYes X0.here hx rfl (pc0 := 12) (pc' := 19) rfl (hb hby at_12) rfl hc12 (by decide) (by decide) ?_
        show Steps p.tables e below (s₁.setTop (mkF m 19 #[.val (.int p0), .val (.long q1), .second, .val (.int p2), .val (.int (v0_7 p0 q1 p2)), .unset, .unset, .unset, .unset, .unset, .unset, .unset, .unset, .unset, .unset, .unset, .unset, .unset, .unset] [])) _
        refine XS.iconst X0.here hx rfl (hb hby at_19) ?_
        exact kt12
      · rw [show (j0_12_s0 p0 q1 p2) = (1 : Int32) from if_neg hc12] at kt12
        refine XS.ifNo X0.here hx rfl (hb hby at_12) rfl (eq_false_of_ne_true hc12) ?_
        show Steps p.tables e below (s₁.setTop (mkF m 15 #[.val (.int p0), .val (.long q1), .second, .val (.int p2), .val (.int (v0_7 p0 q1 p2)), .unset, .unset, .unset, .unset, .unset, .unset, .unset, .unset, .unset, .unset, .unset, .unset, .unset, .unset] [])) _
        refine XS.iconst X0.here hx rfl (hb hby at_15) ?_
        show Steps p.tables e below (s₁.setTop (mkF m 16 #[.val (.int p0), .val (.long q1), .second, .val (.int p2), .val (.int (v0_7 p0 q1 p2)), .unset, .unset, .unset, .unset, .unset, .unset, .unset, .unset, .unset, .unset, .unset, .unset, .unset, .unset] [(.int (1 : Int32))])) _
        refine XS.goto X0.here hx rfl (pc0 := 16) (pc' := 20) rfl (hb hby at_16) (by decide) (by decide) ?_
        exact kt12
    show Steps p.tables e below (s₁.setTop (mkF m 20 #[.val (.int p0), .val (.long q1), .second, .val (.int p2), .val (.int (v0_7 p0 q1 p2)), .unset, .unset, .unset, .unset, .unset, .unset, .unset, .unset, .unset, .unset, .unset, .unset, .unset, .unset] [(.int (j0_12_s0 p0 q1 p2))])) _
    refine XS.istore X0.here hx rfl (hb hby at_20) rfl (l' := #[.val (.int p0), .val (.long q1), .second, .val (.int p2), .val (.int (v0_7 p0 q1 p2)), .val (.int (j0_12_s0 p0 q1 p2)), .unset, .unset, .unset, .unset, .unset, .unset, .unset, .unset, .unset, .unset, .unset, .unset, .unset]) rfl ?_
    show Steps p.tables e below (s₁.setTop (mkF m 22 #[.val (.int p0), .val (.long q1), .second, .val (.int p2), .val (.int (v0_7 p0 q1 p2)), .val (.int (j0_12_s0 p0 q1 p2)), .unset, .unset, .unset, .unset, .unset, .unset, .unset, .unset, .unset, .unset, .unset, .unset, .unset] [])) _
    refine st1 _ ?_
    show Steps p.tables e below (T1.setTop (mkF m 25 #[.val (.int p0), .val (.long q1), .second, .val (.int p2), .val (.int (v0_7 p0 q1 p2)), .val (.int (j0_12_s0 p0 q1 p2)), .unset, .unset, .unset, .unset, .unset, .unset, .unset, .unset, .unset, .unset, .unset, .unset, .unset] [(.ref b1)])) _
    refine XS.dup X1.here hx rfl (hb hby at_25) rfl rfl ?_
    show Steps p.tables e below (T1.setTop (mkF m 26 #[.val (.int p0), .val (.long q1), .second, .val (.int p2), .val (.int (v0_7 p0 q1 p2)), .val (.int (j0_12_s0 p0 q1 p2)), .unset, .unset, .unset, .unset, .unset, .unset, .unset, .unset, .unset, .unset, .unset, .unset, .unset] [(.ref b1), (.ref b1)])) _
    refine XS.iload X1.here hx rfl (hb hby at_26) rfl ?_
    show Steps p.tables e below (T1.setTop (mkF m 28 #[.val (.int p0), .val (.long q1), .second, .val (.int p2), .val (.int (v0_7 p0 q1 p2)), .val (.int (j0_12_s0 p0 q1 p2)), .unset, .unset, .unset, .unset, .unset, .unset, .unset, .unset, .unset, .unset, .unset, .unset, .unset] [(.int (v0_7 p0 q1 p2)), (.ref b1), (.ref b1)])) _
    refine XS.lloadN X1.here hx rfl (hb hby at_28) rfl ?_
    show Steps p.tables e below (T1.setTop (mkF m 29 #[.val (.int p0), .val (.long q1), .second, .val (.int p2), .val (.int (v0_7 p0 q1 p2)), .val (.int (j0_12_s0 p0 q1 p2)), .unset, .unset, .unset, .unset, .unset, .unset, .unset, .unset, .unset, .unset, .unset, .unset, .unset] [(.long q1), (.int (v0_7 p0 q1 p2)), (.ref b1), (.ref b1)])) _
    refine XS.iload X1.here hx rfl (hb hby at_29) rfl ?_
    show Steps p.tables e below (T1.setTop (mkF m 31 #[.val (.int p0), .val (.long q1), .second, .val (.int p2), .val (.int (v0_7 p0 q1 p2)), .val (.int (j0_12_s0 p0 q1 p2)), .unset, .unset, .unset, .unset, .unset, .unset, .unset, .unset, .unset, .unset, .unset, .unset, .unset] [(.int (j0_12_s0 p0 q1 p2)), (.long q1), (.int (v0_7 p0 q1 p2)), (.ref b1), (.ref b1)])) _
    refine st2.trans ?_
    show Steps p.tables e below (T2.setTop (mkF m 34 #[.val (.int p0), .val (.long q1), .second, .val (.int p2), .val (.int (v0_7 p0 q1 p2)), .val (.int (j0_12_s0 p0 q1 p2)), .unset, .unset, .unset, .unset, .unset, .unset, .unset, .unset, .unset, .unset, .unset, .unset, .unset] [(.ref b1)])) _
    refine XS.astore X2.here hx rfl (hb hby at_34) rfl rfl (l' := #[.val (.int p0), .val (.long q1), .second, .val (.int p2), .val (.int (v0_7 p0 q1 p2)), .val (.int (j0_12_s0 p0 q1 p2)), .val (.ref b1), .unset, .unset, .unset, .unset, .unset, .unset, .unset, .unset, .unset, .unset, .unset, .unset]) rfl ?_
    show Steps p.tables e below (T2.setTop (mkF m 36 #[.val (.int p0), .val (.long q1), .second, .val (.int p2), .val (.int (v0_7 p0 q1 p2)), .val (.int (j0_12_s0 p0 q1 p2)), .val (.ref b1), .unset, .unset, .unset, .unset, .unset, .unset, .unset, .unset, .unset, .unset, .unset, .unset] [])) _
    refine XS.aload X2.here hx rfl (hb hby at_36) rfl rfl ?_
    show Steps p.tables e below (T2.setTop (mkF m 38 #[.val (.int p0), .val (.long q1), .second, .val (.int p2), .val (.int (v0_7 p0 q1 p2)), .val (.int (j0_12_s0 p0 q1 p2)), .val (.ref b1), .unset, .unset, .unset, .unset, .unset, .unset, .unset, .unset, .unset, .unset, .unset, .unset] [(.ref b1)])) _
    refine st3.trans ?_
    show Steps p.tables e below (T3.setTop (mkF m 41 #[.val (.int p0), .val (.long q1), .second, .val (.int p2), .val (.int (v0_7 p0 q1 p2)), .val (.int (j0_12_s0 p0 q1 p2)), .val (.ref b1), .unset, .unset, .unset, .unset, .unset, .unset, .unset, .unset, .unset, .unset, .unset, .unset] [(.long (r4 (v0_7 p0 q1 p2) q1))])) _
    refine XS.lstore X3.here hx rfl (hb hby at_41) rfl (l' := #[.val (.int p0), .val (.long q1), .second, .val (.int p2), .val (.int (v0_7 p0 q1 p2)), .val (.int (j0_12_s0 p0 q1 p2)), .val (.ref b1), .val (.long (v0_41 p0 q1 p2)), .second, .unset, .unset, .unset, .unset, .unset, .unset, .unset, .unset, .unset, .unset]) rfl ?_
    show Steps p.tables e below (T3.setTop (mkF m 43 #[.val (.int p0), .val (.long q1), .second, .val (.int p2), .val (.int (v0_7 p0 q1 p2)), .val (.int (j0_12_s0 p0 q1 p2)), .val (.ref b1), .val (.long (v0_41 p0 q1 p2)), .second, .unset, .unset, .unset, .unset, .unset, .unset, .unset, .unset, .unset, .unset] [])) _
    refine XS.lloadN X3.here hx rfl (hb hby at_43) rfl ?_
    show Steps p.tables e below (T3.setTop (mkF m 44 #[.val (.int p0), .val (.long q1), .second, .val (.int p2), .val (.int (v0_7 p0 q1 p2)), .val (.int (j0_12_s0 p0 q1 p2)), .val (.ref b1), .val (.long (v0_41 p0 q1 p2)), .second, .unset, .unset, .unset, .unset, .unset, .unset, .unset, .unset, .unset, .unset] [(.long q1)])) _
    refine XS.lconst X3.here hx rfl (hb hby at_44) ?_
    show Steps p.tables e below (T3.setTop (mkF m 45 #[.val (.int p0), .val (.long q1), .second, .val (.int p2), .val (.int (v0_7 p0 q1 p2)), .val (.int (j0_12_s0 p0 q1 p2)), .val (.ref b1), .val (.long (v0_41 p0 q1 p2)), .second, .unset, .unset, .unset, .unset, .unset, .unset, .unset, .unset, .unset, .unset] [(.long (1 : Int64)), (.long q1)])) _
    refine st4 _ ?_
    show Steps p.tables e below (T4.setTop (mkF m 48 #[.val (.int p0), .val (.long q1), .second, .val (.int p2), .val (.int (v0_7 p0 q1 p2)), .val (.int (j0_12_s0 p0 q1 p2)), .val (.ref b1), .val (.long (v0_41 p0 q1 p2)), .second, .unset, .unset, .unset, .unset, .unset, .unset, .unset, .unset, .unset, .unset] [(.long (j5_3_s0 q1 (1 : Int64)))])) _
    refine XS.lstore X4.here hx rfl (hb hby at_48) rfl (l' := #[.val (.int p0), .val (.long q1), .second, .val (.int p2), .val (.int (v0_7 p0 q1 p2)), .val (.int (j0_12_s0 p0 q1 p2)), .val (.ref b1), .val (.long (v0_41 p0 q1 p2)), .second, .val (.long (v0_48 p0 q1 p2)), .second, .unset, .unset, .unset, .unset, .unset, .unset, .unset, .unset]) rfl ?_
    show Steps p.tables e below (T4.setTop (mkF m 50 #[.val (.int p0), .val (.long q1), .second, .val (.int p2), .val (.int (v0_7 p0 q1 p2)), .val (.int (j0_12_s0 p0 q1 p2)), .val (.ref b1), .val (.long (v0_41 p0 q1 p2)), .second, .val (.long (v0_48 p0 q1 p2)), .second, .unset, .unset, .unset, .unset, .unset, .unset, .unset, .unset] [])) _
    refine XS.iload X4.here hx rfl (hb hby at_50) rfl ?_
    show Steps p.tables e below (T4.setTop (mkF m 52 #[.val (.int p0), .val (.long q1), .second, .val (.int p2), .val (.int (v0_7 p0 q1 p2)), .val (.int (j0_12_s0 p0 q1 p2)), .val (.ref b1), .val (.long (v0_41 p0 q1 p2)), .second, .val (.long (v0_48 p0 q1 p2)), .second, .unset, .unset, .unset, .unset, .unset, .unset, .unset, .unset] [(.int (v0_7 p0 q1 p2))])) _
    refine XS.i2l X4.here hx rfl (hb hby at_52) rfl ?_
    show Steps p.tables e below (T4.setTop (mkF m 53 #[.val (.int p0), .val (.long q1), .second, .val (.int p2), .val (.int (v0_7 p0 q1 p2)), .val (.int (j0_12_s0 p0 q1 p2)), .val (.ref b1), .val (.long (v0_41 p0 q1 p2)), .second, .val (.long (v0_48 p0 q1 p2)), .second, .unset, .unset, .unset, .unset, .unset, .unset, .unset, .unset] [(.long ((v0_7 p0 q1 p2).toInt64))])) _
    refine X4.ldc2Long hx hown (mvT hZ (hw _ (List.mem_of_getElem? (i := 43) rfl))) (g := (mkF m 53 #[.val (.int p0), .val (.long q1), .second, .val (.int p2), .val (.int (v0_7 p0 q1 p2)), .val (.int (j0_12_s0 p0 q1 p2)), .val (.ref b1), .val (.long (v0_41 p0 q1 p2)), .second, .val (.long (v0_48 p0 q1 p2)), .second, .unset, .unset, .unset, .unset, .unset, .unset, .unset, .unset] [(.long ((v0_7 p0 q1 p2).toInt64))])) rfl (hb hby at_53) _ ?_
    show Steps p.tables e below (T4.setTop (mkF m 56 #[.val (.int p0), .val (.long q1), .second, .val (.int p2), .val (.int (v0_7 p0 q1 p2)), .val (.int (j0_12_s0 p0 q1 p2)), .val (.ref b1), .val (.long (v0_41 p0 q1 p2)), .second, .val (.long (v0_48 p0 q1 p2)), .second, .unset, .unset, .unset, .unset, .unset, .unset, .unset, .unset] [(.long (1000000000 : Int64)), (.long ((v0_7 p0 q1 p2).toInt64))])) _
    refine XS.lmul X4.here hx rfl (hb hby at_56) rfl ?_
    show Steps p.tables e below (T4.setTop (mkF m 57 #[.val (.int p0), .val (.long q1), .second, .val (.int p2), .val (.int (v0_7 p0 q1 p2)), .val (.int (j0_12_s0 p0 q1 p2)), .val (.ref b1), .val (.long (v0_41 p0 q1 p2)), .second, .val (.long (v0_48 p0 q1 p2)), .second, .unset, .unset, .unset, .unset, .unset, .unset, .unset, .unset] [(.long (((v0_7 p0 q1 p2).toInt64) * (1000000000 : Int64)))])) _
    refine XS.lstore X4.here hx rfl (hb hby at_57) rfl (l' := #[.val (.int p0), .val (.long q1), .second, .val (.int p2), .val (.int (v0_7 p0 q1 p2)), .val (.int (j0_12_s0 p0 q1 p2)), .val (.ref b1), .val (.long (v0_41 p0 q1 p2)), .second, .val (.long (v0_48 p0 q1 p2)), .second, .val (.long (v0_57 p0 q1 p2)), .second, .unset, .unset, .unset, .unset, .unset, .unset]) rfl ?_
    show Steps p.tables e below (T4.setTop (mkF m 59 #[.val (.int p0), .val (.long q1), .second, .val (.int p2), .val (.int (v0_7 p0 q1 p2)), .val (.int (j0_12_s0 p0 q1 p2)), .val (.ref b1), .val (.long (v0_41 p0 q1 p2)), .second, .val (.long (v0_48 p0 q1 p2)), .second, .val (.long (v0_57 p0 q1 p2)), .second, .unset, .unset, .unset, .unset, .unset, .unset] [])) _
    refine XS.lload X4.here hx rfl (hb hby at_59) rfl ?_
    show Steps p.tables e below (T4.setTop (mkF m 61 #[.val (.int p0), .val (.long q1), .second, .val (.int p2), .val (.int (v0_7 p0 q1 p2)), .val (.int (j0_12_s0 p0 q1 p2)), .val (.ref b1), .val (.long (v0_41 p0 q1 p2)), .second, .val (.long (v0_48 p0 q1 p2)), .second, .val (.long (v0_57 p0 q1 p2)), .second, .unset, .unset, .unset, .unset, .unset, .unset] [(.long (v0_57 p0 q1 p2))])) _
    refine XS.lload X4.here hx rfl (hb hby at_61) rfl ?_
    show Steps p.tables e below (T4.setTop (mkF m 63 #[.val (.int p0), .val (.long q1), .second, .val (.int p2), .val (.int (v0_7 p0 q1 p2)), .val (.int (j0_12_s0 p0 q1 p2)), .val (.ref b1), .val (.long (v0_41 p0 q1 p2)), .second, .val (.long (v0_48 p0 q1 p2)), .second, .val (.long (v0_57 p0 q1 p2)), .second, .unset, .unset, .unset, .unset, .unset, .unset] [(.long (v0_48 p0 q1 p2)), (.long (v0_57 p0 q1 p2))])) _
    refine XS.ldiv X4.here hx rfl (hb hby at_63) rfl hz63 ?_
    show Steps p.tables e below (T4.setTop (mkF m 64 #[.val (.int p0), .val (.long q1), .second, .val (.int p2), .val (.int (v0_7 p0 q1 p2)), .val (.int (j0_12_s0 p0 q1 p2)), .val (.ref b1), .val (.long (v0_41 p0 q1 p2)), .second, .val (.long (v0_48 p0 q1 p2)), .second, .val (.long (v0_57 p0 q1 p2)), .second, .unset, .unset, .unset, .unset, .unset, .unset] [(.long ((v0_57 p0 q1 p2) / (v0_48 p0 q1 p2)))])) _
    refine XS.lstore X4.here hx rfl (hb hby at_64) rfl (l' := #[.val (.int p0), .val (.long q1), .second, .val (.int p2), .val (.int (v0_7 p0 q1 p2)), .val (.int (j0_12_s0 p0 q1 p2)), .val (.ref b1), .val (.long (v0_41 p0 q1 p2)), .second, .val (.long (v0_48 p0 q1 p2)), .second, .val (.long (v0_57 p0 q1 p2)), .second, .val (.long (v0_64 p0 q1 p2)), .second, .unset, .unset, .unset, .unset]) rfl ?_
    show Steps p.tables e below (T4.setTop (mkF m 66 #[.val (.int p0), .val (.long q1), .second, .val (.int p2), .val (.int (v0_7 p0 q1 p2)), .val (.int (j0_12_s0 p0 q1 p2)), .val (.ref b1), .val (.long (v0_41 p0 q1 p2)), .second, .val (.long (v0_48 p0 q1 p2)), .second, .val (.long (v0_57 p0 q1 p2)), .second, .val (.long (v0_64 p0 q1 p2)), .second, .unset, .unset, .unset, .unset] [])) _
    refine XS.lload X4.here hx rfl (hb hby at_66) rfl ?_
    show Steps p.tables e below (T4.setTop (mkF m 68 #[.val (.int p0), .val (.long q1), .second, .val (.int p2), .val (.int (v0_7 p0 q1 p2)), .val (.int (j0_12_s0 p0 q1 p2)), .val (.ref b1), .val (.long (v0_41 p0 q1 p2)), .second, .val (.long (v0_48 p0 q1 p2)), .second, .val (.long (v0_57 p0 q1 p2)), .second, .val (.long (v0_64 p0 q1 p2)), .second, .unset, .unset, .unset, .unset] [(.long (v0_57 p0 q1 p2))])) _
    refine XS.lload X4.here hx rfl (hb hby at_68) rfl ?_
    show Steps p.tables e below (T4.setTop (mkF m 70 #[.val (.int p0), .val (.long q1), .second, .val (.int p2), .val (.int (v0_7 p0 q1 p2)), .val (.int (j0_12_s0 p0 q1 p2)), .val (.ref b1), .val (.long (v0_41 p0 q1 p2)), .second, .val (.long (v0_48 p0 q1 p2)), .second, .val (.long (v0_57 p0 q1 p2)), .second, .val (.long (v0_64 p0 q1 p2)), .second, .unset, .unset, .unset, .unset] [(.long (v0_48 p0 q1 p2)), (.long (v0_57 p0 q1 p2))])) _
    refine Jvm.OwnFP.lremM X4.here hx rfl (hb hby at_70) rfl hz63 ?_
    show Steps p.tables e below (T4.setTop (mkF m 71 #[.val (.int p0), .val (.long q1), .second, .val (.int p2), .val (.int (v0_7 p0 q1 p2)), .val (.int (j0_12_s0 p0 q1 p2)), .val (.ref b1), .val (.long (v0_41 p0 q1 p2)), .second, .val (.long (v0_48 p0 q1 p2)), .second, .val (.long (v0_57 p0 q1 p2)), .second, .val (.long (v0_64 p0 q1 p2)), .second, .unset, .unset, .unset, .unset] [(.long ((v0_57 p0 q1 p2) % (v0_48 p0 q1 p2)))])) _
    refine XS.lstore X4.here hx rfl (hb hby at_71) rfl (l' := #[.val (.int p0), .val (.long q1), .second, .val (.int p2), .val (.int (v0_7 p0 q1 p2)), .val (.int (j0_12_s0 p0 q1 p2)), .val (.ref b1), .val (.long (v0_41 p0 q1 p2)), .second, .val (.long (v0_48 p0 q1 p2)), .second, .val (.long (v0_57 p0 q1 p2)), .second, .val (.long (v0_64 p0 q1 p2)), .second, .val (.long (v0_71 p0 q1 p2)), .second, .unset, .unset]) rfl ?_
    show Steps p.tables e below (T4.setTop (mkF m 73 #[.val (.int p0), .val (.long q1), .second, .val (.int p2), .val (.int (v0_7 p0 q1 p2)), .val (.int (j0_12_s0 p0 q1 p2)), .val (.ref b1), .val (.long (v0_41 p0 q1 p2)), .second, .val (.long (v0_48 p0 q1 p2)), .second, .val (.long (v0_57 p0 q1 p2)), .second, .val (.long (v0_64 p0 q1 p2)), .second, .val (.long (v0_71 p0 q1 p2)), .second, .unset, .unset] [])) _
    refine XS.lload X4.here hx rfl (hb hby at_73) rfl ?_
    show Steps p.tables e below (T4.setTop (mkF m 75 #[.val (.int p0), .val (.long q1), .second, .val (.int p2), .val (.int (v0_7 p0 q1 p2)), .val (.int (j0_12_s0 p0 q1 p2)), .val (.ref b1), .val (.long (v0_41 p0 q1 p2)), .second, .val (.long (v0_48 p0 q1 p2)), .second, .val (.long (v0_57 p0 q1 p2)), .second, .val (.long (v0_64 p0 q1 p2)), .second, .val (.long (v0_71 p0 q1 p2)), .second, .unset, .unset] [(.long (v0_71 p0 q1 p2))])) _
    refine XS.lload X4.here hx rfl (hb hby at_75) rfl ?_
    show Steps p.tables e below (T4.setTop (mkF m 77 #[.val (.int p0), .val (.long q1), .second, .val (.int p2), .val (.int (v0_7 p0 q1 p2)), .val (.int (j0_12_s0 p0 q1 p2)), .val (.ref b1), .val (.long (v0_41 p0 q1 p2)), .second, .val (.long (v0_48 p0 q1 p2)), .second, .val (.long (v0_57 p0 q1 p2)), .second, .val (.long (v0_64 p0 q1 p2)), .second, .val (.long (v0_71 p0 q1 p2)), .second, .unset, .unset] [(.long (v0_48 p0 q1 p2)), (.long (v0_71 p0 q1 p2))])) _
    refine XS.lload X4.here hx rfl (hb hby at_77) rfl ?_
    show Steps p.tables e below (T4.setTop (mkF m 79 #[.val (.int p0), .val (.long q1), .second, .val (.int p2), .val (.int (v0_7 p0 q1 p2)), .val (.int (j0_12_s0 p0 q1 p2)), .val (.ref b1), .val (.long (v0_41 p0 q1 p2)), .second, .val (.long (v0_48 p0 q1 p2)), .second, .val (.long (v0_57 p0 q1 p2)), .second, .val (.long (v0_64 p0 q1 p2)), .second, .val (.long (v0_71 p0 q1 p2)), .second, .unset, .unset] [(.long (v0_71 p0 q1 p2)), (.long (v0_48 p0 q1 p2)), (.long (v0_71 p0 q1 p2))])) _
    refine XS.lsub X4.here hx rfl (hb hby at_79) rfl ?_
    show Steps p.tables e below (T4.setTop (mkF m 80 #[.val (.int p0), .val (.long q1), .second, .val (.int p2), .val (.int (v0_7 p0 q1 p2)), .val (.int (j0_12_s0 p0 q1 p2)), .val (.ref b1), .val (.long (v0_41 p0 q1 p2)), .second, .val (.long (v0_48 p0 q1 p2)), .second, .val (.long (v0_57 p0 q1 p2)), .second, .val (.long (v0_64 p0 q1 p2)), .second, .val (.long (v0_71 p0 q1 p2)), .second, .unset, .unset] [(.long ((v0_48 p0 q1 p2) - (v0_71 p0 q1 p2))), (.long (v0_71 p0 q1 p2))])) _
    refine XS.lcmp X4.here hx rfl (hb hby at_80) rfl ?_
    show Steps p.tables e below (T4.setTop (mkF m 81 #[.val (.int p0), .val (.long q1), .second, .val (.int p2), .val (.int (v0_7 p0 q1 p2)), .val (.int (j0_12_s0 p0 q1 p2)), .val (.ref b1), .val (.long (v0_41 p0 q1 p2)), .second, .val (.long (v0_48 p0 q1 p2)), .second, .val (.long (v0_57 p0 q1 p2)), .second, .val (.long (v0_64 p0 q1 p2)), .second, .val (.long (v0_71 p0 q1 p2)), .second, .unset, .unset] [(.int (lcmpW (v0_71 p0 q1 p2) ((v0_48 p0 q1 p2) - (v0_71 p0 q1 p2))))])) _
    suffices kt81 : Steps p.tables e below (T4.setTop (mkF m 93 #[.val (.int p0), .val (.long q1), .second, .val (.int p2), .val (.int (v0_7 p0 q1 p2)), .val (.int (j0_12_s0 p0 q1 p2)), .val (.ref b1), .val (.long (v0_41 p0 q1 p2)), .second, .val (.long (v0_48 p0 q1 p2)), .second, .val (.long (v0_57 p0 q1 p2)), .second, .val (.long (v0_64 p0 q1 p2)), .second, .val (.long (v0_71 p0 q1 p2)), .second, .unset, .unset] [(.long (j0_81_s0 p0 q1 p2))])) (T4.setFrames fs) by
      by_cases hc81 : ifCond.holds .lt (lcmpW (v0_71 p0 q1 p2) ((v0_48 p0 q1 p2) - (v0_71 p0 q1 p2))) = true
      · rw [show (j0_81_s0 p0 q1 p2) = (v0_64 p0 q1 p2) from if_pos hc81] at kt81
        refine XS.ifYes X4.here hx rfl (pc0 := 81) (pc' := 91) rfl (hb hby at_81) rfl hc81 (by decide) (by decide) ?_
        show Steps p.tables e below (T4.setTop (mkF m 91 #[.val (.int p0), .val (.long q1), .second, .val (.int p2), .val (.int (v0_7 p0 q1 p2)), .val (.int (j0_12_s0 p0 q1 p2)), .val (.ref b1), .val (.long (v0_41 p0 q1 p2)), .second, .val (.long (v0_48 p0 q1 p2)), .second, .val (.long (v0_57 p0 q1 p2)), .second, .val (.long (v0_64 p0 q1 p2)), .second, .val (.long (v0_71 p0 q1 p2)), .second, .unset, .unset] [])) _
        refine XS.lload X4.here hx rfl (hb hby at_91) rfl ?_
        exact kt81
      · rw [show (j0_81_s0 p0 q1 p2) = ((v0_64 p0 q1 p2) + (1 : Int64)) from if_neg hc81] at kt81
        refine XS.ifNo X4.here hx rfl (hb hby at_81) rfl (eq_false_of_ne_true hc81) ?_
        show Steps p.tables e below (T4.setTop (mkF m 84 #[.val (.int p0), .val (.long q1), .second, .val (.int p2), .val (.int (v0_7 p0 q1 p2)), .val (.int (j0_12_s0 p0 q1 p2)), .val (.ref b1), .val (.long (v0_41 p0 q1 p2)), .second, .val (.long (v0_48 p0 q1 p2)), .second, .val (.long (v0_57 p0 q1 p2)), .second, .val (.long (v0_64 p0 q1 p2)), .second, .val (.long (v0_71 p0 q1 p2)), .second, .unset, .unset] [])) _
        refine XS.lload X4.here hx rfl (hb hby at_84) rfl ?_
        show Steps p.tables e below (T4.setTop (mkF m 86 #[.val (.int p0), .val (.long q1), .second, .val (.int p2), .val (.int (v0_7 p0 q1 p2)), .val (.int (j0_12_s0 p0 q1 p2)), .val (.ref b1), .val (.long (v0_41 p0 q1 p2)), .second, .val (.long (v0_48 p0 q1 p2)), .second, .val (.long (v0_57 p0 q1 p2)), .second, .val (.long (v0_64 p0 q1 p2)), .second, .val (.long (v0_71 p0 q1 p2)), .second, .unset, .unset] [(.long (v0_64 p0 q1 p2))])) _
        refine XS.lconst X4.here hx rfl (hb hby at_86) ?_
        show Steps p.tables e below (T4.setTop (mkF m 87 #[.val (.int p0), .val (.long q1), .second, .val (.int p2), .val (.int (v0_7 p0 q1 p2)), .val (.int (j0_12_s0 p0 q1 p2)), .val (.ref b1), .val (.long (v0_41 p0 q1 p2)), .second, .val (.long (v0_48 p0 q1 p2)), .second, .val (.long (v0_57 p0 q1 p2)), .second, .val (.long (v0_64 p0 q1 p2)), .second, .val (.long (v0_71 p0 q1 p2)), .second, .unset, .unset] [(.long (1 : Int64)), (.long (v0_64 p0 q1 p2))])) _
        refine XS.ladd X4.here hx rfl (hb hby at_87) rfl ?_
        show Steps p.tables e below (T4.setTop (mkF m 88 #[.val (.int p0), .val (.long q1), .second, .val (.int p2), .val (.int (v0_7 p0 q1 p2)), .val (.int (j0_12_s0 p0 q1 p2)), .val (.ref b1), .val (.long (v0_41 p0 q1 p2)), .second, .val (.long (v0_48 p0 q1 p2)), .second, .val (.long (v0_57 p0 q1 p2)), .second, .val (.long (v0_64 p0 q1 p2)), .second, .val (.long (v0_71 p0 q1 p2)), .second, .unset, .unset] [(.long ((v0_64 p0 q1 p2) + (1 : Int64)))])) _
        refine XS.goto X4.here hx rfl (pc0 := 88) (pc' := 93) rfl (hb hby at_88) (by decide) (by decide) ?_
        exact kt81
    show Steps p.tables e below (T4.setTop (mkF m 93 #[.val (.int p0), .val (.long q1), .second, .val (.int p2), .val (.int (v0_7 p0 q1 p2)), .val (.int (j0_12_s0 p0 q1 p2)), .val (.ref b1), .val (.long (v0_41 p0 q1 p2)), .second, .val (.long (v0_48 p0 q1 p2)), .second, .val (.long (v0_57 p0 q1 p2)), .second, .val (.long (v0_64 p0 q1 p2)), .second, .val (.long (v0_71 p0 q1 p2)), .second, .unset, .unset] [(.long (j0_81_s0 p0 q1 p2))])) _
    refine XS.lstore X4.here hx rfl (hb hby at_93) rfl (l' := #[.val (.int p0), .val (.long q1), .second, .val (.int p2), .val (.int (v0_7 p0 q1 p2)), .val (.int (j0_12_s0 p0 q1 p2)), .val (.ref b1), .val (.long (v0_41 p0 q1 p2)), .second, .val (.long (v0_48 p0 q1 p2)), .second, .val (.long (v0_57 p0 q1 p2)), .second, .val (.long (v0_64 p0 q1 p2)), .second, .val (.long (v0_71 p0 q1 p2)), .second, .val (.long (j0_81_s0 p0 q1 p2)), .second]) rfl ?_
    show Steps p.tables e below (T4.setTop (mkF m 95 #[.val (.int p0), .val (.long q1), .second, .val (.int p2), .val (.int (v0_7 p0 q1 p2)), .val (.int (j0_12_s0 p0 q1 p2)), .val (.ref b1), .val (.long (v0_41 p0 q1 p2)), .second, .val (.long (v0_48 p0 q1 p2)), .second, .val (.long (v0_57 p0 q1 p2)), .second, .val (.long (v0_64 p0 q1 p2)), .second, .val (.long (v0_71 p0 q1 p2)), .second, .val (.long (j0_81_s0 p0 q1 p2)), .second] [])) _
    refine XS.lload X4.here hx rfl (hb hby at_95) rfl ?_
    show Steps p.tables e below (T4.setTop (mkF m 97 #[.val (.int p0), .val (.long q1), .second, .val (.int p2), .val (.int (v0_7 p0 q1 p2)), .val (.int (j0_12_s0 p0 q1 p2)), .val (.ref b1), .val (.long (v0_41 p0 q1 p2)), .second, .val (.long (v0_48 p0 q1 p2)), .second, .val (.long (v0_57 p0 q1 p2)), .second, .val (.long (v0_64 p0 q1 p2)), .second, .val (.long (v0_71 p0 q1 p2)), .second, .val (.long (j0_81_s0 p0 q1 p2)), .second] [(.long (v0_41 p0 q1 p2))])) _
    refine XS.lload X4.here hx rfl (hb hby at_97) rfl ?_
    show Steps p.tables e below (T4.setTop (mkF m 99 #[.val (.int p0), .val (.long q1), .second, .val (.int p2), .val (.int (v0_7 p0 q1 p2)), .val (.int (j0_12_s0 p0 q1 p2)), .val (.ref b1), .val (.long (v0_41 p0 q1 p2)), .second, .val (.long (v0_48 p0 q1 p2)), .second, .val (.long (v0_57 p0 q1 p2)), .second, .val (.long (v0_64 p0 q1 p2)), .second, .val (.long (v0_71 p0 q1 p2)), .second, .val (.long (j0_81_s0 p0 q1 p2)), .second] [(.long (j0_81_s0 p0 q1 p2)), (.long (v0_41 p0 q1 p2))])) _
    refine XS.lcmp X4.here hx rfl (hb hby at_99) rfl ?_
    show Steps p.tables e below (T4.setTop (mkF m 100 #[.val (.int p0), .val (.long q1), .second, .val (.int p2), .val (.int (v0_7 p0 q1 p2)), .val (.int (j0_12_s0 p0 q1 p2)), .val (.ref b1), .val (.long (v0_41 p0 q1 p2)), .second, .val (.long (v0_48 p0 q1 p2)), .second, .val (.long (v0_57 p0 q1 p2)), .second, .val (.long (v0_64 p0 q1 p2)), .second, .val (.long (v0_71 p0 q1 p2)), .second, .val (.long (j0_81_s0 p0 q1 p2)), .second] [(.int (lcmpW (v0_41 p0 q1 p2) (j0_81_s0 p0 q1 p2)))])) _
    suffices kt100 : Steps p.tables e below (T4.setTop (mkF m 108 #[.val (.int p0), .val (.long q1), .second, .val (.int p2), .val (.int (v0_7 p0 q1 p2)), .val (.int (j0_12_s0 p0 q1 p2)), .val (.ref b1), .val (.long (v0_41 p0 q1 p2)), .second, .val (.long (v0_48 p0 q1 p2)), .second, .val (.long (v0_57 p0 q1 p2)), .second, .val (.long (v0_64 p0 q1 p2)), .second, .val (.long (v0_71 p0 q1 p2)), .second, .val (.long (j0_81_s0 p0 q1 p2)), .second] [(.int (j0_100_s0 p0 q1 p2))])) (T4.setFrames fs) by
      by_cases hc100 : ifCond.holds .ne (lcmpW (v0_41 p0 q1 p2) (j0_81_s0 p0 q1 p2)) = true
      · rw [show (j0_100_s0 p0 q1 p2) = (0 : Int32) from if_pos hc100] at kt100
        refine XS.ifYes X4.here hx rfl (pc0 := 100) (pc' := 107) rfl (hb hby at_100) rfl hc100 (by decide) (by decide) ?_
        show Steps p.tables e below (T4.setTop (mkF m 107 #[.val (.int p0), .val (.long q1), .second, .val (.int p2), .val (.int (v0_7 p0 q1 p2)), .val (.int (j0_12_s0 p0 q1 p2)), .val (.ref b1), .val (.long (v0_41 p0 q1 p2)), .second, .val (.long (v0_48 p0 q1 p2)), .second, .val (.long (v0_57 p0 q1 p2)), .second, .val (.long (v0_64 p0 q1 p2)), .second, .val (.long (v0_71 p0 q1 p2)), .second, .val (.long (j0_81_s0 p0 q1 p2)), .second] [])) _
        refine XS.iconst X4.here hx rfl (hb hby at_107) ?_
        exact kt100
      · rw [show (j0_100_s0 p0 q1 p2) = (1 : Int32) from if_neg hc100] at kt100
        refine XS.ifNo X4.here hx rfl (hb hby at_100) rfl (eq_false_of_ne_true hc100) ?_
        show Steps p.tables e below (T4.setTop (mkF m 103 #[.val (.int p0), .val (.long q1), .second, .val (.int p2), .val (.int (v0_7 p0 q1 p2)), .val (.int (j0_12_s0 p0 q1 p2)), .val (.ref b1), .val (.long (v0_41 p0 q1 p2)), .second, .val (.long (v0_48 p0 q1 p2)), .second, .val (.long (v0_57 p0 q1 p2)), .second, .val (.long (v0_64 p0 q1 p2)), .second, .val (.long (v0_71 p0 q1 p2)), .second, .val (.long (j0_81_s0 p0 q1 p2)), .second] [])) _
        refine XS.iconst X4.here hx rfl (hb hby at_103) ?_
        show Steps p.tables e below (T4.setTop (mkF m 104 #[.val (.int p0), .val (.long q1), .second, .val (.int p2), .val (.int (v0_7 p0 q1 p2)), .val (.int (j0_12_s0 p0 q1 p2)), .val (.ref b1), .val (.long (v0_41 p0 q1 p2)), .second, .val (.long (v0_48 p0 q1 p2)), .second, .val (.long (v0_57 p0 q1 p2)), .second, .val (.long (v0_64 p0 q1 p2)), .second, .val (.long (v0_71 p0 q1 p2)), .second, .val (.long (j0_81_s0 p0 q1 p2)), .second] [(.int (1 : Int32))])) _
        refine XS.goto X4.here hx rfl (pc0 := 104) (pc' := 108) rfl (hb hby at_104) (by decide) (by decide) ?_
        exact kt100
    show Steps p.tables e below (T4.setTop (mkF m 108 #[.val (.int p0), .val (.long q1), .second, .val (.int p2), .val (.int (v0_7 p0 q1 p2)), .val (.int (j0_12_s0 p0 q1 p2)), .val (.ref b1), .val (.long (v0_41 p0 q1 p2)), .second, .val (.long (v0_48 p0 q1 p2)), .second, .val (.long (v0_57 p0 q1 p2)), .second, .val (.long (v0_64 p0 q1 p2)), .second, .val (.long (v0_71 p0 q1 p2)), .second, .val (.long (j0_81_s0 p0 q1 p2)), .second] [(.int (j0_100_s0 p0 q1 p2))])) _
    rw [hres108]
    exact retN X4 hx (t := .boolean) Bd.returns (by simp) (hb hby at_108) hr
  · show Q0 Z p0 q1 p2 h0 n0 _ T4.heap _
    exact ⟨rfl, N4⟩
set_option maxRecDepth 65536 in
set_option maxHeartbeats 40000000 in
theorem comes_1 {Post : Tables → Env → Array Value → State → Outcome → State → Prop} (hpost : ∀ tb e args s v u, (limb_1_1.after args s (.returned v) u = true ∧ limb_1_2.after args s (.returned v) u = true ∧ True) → FrameEnd s (.returned v) u (Jvm.fieldLocs frame_1_writes args s ++ Jvm.arrayLocs frame_1_arrays args s ++ Jvm.staticLocs frame_1_statics s) 16 128 → Post tb e args s (.returned v) u) :
    ArmFor flags0 classFile x code maxLocals ret World_1 tables_1 room_1 Calls_1 rest_1 Pre_1 Post := by
  intro l hfl _ _ p e ha hc hk s m args below hf hA hF happ hP
  obtain ⟨hcalls, hrest, hpre⟩ := hP
  obtain ⟨-, -, -, hnamed, -, -, -, hat⟩ := (Spec.applies_iff hf).mp happ
  obtain ⟨hg, hn⟩ := and_e (Cond.before_iff.mp (show (Jvm.Cond.and given_1 narrow_1).before args s = true from hpre))
  obtain ⟨k0, r0⟩ := and_e hg
  obtain ⟨a0, r1⟩ := and_e r0
  obtain ⟨a1, r2⟩ := and_e r1
  have a2 := r2
  obtain ⟨w0, w1, w2, rfl⟩ : ∃ w0 w1 w2 : Value, args = #[w0, w1, w2] := by
    have hs : args.size = 3 := by simpa [Cond.value, given_1] using k0
    obtain ⟨L⟩ := args
    match L, hs with
    | [w0, w1, w2], _ => exact ⟨w0, w1, w2, rfl⟩
  have hw := fun d (hd : d ∈ tables_1) => atoms_spec (ws := Jvm.Cond.code x code maxLocals ret :: tables_1) hat d (List.mem_cons_of_mem _ hd)
  obtain ⟨i0, ei0⟩ := is_v a0
  obtain rfl : w0 = (.int i0) := Option.some.inj ei0
  obtain ⟨i1, ei1⟩ := isL_v a1
  obtain rfl : w1 = (.long i1) := Option.some.inj ei1
  obtain ⟨i2, ei2⟩ := is_v a2
  obtain rfl : w2 = (.int i2) := Option.some.inj ei2
  obtain ⟨n, o, h1, h2, h3, _, L, rfl, ⟨rfl, N⟩, hq⟩ := rm0 l s _ hw tables_1 i0 i1 i2 s.heap s.heap.size (Nat.le_refl _) (own_hn8_38 i0 i1 i2) (own_hn18_38 i0 i1 i2) (own_hz63 i0 i1 i2) (own_hres108 i0 i1 i2) p e ha hc hk s m _ below hf ((Spec.applies_iff_loose hf).mp happ).1 ⟨rfl, State.Warmed39.refl s, rfl⟩ trivial
  refine ⟨n, _, h1, h2, h3, hpost _ _ _ _ _ _ ⟨Cond.after_iff.mpr rfl, Cond.after_iff.mpr (eq_i res_at (Term.int_eval (1)) rfl), trivial⟩ ⟨hq.1, hq.2.1, (hq.2.2.sift fun y hy => Or.inr (N y hy)).mono (by decide) (by decide)⟩⟩
theorem main_1_1 : Claimed_1_1 := comes_1 fun _ _ _ _ _ _ h hF => ⟨h.1, hF⟩
theorem main_1_2 : Claimed_1_2 := comes_1 fun _ _ _ _ _ _ h hF => ⟨h.2.1, hF⟩
end Jvm.Pilot.@@N@@
namespace Jvm.Pilot.@@N@@
open Jvm Jvm.ClassFile Sem Op Lib Jvm.Free Jvm.Stand Jvm.Pilot.@@N@@.Jvm.D
/-! MADE BY PROGRAM (witnessworld.py) out of the Statement's table words and the real class files: 16 classes; the members and pool entries that the words name. The judged class is class 1, her method 1. -/
namespace start1
open Jvm.ClassFile
def u (s : String) : CpInfo := .utf8 (stringToUtf16 s)
/-- a pool by its gaps: so many unusable entries, then the entry; so many at the end -/
def gap : Nat → List CpInfo → List CpInfo
  | 0, r => r
  | n + 1, r => .unusable :: gap n r
def poolList (es : List (Nat × CpInfo)) (last : Nat) : List CpInfo := es.foldr (fun e r => gap e.1 (e.2 :: r)) (gap last [])
def pool (es : List (Nat × CpInfo)) (last : Nat) : Array CpInfo := ⟨poolList es last⟩
def fileOf (pool : Array CpInfo) (this : Nat) (attrs : Array Attribute := #[]) (ms : Array MethodInfo := #[]) (fl : Nat := 33) (sup : Nat := 0) (ifs : Array Nat := #[]) (fds : Array FieldInfo := #[]) : ClassFile where
  minorVersion := 0
  majorVersion := 65
  constantPool := pool
  accessFlags := fl
  thisClass := this
  superClass := sup
  interfaces := ifs
  fields := fds
  methods := ms
  attributes := attrs
def plain (name : String) (sup : Option ClassId) : Class where
  name := name
  kind := .ordinary
  loader := none
  accessFlags := 33
  super := sup
  interfaces := #[]
  cf := none
  fields := #[]
  methods := #[]
  instanceTypes := #[]
  staticTypes := #[]
  resolved := #[]
  callSites := []
  init := .initialized
  statics := none
  mirror := none

def pool0 : Array CpInfo := pool [(5, u "<init>"), (0, u "()V"), (1, .class_ 10), (1, u "java/lang/Object")] 113

def k0c0 : Code := { maxStack := 0, maxLocals := 1, code := object_method_1_code, exceptionTable := #[], attributes := #[] }
def k0m0 : Method := { name := "<init>", desc := "()V", sig := { parameters := [], returnType := none }, accessFlags := 1, code := some k0c0 }
/-- java/lang/Object -/
def k0 : Class := { plain "java/lang/Object" none with
  accessFlags := 33
  interfaces := #[]
  cf := some (fileOf pool0 8 #[] #[{ accessFlags := 1, nameIndex := 5, descriptorIndex := 6, attributes := #[] }] 33 0 #[] #[])
  fields := #[]
  methods := #[k0m0]
  instanceTypes := #[]
  staticTypes := #[]
  resolved := Array.replicate 124 none
  statics := none }

def pool1 : Array CpInfo := pool [(2, .class_ 4), (1, u "java/lang/Object"), (0, u "<init>"), (0, u "()V"), (0, .integer 2147483647), (0, .integer 4500000), (0, .class_ 10), (0, u "com/example/lockstep/lockstep/bench/Measurement$Run"), (0, .methodref 9 12), (0, .nameAndType 5 13), (0, u "(IJZ)V"), (0, .methodref 9 15), (0, .nameAndType 16 17), (0, u "phasesPerSecond"), (0, u "()J"), (0, .methodref 19 20), (0, .class_ 21), (0, .nameAndType 22 23), (0, u "java/lang/Math"), (0, u "max"), (0, u "(JJ)J"), (0, .long 1000000000), (1, .class_ 27), (0, u "com/example/lockstep/lockstep/bench/RunPhasesPerSecondPinLaw"), (2, u "law"), (0, u "(IJI)Z")] 7

def k1m0 : Method := { name := "<init>", desc := "()V", sig := { parameters := [], returnType := none }, accessFlags := 1, code := none }
def k1c1 : Code := { maxStack := 6, maxLocals := 19, code := code, exceptionTable := #[], attributes := #[] }
def k1m1 : Method := { name := "law", desc := "(IJI)Z", sig := { parameters := [.int, .long, .int], returnType := some .boolean }, accessFlags := 9, code := some k1c1 }
/-- com/example/lockstep/lockstep/bench/RunPhasesPerSecondPinLaw -/
def k1 : Class := { plain "com/example/lockstep/lockstep/bench/RunPhasesPerSecondPinLaw" (some 0) with
  accessFlags := 49
  interfaces := #[]
  cf := some (fileOf pool1 26 #[] #[{ accessFlags := 1, nameIndex := 5, descriptorIndex := 6, attributes := #[] }, { accessFlags := 9, nameIndex := 30, descriptorIndex := 31, attributes := #[] }] 49 2 #[] #[])
  fields := #[]
  methods := #[k1m0, k1m1]
  instanceTypes := #[]
  staticTypes := #[]
  resolved := Array.replicate 39 none
  statics := none }

def pool2 : Array CpInfo := pool [(1, .methodref 2 3), (0, .class_ 4), (0, .nameAndType 5 6), (0, u "java/lang/Object"), (0, u "<init>"), (0, u "()V"), (0, .class_ 8), (0, u "java/lang/Record")] 13

def k2c0 : Code := { maxStack := 1, maxLocals := 1, code := jdk_30_method_1_code, exceptionTable := #[], attributes := #[] }
def k2m0 : Method := { name := "<init>", desc := "()V", sig := { parameters := [], returnType := none }, accessFlags := 4, code := some k2c0 }
/-- java/lang/Record -/
def k2 : Class := { plain "java/lang/Record" (some 0) with
  accessFlags := 1057
  interfaces := #[]
  cf := some (fileOf pool2 7 #[] #[{ accessFlags := 4, nameIndex := 5, descriptorIndex := 6, attributes := #[] }] 1057 2 #[] #[])
  fields := #[]
  methods := #[k2m0]
  instanceTypes := #[]
  staticTypes := #[]
  resolved := Array.replicate 22 none
  statics := none }

def pool3 : Array CpInfo := pool [(1, .methodref 2 3), (0, .class_ 4), (0, .nameAndType 5 6), (0, u "java/lang/Record"), (0, u "<init>"), (0, u "()V"), (0, .fieldref 8 9), (0, .class_ 10), (0, .nameAndType 11 12), (0, u "com/example/lockstep/lockstep/bench/Measurement$Run"), (0, u "rounds"), (0, u "I"), (0, .fieldref 8 14), (0, .nameAndType 15 16), (0, u "nanos"), (0, u "J"), (0, .fieldref 8 18), (0, .nameAndType 19 20), (0, u "checked"), (0, u "Z"), (0, .double 4741671816366391296), (1, .methodref 24 25), (0, .class_ 26), (0, .nameAndType 27 28), (0, u "java/lang/Math"), (0, u "max"), (0, u "(JJ)J"), (0, .methodref 24 30), (0, .nameAndType 31 32), (0, u "round"), (0, u "(D)J"), (12, u "(IJZ)V"), (3, u "phasesPerSecond"), (0, u "()J"), (7, .class_ 59), (0, u "com/example/lockstep/lockstep/bench/Measurement")] 21

def k3c0 : Code := { maxStack := 3, maxLocals := 5, code := prog_13_method_1_code, exceptionTable := #[], attributes := #[] }
def k3m0 : Method := { name := "<init>", desc := "(IJZ)V", sig := { parameters := [.int, .long, .boolean], returnType := none }, accessFlags := 0, code := some k3c0 }
def k3c1 : Code := { maxStack := 6, maxLocals := 1, code := prog_13_method_2_code, exceptionTable := #[], attributes := #[] }
def k3m1 : Method := { name := "phasesPerSecond", desc := "()J", sig := { parameters := [], returnType := some .long }, accessFlags := 0, code := some k3c1 }
/-- com/example/lockstep/lockstep/bench/Measurement$Run -/
def k3 : Class := { plain "com/example/lockstep/lockstep/bench/Measurement$Run" (some 2) with
  accessFlags := 48
  interfaces := #[]
  cf := some (fileOf pool3 8 #[.nestHost 58] #[{ accessFlags := 0, nameIndex := 5, descriptorIndex := 45, attributes := #[] }, { accessFlags := 0, nameIndex := 49, descriptorIndex := 50, attributes := #[] }] 48 2 #[] #[{ accessFlags := 18, nameIndex := 11, descriptorIndex := 12, attributes := #[] }, { accessFlags := 18, nameIndex := 15, descriptorIndex := 16, attributes := #[] }, { accessFlags := 18, nameIndex := 19, descriptorIndex := 20, attributes := #[] }])
  fields := #[{ name := "rounds", type := .int, accessFlags := 18, slot := 0, constantValue := 0 }, { name := "nanos", type := .long, accessFlags := 18, slot := 1, constantValue := 0 }, { name := "checked", type := .boolean, accessFlags := 18, slot := 2, constantValue := 0 }]
  methods := #[k3m0, k3m1]
  instanceTypes := #[.int, .long, .boolean]
  staticTypes := #[]
  resolved := Array.replicate 81 none
  statics := none }

def pool4 : Array CpInfo := pool [(1, .class_ 2), (0, u "java/lang/Math"), (1, .class_ 6), (1, u "java/lang/Object"), (0, u "<init>"), (0, u "()V"), (70, .methodref 80 81), (0, .class_ 82), (0, .nameAndType 83 84), (0, u "java/lang/Double"), (0, u "doubleToRawLongBits"), (0, u "(D)J"), (2, .long 9218868437227405312), (1, .long 1074), (1, .long 18446744073709551552), (1, .long 4503599627370495), (1, .long 4503599627370496), (2, .class_ 100), (1, u "java/lang/Math$RandomNumberGeneratorHolder"), (20, u "(JJ)J"), (50, u "negativeZeroFloatBits"), (0, u "J"), (2, u "negativeZeroDoubleBits"), (21, u "max"), (46, u "$assertionsDisabled"), (0, u "Z"), (91, u "twoToTheDoubleScaleDown"), (0, u "D"), (4, u "twoToTheDoubleScaleUp"), (9, u "E"), (3, u "PI"), (2, u "TAU"), (2, u "DEGREES_TO_RADIANS"), (0, u "RADIANS_TO_DEGREES"), (17, u "round")] 76

def k4m0 : Method := { name := "<init>", desc := "()V", sig := { parameters := [], returnType := none }, accessFlags := 2, code := none }
def k4c1 : Code := { maxStack := 4, maxLocals := 10, code := jdk_29_method_22_code, exceptionTable := #[], attributes := #[] }
def k4m1 : Method := { name := "round", desc := "(D)J", sig := { parameters := [.double], returnType := some .long }, accessFlags := 9, code := some k4c1 }
def k4c2 : Code := { maxStack := 4, maxLocals := 4, code := jdk_29_method_66_code, exceptionTable := #[], attributes := #[] }
def k4m2 : Method := { name := "max", desc := "(JJ)J", sig := { parameters := [.long, .long], returnType := some .long }, accessFlags := 9, code := some k4c2 }
/-- java/lang/Math -/
def k4 : Class := { plain "java/lang/Math" (some 0) with
  accessFlags := 49
  interfaces := #[]
  cf := some (fileOf pool4 1 #[.nestMembers #[98]] #[{ accessFlags := 2, nameIndex := 7, descriptorIndex := 8, attributes := #[] }, { accessFlags := 9, nameIndex := 383, descriptorIndex := 84, attributes := #[] }, { accessFlags := 9, nameIndex := 198, descriptorIndex := 121, attributes := #[] }] 49 4 #[] #[{ accessFlags := 25, nameIndex := 354, descriptorIndex := 339, attributes := #[] }, { accessFlags := 25, nameIndex := 358, descriptorIndex := 339, attributes := #[] }, { accessFlags := 25, nameIndex := 361, descriptorIndex := 339, attributes := #[] }, { accessFlags := 26, nameIndex := 364, descriptorIndex := 339, attributes := #[] }, { accessFlags := 26, nameIndex := 365, descriptorIndex := 339, attributes := #[] }, { accessFlags := 26, nameIndex := 172, descriptorIndex := 173, attributes := #[] }, { accessFlags := 26, nameIndex := 176, descriptorIndex := 173, attributes := #[] }, { accessFlags := 8, nameIndex := 344, descriptorIndex := 339, attributes := #[] }, { accessFlags := 8, nameIndex := 338, descriptorIndex := 339, attributes := #[] }, { accessFlags := 4120, nameIndex := 245, descriptorIndex := 246, attributes := #[] }])
  fields := #[{ name := "E", type := .double, accessFlags := 25, slot := 0, constantValue := 0 }, { name := "PI", type := .double, accessFlags := 25, slot := 1, constantValue := 0 }, { name := "TAU", type := .double, accessFlags := 25, slot := 2, constantValue := 0 }, { name := "DEGREES_TO_RADIANS", type := .double, accessFlags := 26, slot := 3, constantValue := 0 }, { name := "RADIANS_TO_DEGREES", type := .double, accessFlags := 26, slot := 4, constantValue := 0 }, { name := "negativeZeroFloatBits", type := .long, accessFlags := 26, slot := 5, constantValue := 0 }, { name := "negativeZeroDoubleBits", type := .long, accessFlags := 26, slot := 6, constantValue := 0 }, { name := "twoToTheDoubleScaleUp", type := .double, accessFlags := 8, slot := 7, constantValue := 0 }, { name := "twoToTheDoubleScaleDown", type := .double, accessFlags := 8, slot := 8, constantValue := 0 }, { name := "$assertionsDisabled", type := .boolean, accessFlags := 4120, slot := 9, constantValue := 0 }]
  methods := #[k4m0, k4m1, k4m2]
  instanceTypes := #[]
  staticTypes := #[.double, .double, .double, .double, .double, .long, .long, .double, .double, .boolean]
  resolved := Array.replicate 460 none
  statics := none }

def pool5 : Array CpInfo := pool [(1, .class_ 2), (0, u "java/io/Serializable"), (0, .class_ 4), (0, u "java/lang/Object")] 2

/-- java/io/Serializable -/
def k5 : Class := { plain "java/io/Serializable" (some 0) with
  accessFlags := 1537
  interfaces := #[]
  cf := some (fileOf pool5 1 #[] #[] 1537 3 #[] #[])
  fields := #[]
  methods := #[]
  instanceTypes := #[]
  staticTypes := #[]
  resolved := Array.replicate 7 none
  statics := none }

def pool6 : Array CpInfo := pool [(2, .class_ 4), (1, u "java/lang/Object"), (0, u "<init>"), (0, u "()V"), (1, .class_ 10), (1, u "java/lang/Number"), (2, .class_ 14), (0, u "java/io/Serializable"), (0, u "serialVersionUID"), (0, u "J")] 20

def k6m0 : Method := { name := "<init>", desc := "()V", sig := { parameters := [], returnType := none }, accessFlags := 1, code := none }
/-- java/lang/Number -/
def k6 : Class := { plain "java/lang/Number" (some 0) with
  accessFlags := 1057
  interfaces := #[5]
  cf := some (fileOf pool6 8 #[] #[{ accessFlags := 1, nameIndex := 5, descriptorIndex := 6, attributes := #[] }] 1057 2 #[13] #[{ accessFlags := 26, nameIndex := 15, descriptorIndex := 16, attributes := #[] }])
  fields := #[{ name := "serialVersionUID", type := .long, accessFlags := 26, slot := 0, constantValue := 0 }]
  methods := #[k6m0]
  instanceTypes := #[]
  staticTypes := #[.long]
  resolved := Array.replicate 37 none
  statics := none }

def pool7 : Array CpInfo := pool [(1, .class_ 2), (0, u "java/lang/Comparable"), (0, .class_ 4), (0, u "java/lang/Object")] 7

/-- java/lang/Comparable -/
def k7 : Class := { plain "java/lang/Comparable" (some 0) with
  accessFlags := 1537
  interfaces := #[]
  cf := some (fileOf pool7 1 #[] #[] 1537 3 #[] #[])
  fields := #[]
  methods := #[]
  instanceTypes := #[]
  staticTypes := #[]
  resolved := Array.replicate 12 none
  statics := none }

def pool8 : Array CpInfo := pool [(1, .class_ 2), (0, u "java/lang/constant/Constable"), (0, .class_ 4), (0, u "java/lang/Object")] 6

/-- java/lang/constant/Constable -/
def k8 : Class := { plain "java/lang/constant/Constable" (some 0) with
  accessFlags := 1537
  interfaces := #[]
  cf := some (fileOf pool8 1 #[] #[] 1537 3 #[] #[])
  fields := #[]
  methods := #[]
  instanceTypes := #[]
  staticTypes := #[]
  resolved := Array.replicate 11 none
  statics := none }

def pool9 : Array CpInfo := pool [(1, .class_ 2), (0, u "java/lang/constant/ConstantDesc"), (0, .class_ 4), (0, u "java/lang/Object")] 32

/-- java/lang/constant/ConstantDesc -/
def k9 : Class := { plain "java/lang/constant/ConstantDesc" (some 0) with
  accessFlags := 1537
  interfaces := #[]
  cf := some (fileOf pool9 1 #[] #[] 1537 3 #[] #[])
  fields := #[]
  methods := #[]
  instanceTypes := #[]
  staticTypes := #[]
  resolved := Array.replicate 37 none
  statics := none }

def pool10 : Array CpInfo := pool [(1, .class_ 2), (0, u "java/lang/Double"), (46, u "(D)J"), (64, .class_ 116), (1, u "java/lang/Number"), (3, u "value"), (0, u "D"), (14, u "doubleToRawLongBits"), (36, u "TYPE"), (0, u "Ljava/lang/Class;"), (0, .class_ 176), (0, u "java/lang/Comparable"), (0, .class_ 178), (0, u "java/lang/constant/Constable"), (0, .class_ 180), (0, u "java/lang/constant/ConstantDesc"), (0, u "POSITIVE_INFINITY"), (3, u "NEGATIVE_INFINITY"), (2, u "NaN"), (2, u "MAX_VALUE"), (0, u "MIN_NORMAL"), (0, u "MIN_VALUE"), (2, u "SIZE"), (0, u "I"), (1, u "PRECISION"), (1, u "MAX_EXPONENT"), (1, u "MIN_EXPONENT"), (1, u "BYTES"), (3, u "serialVersionUID"), (0, u "J")] 79

def k10m0 : Method := { name := "doubleToRawLongBits", desc := "(D)J", sig := { parameters := [.double], returnType := some .long }, accessFlags := 265, code := none }
/-- java/lang/Double -/
def k10 : Class := { plain "java/lang/Double" (some 6) with
  accessFlags := 49
  interfaces := #[7, 8, 9]
  cf := some (fileOf pool10 1 #[] #[{ accessFlags := 265, nameIndex := 136, descriptorIndex := 49, attributes := #[] }] 49 114 #[175, 177, 179] #[{ accessFlags := 25, nameIndex := 181, descriptorIndex := 121, attributes := #[] }, { accessFlags := 25, nameIndex := 185, descriptorIndex := 121, attributes := #[] }, { accessFlags := 25, nameIndex := 188, descriptorIndex := 121, attributes := #[] }, { accessFlags := 25, nameIndex := 191, descriptorIndex := 121, attributes := #[] }, { accessFlags := 25, nameIndex := 192, descriptorIndex := 121, attributes := #[] }, { accessFlags := 25, nameIndex := 193, descriptorIndex := 121, attributes := #[] }, { accessFlags := 25, nameIndex := 196, descriptorIndex := 197, attributes := #[] }, { accessFlags := 25, nameIndex := 199, descriptorIndex := 197, attributes := #[] }, { accessFlags := 25, nameIndex := 201, descriptorIndex := 197, attributes := #[] }, { accessFlags := 25, nameIndex := 203, descriptorIndex := 197, attributes := #[] }, { accessFlags := 25, nameIndex := 205, descriptorIndex := 197, attributes := #[] }, { accessFlags := 25, nameIndex := 173, descriptorIndex := 174, attributes := #[] }, { accessFlags := 18, nameIndex := 120, descriptorIndex := 121, attributes := #[] }, { accessFlags := 26, nameIndex := 209, descriptorIndex := 210, attributes := #[] }])
  fields := #[{ name := "POSITIVE_INFINITY", type := .double, accessFlags := 25, slot := 0, constantValue := 0 }, { name := "NEGATIVE_INFINITY", type := .double, accessFlags := 25, slot := 1, constantValue := 0 }, { name := "NaN", type := .double, accessFlags := 25, slot := 2, constantValue := 0 }, { name := "MAX_VALUE", type := .double, accessFlags := 25, slot := 3, constantValue := 0 }, { name := "MIN_NORMAL", type := .double, accessFlags := 25, slot := 4, constantValue := 0 }, { name := "MIN_VALUE", type := .double, accessFlags := 25, slot := 5, constantValue := 0 }, { name := "SIZE", type := .int, accessFlags := 25, slot := 6, constantValue := 0 }, { name := "PRECISION", type := .int, accessFlags := 25, slot := 7, constantValue := 0 }, { name := "MAX_EXPONENT", type := .int, accessFlags := 25, slot := 8, constantValue := 0 }, { name := "MIN_EXPONENT", type := .int, accessFlags := 25, slot := 9, constantValue := 0 }, { name := "BYTES", type := .int, accessFlags := 25, slot := 10, constantValue := 0 }, { name := "TYPE", type := (.object "java/lang/Class"), accessFlags := 25, slot := 11, constantValue := 0 }, { name := "value", type := .double, accessFlags := 18, slot := 0, constantValue := 0 }, { name := "serialVersionUID", type := .long, accessFlags := 26, slot := 12, constantValue := 0 }]
  methods := #[k10m0]
  instanceTypes := #[.double]
  staticTypes := #[.double, .double, .double, .double, .double, .double, .int, .int, .int, .int, .int, (.object "java/lang/Class"), .long]
  resolved := Array.replicate 290 none
  statics := none }

def pool11 : Array CpInfo := pool [(1, u "java/lang/Cloneable"), (0, .class_ 1), (0, u "java/lang/Object"), (0, .class_ 3)] 3

/-- java/lang/Cloneable -/
def k11 : Class := { plain "java/lang/Cloneable" (some 0) with
  accessFlags := 1537
  interfaces := #[]
  cf := some (fileOf pool11 2 #[] #[] 1537 4 #[] #[])
  fields := #[]
  methods := #[]
  instanceTypes := #[]
  staticTypes := #[]
  resolved := Array.replicate 8 none
  statics := none }

/-- the primitive byte -/
def k12 : Class := { plain "byte" none with kind := .primitive 'B', accessFlags := 0x411 }
/-- [B -/
def k13 : Class := { plain "[B" (some 0) with kind := .array 12 .byte, interfaces := #[11, 5], accessFlags := 1041 }

/-- the primitive int -/
def k14 : Class := { plain "int" none with kind := .primitive 'I', accessFlags := 0x411 }
/-- [I -/
def k15 : Class := { plain "[I" (some 0) with kind := .array 14 .int, interfaces := #[11, 5], accessFlags := 1041 }

def heap : Heap := #[]
def classes : Array Class := #[k0, k1, k2, k3, k4, k5, k6, k7, k8, k9, k10, k11, k12, k13, k14, k15]
def interned : List (Array UInt16 × Addr) := []
def slotsUsed : Nat := 0
def theMethod : MethodId := ⟨1, 1⟩
def args0 : Array Value := #[.int 5, .long 3, .int 2]
def aboutOver (below : List Frame) : State where
  vm := { classes := classes, interned := interned.toArray }
  heap := heap
  slotsUsed := slotsUsed
  threads := #[{ frames := .invoking theMethod args0 :: below }]
def below0 : List Frame := [.native { method := ⟨0, 0⟩, args := #[] }]
def about1 : State := aboutOver below0
def p0 : Program := .bare "" "" ""
def e0 : Env := launch0.env 0 0 0
theorem w_frames : about1.frames = Frame.invoking theMethod args0 :: below0 := rfl
set_option maxRecDepth 65536 in
theorem w_args : argsFit about1.vm theMethod args0 = true := by decide +kernel
set_option maxRecDepth 65536 in
theorem w_heap : heapFits about1 = true := by decide +kernel
set_option maxRecDepth 65536 in
theorem w_runnable : about1.curStatus? = some .runnable := by decide +kernel
set_option maxRecDepth 65536 in
theorem w_alone : about1.alone = true := by decide +kernel
set_option maxRecDepth 65536 in
theorem w_named : about1.methodNamed? x = some theMethod := by decide +kernel
set_option maxRecDepth 65536 in
theorem w_hears : about1.hears theMethod below0 = true := by decide +kernel
set_option maxRecDepth 65536 in
theorem w_ripe : about1.ripe theMethod args0 below0 = true := by decide +kernel
theorem w_running : about1.status = .running := rfl
set_option maxRecDepth 65536 in
theorem w_room : about1.hasRoom e0.platform room_1 = true :=
  launch0.hasRoom_least _ room_1 (by decide +kernel) (by decide +kernel) (by decide +kernel) (by decide +kernel) (by decide +kernel) (by decide +kernel)
theorem allAtoms_all (ts : List Jvm.Cond) (a : Array Jvm.Value) (st : Jvm.State) : (allAtoms ts).before a st = ts.all (fun c => c.before a st) := by
  induction ts with
  | nil => rfl
  | cons c t ih =>
    show (Jvm.Cond.and c (allAtoms t)).before a st = _
    rw [Jvm.Cond.before_and, ih, List.all_cons]
def words1 : List Jvm.Cond := Jvm.Cond.code x code maxLocals ret :: tables_1
/-- a 'code' word, met by the world's own term for the bytes: nothing is compared byte by byte -/
theorem code_word {y : MethodName} {bytes : ByteArray} {mx : Nat} {rt : Option FieldType} {a : Array Value} {s : State} {m : MethodId} {meth : Method} {c : Code} (h1 : s.methodNamed? y = some m) (h2 : s.vm.method? m = some meth) (h3 : meth.code = some c) (h4 : c.code = bytes)
    (h5 : (c.maxLocals == mx && c.exceptionTable.isEmpty && decide (c.maxStack ≤ mostOperands) && decide (meth.sig.returnType = rt) && !meth.locks && decide (parseMethodDescriptor y.desc = some meth.sig)) = true) : (Jvm.Cond.code y bytes mx rt).before a s = true := by
  simp only [Bool.and_eq_true, beq_iff_eq, Bool.not_eq_true', decide_eq_true_eq] at h5
  obtain ⟨⟨⟨⟨⟨g1, g2⟩, g3⟩, g4⟩, g5⟩, g6⟩ := h5
  simp [Cond.before, Cond.holds, Cond.value, h1, h2, h3, h4, g1, g2, g3, g4, g5, g6]
def isCode : Jvm.Cond → Bool
  | .code _ _ _ _ => true
  | _ => false
theorem all_split {L : List Jvm.Cond} {P : Jvm.Cond → Bool} (h1 : L.all (fun c => isCode c || P c) = true) (h2 : ∀ c ∈ L.filter isCode, P c = true) : L.all P = true := by
  refine List.all_eq_true.mpr fun c hc => ?_
  have h := List.all_eq_true.mp h1 c hc
  rcases Bool.eq_false_or_eq_true (isCode c) with hi | hi
  · exact h2 c (List.mem_filter.mpr ⟨hc, hi⟩)
  · simpa [hi] using h
set_option maxRecDepth 65536 in
theorem w_c0 : (Jvm.Cond.code x code maxLocals ret).before args0 about1 = true := code_word (m := ⟨1, 1⟩) (meth := k1m1) (c := k1c1) (by decide +kernel) rfl rfl rfl (by decide +kernel)
set_option maxRecDepth 65536 in
theorem w_c1 : (Jvm.Cond.code ({ cls := "com/example/lockstep/lockstep/bench/Measurement$Run", name := "<init>", desc := "(IJZ)V" } : Jvm.MethodName) prog_13_method_1_code (5 : Nat) (Option.none : Option Jvm.ClassFile.FieldType)).before args0 about1 = true := code_word (m := ⟨3, 0⟩) (meth := k3m0) (c := k3c0) (by decide +kernel) rfl rfl rfl (by decide +kernel)
set_option maxRecDepth 65536 in
theorem w_c2 : (Jvm.Cond.code ({ cls := "java/lang/Record", name := "<init>", desc := "()V" } : Jvm.MethodName) jdk_30_method_1_code (1 : Nat) (Option.none : Option Jvm.ClassFile.FieldType)).before args0 about1 = true := code_word (m := ⟨2, 0⟩) (meth := k2m0) (c := k2c0) (by decide +kernel) rfl rfl rfl (by decide +kernel)
set_option maxRecDepth 65536 in
theorem w_c3 : (Jvm.Cond.code ({ cls := "java/lang/Object", name := "<init>", desc := "()V" } : Jvm.MethodName) object_method_1_code (1 : Nat) (Option.none : Option Jvm.ClassFile.FieldType)).before args0 about1 = true := code_word (m := ⟨0, 0⟩) (meth := k0m0) (c := k0c0) (by decide +kernel) rfl rfl rfl (by decide +kernel)
set_option maxRecDepth 65536 in
theorem w_c4 : (Jvm.Cond.code ({ cls := "com/example/lockstep/lockstep/bench/Measurement$Run", name := "phasesPerSecond", desc := "()J" } : Jvm.MethodName) prog_13_method_2_code (1 : Nat) (Option.some Jvm.ClassFile.FieldType.long)).before args0 about1 = true := code_word (m := ⟨3, 1⟩) (meth := k3m1) (c := k3c1) (by decide +kernel) rfl rfl rfl (by decide +kernel)
set_option maxRecDepth 65536 in
theorem w_c5 : (Jvm.Cond.code ({ cls := "java/lang/Math", name := "max", desc := "(JJ)J" } : Jvm.MethodName) jdk_29_method_66_code (4 : Nat) (Option.some Jvm.ClassFile.FieldType.long)).before args0 about1 = true := code_word (m := ⟨4, 2⟩) (meth := k4m2) (c := k4c2) (by decide +kernel) rfl rfl rfl (by decide +kernel)
set_option maxRecDepth 65536 in
theorem w_c6 : (Jvm.Cond.code ({ cls := "java/lang/Math", name := "round", desc := "(D)J" } : Jvm.MethodName) jdk_29_method_22_code (10 : Nat) (Option.some Jvm.ClassFile.FieldType.long)).before args0 about1 = true := code_word (m := ⟨4, 1⟩) (meth := k4m1) (c := k4c1) (by decide +kernel) rfl rfl rfl (by decide +kernel)
def codes1 : List Jvm.Cond := [Jvm.Cond.code x code maxLocals ret, Jvm.Cond.code ({ cls := "com/example/lockstep/lockstep/bench/Measurement$Run", name := "<init>", desc := "(IJZ)V" } : Jvm.MethodName) prog_13_method_1_code (5 : Nat) (Option.none : Option Jvm.ClassFile.FieldType), Jvm.Cond.code ({ cls := "java/lang/Record", name := "<init>", desc := "()V" } : Jvm.MethodName) jdk_30_method_1_code (1 : Nat) (Option.none : Option Jvm.ClassFile.FieldType), Jvm.Cond.code ({ cls := "java/lang/Object", name := "<init>", desc := "()V" } : Jvm.MethodName) object_method_1_code (1 : Nat) (Option.none : Option Jvm.ClassFile.FieldType), Jvm.Cond.code ({ cls := "com/example/lockstep/lockstep/bench/Measurement$Run", name := "phasesPerSecond", desc := "()J" } : Jvm.MethodName) prog_13_method_2_code (1 : Nat) (Option.some Jvm.ClassFile.FieldType.long), Jvm.Cond.code ({ cls := "java/lang/Math", name := "max", desc := "(JJ)J" } : Jvm.MethodName) jdk_29_method_66_code (4 : Nat) (Option.some Jvm.ClassFile.FieldType.long), Jvm.Cond.code ({ cls := "java/lang/Math", name := "round", desc := "(D)J" } : Jvm.MethodName) jdk_29_method_22_code (10 : Nat) (Option.some Jvm.ClassFile.FieldType.long)]
set_option maxRecDepth 65536 in
theorem codes_eq : words1.filter isCode = codes1 := rfl
theorem w_codes : ∀ c ∈ words1.filter isCode, c.before args0 about1 = true := by
  rw [codes_eq]
  intro c hc
  simp only [codes1, List.mem_cons, List.not_mem_nil, or_false] at hc
  rcases hc with rfl | rfl | rfl | rfl | rfl | rfl | rfl
  · exact w_c0
  · exact w_c1
  · exact w_c2
  · exact w_c3
  · exact w_c4
  · exact w_c5
  · exact w_c6
set_option maxRecDepth 65536 in
theorem w_t1 : (words1.take 24).all (fun c => isCode c || c.before args0 about1) = true := by decide +kernel
set_option maxRecDepth 65536 in
theorem w_t2 : (words1.drop 24).all (fun c => isCode c || c.before args0 about1) = true := by decide +kernel
theorem w_tables : (allAtoms (Jvm.Cond.code x code maxLocals ret :: tables_1)).before args0 about1 = true := by
  rw [allAtoms_all]
  show words1.all (fun c => c.before args0 about1) = true
  refine all_split ?_ w_codes
  rw [← List.take_append_drop 24 words1, List.all_append, w_t1, w_t2]
  rfl
set_option maxRecDepth 65536 in
theorem w_case : (Jvm.Cond.and given_1 narrow_1).before args0 about1 = true := by decide +kernel
theorem w_applies : (headSpec (Jvm.Cond.code x code maxLocals ret :: tables_1) room_1).applies x e0.platform about1 = true :=
  (Spec.applies_iff w_frames).mpr ⟨w_running, w_runnable, w_alone, w_named, w_hears, w_ripe, w_room, w_tables⟩
theorem atStart : AtStart classFile x code maxLocals ret World_1 tables_1 room_1 Calls_1 rest_1 Pre_1 launch0 p0 e0 about1 theMethod args0 below0 :=
  ⟨lists_1, trivial, launch0.admits_env _ _ _, launch0.least_env, fairChoices_fair.cas, fairChoices_fair.clock, w_frames, w_args, w_heap, w_applies, trivial, trivial, w_case⟩
end start1
theorem witness_1 : WitnessClaimed_1 := ⟨start1.p0, start1.e0, start1.about1, start1.theMethod, start1.args0, start1.below0, start1.atStart⟩
end Jvm.Pilot.@@N@@
