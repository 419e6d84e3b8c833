import JvmDerived
import JvmDerived.Pilot.@@N@@Statement
import JvmDerived.Pilot.@@N@@Code
set_option linter.unusedVariables false
set_option linter.unusedSimpArgs false
@@BLOCK:NumsL.lean.txt@@
namespace Jvm.RoadKit
open Sem ClassFile Op Lib Jvm.Stand Jvm.Free Jvm.LawKit
section New
variable {p : Program} {l : Launch} {e : Env} {R : Room} {s : State} {m : MethodId} {args : Array Value} {below : List Frame} {meth : Method} {c : Code} {T : State} {locs : List Loc} {cells slots : Nat}
theorem retI (X : Stand p l e R s m args below meth c T locs cells slots) (hx : p.tables.exec = Jvm.exec) {pc : Nat} {Ls : Array Slot} {z : Int32} {rest : List Value} (hret : meth.sig.returnType = some .int) (hd : decode c.code pc = .ok (.ireturn, 1)) {fs : List Frame}
    (hl : ∀ (f : JFrame) (acts : List Action), f.method = m → f.locked = none → f.entered = [] → (doReturn e (T.setTop f) acts (some (.int z))).1 = T.setFrames fs) : Steps p.tables e below (T.setTop (mkF m pc Ls (.int z :: rest))) (T.setFrames fs) := by
  have hm' : T.vm.method? m = some meth := X.method'
  have hn : narrow .int (.int z) = .int z := rfl
  show Steps p.tables e below (T.setTop { method := m, pc := pc, locals := Ls, stack := _ :: rest, locked := none }) _
  jvm_step X.here [X.here.top, hx, hd, hm', hret, hn]
  first | (intro acts; rw [hl _ acts rfl rfl rfl]) | rw [hl _ _ rfl rfl rfl]
  exact Steps.refl _
theorem retD (X : Stand p l e R s m args below meth c T locs cells slots) (hx : p.tables.exec = Jvm.exec) {pc : Nat} {Ls : Array Slot} {z : UInt64} {rest : List Value} (hret : meth.sig.returnType = some .double) (hd : decode c.code pc = .ok (.dreturn, 1)) {fs : List Frame}
    (hl : ∀ (f : JFrame) (acts : List Action), f.method = m → f.locked = none → f.entered = [] → (doReturn e (T.setTop f) acts (some (.double z))).1 = T.setFrames fs) : Steps p.tables e below (T.setTop (mkF m pc Ls (.double z :: rest))) (T.setFrames fs) := by
  have hm' : T.vm.method? m = some meth := X.method'
  have hn : narrow .double (.double z) = .double z := rfl
  show Steps p.tables e below (T.setTop { method := m, pc := pc, locals := Ls, stack := _ :: rest, locked := none }) _
  jvm_step X.here [X.here.top, hx, hd, hm', hret, hn]
  first | (intro acts; rw [hl _ acts rfl rfl rfl]) | rw [hl _ _ rfl rfl rfl]
  exact Steps.refl _
end New
end Jvm.RoadKit
namespace Jvm.OwnFP
open Sem ClassFile Op Lib
theorem rem32_eq (x y : Int32) : x - x / y * y = x % y := Int32.toInt_inj.mp (by
  have a := (x % y).toInt_lt; have b := (x % y).le_toInt
  rw [Int32.toInt_mod] at a b ⊢
  rw [Int32.toInt_sub, Int32.toInt_mul, Int32.toInt_div, Int.bmod_mul_bmod, Int.sub_bmod_bmod, Int.mul_comm, ← Int.tmod_def]
  exact Jvm.Kit.bmod32 b a)
theorem cat1R {w : Value} (h : w.isRef = true) : w.category = 1 := by
  cases w <;> first | rfl | cases h
theorem rem64_eq (x y : Int64) : x - x / y * y = x % y := Int64.toInt_inj.mp (by rw [Jvm.Kit.i64_rem, Int64.toInt_mod])
theorem iremM {tb : Tables} [Ours tb] {e : Env} {below : List Frame} {T target : State} {m : MethodId} {c : Code} {g : JFrame} (h : At T m c below) (hx : tb.exec = Jvm.exec) (hg : g.method = m) {x y : Int32} {rest : List Value} (hd : decode c.code g.pc = .ok (.irem, 1)) (hs : g.stack = .int y :: .int x :: rest) (hy : y ≠ 0)
    (hr : Steps tb e below (T.setTop { g with pc := g.pc + 1, stack := .int (x % y) :: rest }) target) : Steps tb e below (T.setTop g) target := Jvm.Free.XS.irem h hx hg hd hs hy (by rw [rem32_eq]; exact hr)
theorem lremM {tb : Tables} [Ours tb] {e : Env} {below : List Frame} {T target : State} {m : MethodId} {c : Code} {g : JFrame} (h : At T m c below) (hx : tb.exec = Jvm.exec) (hg : g.method = m) {x y : Int64} {rest : List Value} (hd : decode c.code g.pc = .ok (.lrem, 1)) (hs : g.stack = .long y :: .long x :: rest) (hy : y ≠ 0)
    (hr : Steps tb e below (T.setTop { g with pc := g.pc + 1, stack := .long (x % y) :: rest }) target) : Steps tb e below (T.setTop g) target := Jvm.Free.XS.lrem h hx hg hd hs hy (by rw [rem64_eq]; exact hr)
end Jvm.OwnFP
namespace Jvm.OwnFP
open Jvm.FP.Core
/-! doubles by their values in units of 2^-1074: rounding is monotone, numbers of the format round to themselves -/
def zv (a : UInt64) : Int := zval b64 (val64 a)
/-- z (in units) is a number of the format -/
def Rep (z : Int) : Prop := ∃ V : Datum, Jvm.FP.Core.fits b64 V ∧ V ≠ .nan ∧ zval b64 V = z
abbrev O : Int := (one64 : Int)
theorem mmmc (a b c d : Int) : a * b * (c * d) = a * c * (b * d) := by rw [Int.mul_assoc, Int.mul_assoc, Int.mul_left_comm b]
theorem O_pos : 0 < O := by have := one64_pos; show (0 : Int) < (one64 : Int); omega
theorem qmax_b64 : b64.qmax = 971 := by decide +kernel
theorem signed_nat (n : Int) : signed (decide (n < 0)) n.natAbs = n := by
  unfold signed
  by_cases h : n < 0
  · simp only [h, decide_true, if_true]; omega
  · simp only [h, decide_false, Bool.false_eq_true, if_false]; omega
theorem rep_lt {n : Int} (k : Nat) (hn : n.natAbs < 9007199254740992) (hk : k ≤ 2000) : Rep (n * ((2 ^ k : Nat) : Int)) := by
  obtain ⟨c', q', h1, h2⟩ := round_exact good_b64 (decide (n < 0)) (c := n.natAbs) (q := (k : Int) - 1074) (Nat.lt_of_lt_of_le hn (by decide +kernel)) (by rw [qmin_b64]; omega) (by rw [qmax_b64]; omega)
  refine ⟨round b64 (.fin (decide (n < 0)) n.natAbs ((k : Int) - 1074)), round_fits good_b64 _, ?_, ?_⟩
  · rw [h1]; exact Datum.noConfusion
  · rw [h1]
    show signed (decide (n < 0)) (inUnits c' q' b64.qmin) = _
    rw [h2]
    unfold inUnits
    rw [qmin_b64, signed_mul, signed_nat, show ((k : Int) - 1074 - -1074).toNat = k by omega]
theorem rep_le {n : Int} (k : Nat) (hn : n.natAbs ≤ 9007199254740992) (hk : k ≤ 1999) : Rep (n * ((2 ^ k : Nat) : Int)) := by
  by_cases h : n.natAbs < 9007199254740992
  · exact rep_lt k h (by omega)
  · have h2 : n = 9007199254740992 ∨ n = -9007199254740992 := by omega
    have e : ∀ m : Int, (m * 2) * ((2 ^ k : Nat) : Int) = m * ((2 ^ (k + 1) : Nat) : Int) := fun m => by
      rw [Nat.pow_succ, Int.natCast_mul, Int.mul_assoc, Int.mul_comm 2]; rfl
    rcases h2 with rfl | rfl
    · rw [show (9007199254740992 : Int) = 4503599627370496 * 2 by decide, e]; exact rep_lt (k + 1) (by decide) (by omega)
    · rw [show (-9007199254740992 : Int) = -4503599627370496 * 2 by decide, e]; exact rep_lt (k + 1) (by decide) (by omega)
theorem pow_split (k j : Nat) : ((2 ^ (k + j) : Nat) : Int) = ((2 ^ k : Nat) : Int) * ((2 ^ j : Nat) : Int) := by rw [Nat.pow_add, Int.natCast_mul]
theorem pow_O (j : Nat) (hj : j ≤ 1074) : O = ((2 ^ j : Nat) : Int) * ((2 ^ (1074 - j) : Nat) : Int) := by
  rw [← pow_split, show j + (1074 - j) = 1074 by omega]; rfl
/-- a whole number -/
theorem rep_int {n : Int} (hn : n.natAbs ≤ 9007199254740992) : Rep (n * O) := by
  have := rep_le (n := n) 1074 hn (by decide)
  exact this
/-- n halves .. : n / 2^j -/
theorem rep_frac {n : Int} (j : Nat) (hj : j ≤ 1074) {z : Int} (hn : n.natAbs ≤ 9007199254740992) (h : z * ((2 ^ j : Nat) : Int) = n * O) : Rep z := by
  have h1 := rep_le (n := n) (1074 - j) hn (by omega)
  have hp : (0 : Int) < ((2 ^ j : Nat) : Int) := Int.natCast_pos.mpr (Nat.two_pow_pos j)
  have e : z = n * ((2 ^ (1074 - j) : Nat) : Int) := by
    refine Int.eq_of_mul_eq_mul_right (Int.ne_of_gt hp) ?_
    rw [h, pow_O j hj, Int.mul_assoc, Int.mul_comm ((2 ^ (1074 - j) : Nat) : Int)]
  rw [e]; exact h1
theorem Rep.neg {z : Int} (h : Rep z) : Rep (-z) := by
  obtain ⟨V, h1, h2, rfl⟩ := h
  exact ⟨negate V, negate_fits h1, negate_ne_nan h2, zval_negate b64 V⟩
theorem rep_zv {a : UInt64} (h : val64 a ≠ .nan) : Rep (zv a) := ⟨val64 a, val64_fits a, h, rfl⟩
theorem fin_of {a : UInt64} (h : DFin a) : ∃ s c q, val64 a = .fin s c q ∧ Jvm.FP.Core.fits b64 (.fin s c q) := by
  obtain ⟨s, c, q, h⟩ := h
  exact ⟨s, c, q, h, h ▸ val64_fits a⟩
/-! whole numbers -/
theorem l2d_le {n : Int64} {z : Int} (hz : Rep z) (h : n.toInt * O ≤ z) : zv (Jvm.FP.l2d n) ≤ z := by
  obtain ⟨V, fV, nV, rfl⟩ := hz
  show zval b64 (val64 (l2d n)) ≤ _
  rw [val64_l2d]
  refine zval_round_le good_b64 fV nV (e0 := b64.qmin) (Int.le_refl _) (by decide +kernel) ?_
  rw [ofInt_units b64, pow_qmin64, Int.sub_self]
  show _ ≤ _ * ((1 : Nat) : Int)
  rw [show ((1 : Nat) : Int) = 1 from rfl, Int.mul_one]; exact h
theorem l2d_ge {n : Int64} {z : Int} (hz : Rep z) (h : z ≤ n.toInt * O) : z ≤ zv (Jvm.FP.l2d n) := by
  obtain ⟨V, fV, nV, rfl⟩ := hz
  show _ ≤ zval b64 (val64 (l2d n))
  rw [val64_l2d]
  refine zval_round_ge good_b64 fV nV (e0 := b64.qmin) (Int.le_refl _) (by decide +kernel) ?_
  rw [ofInt_units b64, pow_qmin64, Int.sub_self]
  show _ * ((1 : Nat) : Int) ≤ _
  rw [show ((1 : Nat) : Int) = 1 from rfl, Int.mul_one]; exact h
theorem l2d_eq {n : Int64} (h : n.toInt.natAbs ≤ 9007199254740992) : zv (Jvm.FP.l2d n) = n.toInt * O :=
  Int.le_antisymm (l2d_le (rep_int h) (Int.le_refl _)) (l2d_ge (rep_int h) (Int.le_refl _))
theorem i2d_eq (n : Int32) : zv (Jvm.FP.i2d n) = n.toInt * O := DInt_zval (i2d_int n)
theorem l2dF (n : Int64) : DFin (Jvm.FP.l2d n) := l2d_fin n
theorem i2dF (n : Int32) : DFin (Jvm.FP.i2d n) := i2d_fin n
/-! products -/
theorem mul_le {a b : UInt64} {z : Int} (ha : DFin a) (hb : DFin b) (hz : Rep z) (h : zv a * zv b ≤ z * O) : zv (Jvm.FP.dmul a b) ≤ z := by
  obtain ⟨V, fV, nV, rfl⟩ := hz
  obtain ⟨s, c, q, ea, fa⟩ := fin_of ha
  obtain ⟨t, d, r, eb, fb⟩ := fin_of hb
  unfold zv at h ⊢
  rw [ea, eb] at h
  show zval b64 (val64 (dmul a b)) ≤ _
  rw [val64_dmul, ea, eb]
  obtain ⟨h1, h2, h3⟩ := product_units fa fb
  rw [h1]
  refine zval_round_le good_b64 fV nV (e0 := 2 * b64.qmin) (by rw [qmin_b64]; decide) h2 ?_
  rw [h3, signed_xor, show (b64.qmin - 2 * b64.qmin).toNat = (-b64.qmin).toNat by omega, pow_qmin64]
  exact h
theorem mul_ge {a b : UInt64} {z : Int} (ha : DFin a) (hb : DFin b) (hz : Rep z) (h : z * O ≤ zv a * zv b) : z ≤ zv (Jvm.FP.dmul a b) := by
  obtain ⟨V, fV, nV, rfl⟩ := hz
  obtain ⟨s, c, q, ea, fa⟩ := fin_of ha
  obtain ⟨t, d, r, eb, fb⟩ := fin_of hb
  unfold zv at h ⊢
  rw [ea, eb] at h
  show _ ≤ zval b64 (val64 (dmul a b))
  rw [val64_dmul, ea, eb]
  obtain ⟨h1, h2, h3⟩ := product_units fa fb
  rw [h1]
  refine zval_round_ge good_b64 fV nV (e0 := 2 * b64.qmin) (by rw [qmin_b64]; decide) h2 ?_
  rw [h3, signed_xor, show (b64.qmin - 2 * b64.qmin).toNat = (-b64.qmin).toNat by omega, pow_qmin64]
  exact h
theorem mul_eq {a b : UInt64} {z : Int} (ha : DFin a) (hb : DFin b) (hz : Rep z) (h : zv a * zv b = z * O) : zv (Jvm.FP.dmul a b) = z :=
  Int.le_antisymm (mul_le ha hb hz (Int.le_of_eq h)) (mul_ge ha hb hz (Int.le_of_eq h.symm))
/-! sums -/
theorem add_le {a b : UInt64} {z : Int} (ha : DFin a) (hb : DFin b) (hz : Rep z) (h : zv a + zv b ≤ z) : zv (Jvm.FP.dadd a b) ≤ z := by
  obtain ⟨V, fV, nV, rfl⟩ := hz
  show zval b64 (val64 (dadd a b)) ≤ _
  rw [val64_dadd]
  exact sum_le good_b64 ha hb (val64_fits a) (val64_fits b) fV nV h
theorem add_ge {a b : UInt64} {z : Int} (ha : DFin a) (hb : DFin b) (hz : Rep z) (h : z ≤ zv a + zv b) : z ≤ zv (Jvm.FP.dadd a b) := by
  obtain ⟨V, fV, nV, rfl⟩ := hz
  show _ ≤ zval b64 (val64 (dadd a b))
  rw [val64_dadd]
  exact sum_ge good_b64 ha hb (val64_fits a) (val64_fits b) fV nV h
theorem add_eq {a b : UInt64} {z : Int} (ha : DFin a) (hb : DFin b) (hz : Rep z) (h : zv a + zv b = z) : zv (Jvm.FP.dadd a b) = z :=
  Int.le_antisymm (add_le ha hb hz (Int.le_of_eq h)) (add_ge ha hb hz (Int.le_of_eq h.symm))
theorem fin_negate {b : UInt64} (hb : DFin b) : ∃ s c q, negate (val64 b) = .fin s c q := by
  obtain ⟨s, c, q, h⟩ := hb
  rw [h]; exact ⟨_, _, _, rfl⟩
theorem sub_le {a b : UInt64} {z : Int} (ha : DFin a) (hb : DFin b) (hz : Rep z) (h : zv a - zv b ≤ z) : zv (Jvm.FP.dsub a b) ≤ z := by
  obtain ⟨V, fV, nV, rfl⟩ := hz
  show zval b64 (val64 (dsub a b)) ≤ _
  rw [val64_dsub]
  refine sum_le good_b64 ha (fin_negate hb) (val64_fits a) (negate_fits (val64_fits b)) fV nV ?_
  rw [zval_negate]; unfold zv at h; omega
theorem sub_ge {a b : UInt64} {z : Int} (ha : DFin a) (hb : DFin b) (hz : Rep z) (h : z ≤ zv a - zv b) : z ≤ zv (Jvm.FP.dsub a b) := by
  obtain ⟨V, fV, nV, rfl⟩ := hz
  show _ ≤ zval b64 (val64 (dsub a b))
  rw [val64_dsub]
  refine sum_ge good_b64 ha (fin_negate hb) (val64_fits a) (negate_fits (val64_fits b)) fV nV ?_
  rw [zval_negate]; unfold zv at h; omega
theorem sub_eq {a b : UInt64} {z : Int} (ha : DFin a) (hb : DFin b) (hz : Rep z) (h : zv a - zv b = z) : zv (Jvm.FP.dsub a b) = z :=
  Int.le_antisymm (sub_le ha hb hz (Int.le_of_eq h)) (sub_ge ha hb hz (Int.le_of_eq h.symm))
/-! quotients -/
theorem ratio_le {s : Bool} {A B : Nat} {e e0 : Int} {V : Datum} (hB : 0 < B) (hV : Jvm.FP.Core.fits b64 V) (hn : V ≠ .nan) (h0 : e0 ≤ b64.qmin) (h0e : e0 ≤ e)
    (h : signed s (inUnits A e e0) ≤ zval b64 V * ((2 ^ (b64.qmin - e0).toNat * B : Nat) : Int)) : zval b64 (roundRatio b64 s A B e) ≤ zval b64 V := by
  have hle := zmag_roundRatio_le good_b64 (s := s) (A := A) hB hV hn h0 h0e
  have hge := zmag_roundRatio_ge good_b64 (s := s) (A := A) hB hV h0 h0e
  have hP : 0 < 2 ^ (b64.qmin - e0).toNat * B := Nat.mul_pos (Nat.two_pow_pos _) hB
  rw [Nat.mul_assoc] at hle hge
  unfold zval at h ⊢
  rw [sgn_roundRatio]
  rw [← signed_mul] at h
  have hz : zmag b64 V * (2 ^ (b64.qmin - e0).toNat * B) = 0 → zmag b64 V = 0 := by
    intro h
    rcases Nat.mul_eq_zero.mp h with h | h <;> omega
  generalize zmag b64 V * (2 ^ (b64.qmin - e0).toNat * B) = vP at *
  generalize sgn V = t at *
  cases s <;> cases t <;> simp only [signed, if_true, Bool.false_eq_true, if_false] at h ⊢
  · have := hle (by omega); omega
  · have := hle (by omega); have := hz (by omega); omega
  · omega
  · have := hge (by omega); omega
theorem signed_flip (s : Bool) (m : Nat) : signed (!s) m = -signed s m := by cases s <;> simp [signed]
theorem ratio_ge {s : Bool} {A B : Nat} {e e0 : Int} {V : Datum} (hB : 0 < B) (hV : Jvm.FP.Core.fits b64 V) (hn : V ≠ .nan) (h0 : e0 ≤ b64.qmin) (h0e : e0 ≤ e)
    (h : zval b64 V * ((2 ^ (b64.qmin - e0).toNat * B : Nat) : Int) ≤ signed s (inUnits A e e0)) : zval b64 V ≤ zval b64 (roundRatio b64 s A B e) := by
  have h1 := ratio_le (s := !s) (A := A) (e := e) (V := negate V) hB (negate_fits hV) (negate_ne_nan hn) h0 h0e (by
    rw [zval_negate, Int.neg_mul, signed_flip]; omega)
  rw [zval_negate, ← negate_roundRatio, zval_negate] at h1
  omega
theorem zval_fin (s : Bool) (c : Nat) (q : Int) : zval b64 (.fin s c q) = signed s c * ((2 ^ (q - b64.qmin).toNat : Nat) : Int) := by
  show signed s (inUnits c q b64.qmin) = _
  unfold inUnits; rw [signed_mul]
theorem pow_mul_eq {a b c d : Nat} (h : a + b = c + d) : (2 ^ a * 2 ^ b : Nat) = 2 ^ c * 2 ^ d := by rw [← Nat.pow_add, ← Nat.pow_add, h]
/-- how c·2^q / (d·2^r) ≤ z reads in units -/
theorem div_units {s : Bool} {c d : Nat} {q r : Int} (hq : b64.qmin ≤ q) (hr : b64.qmin ≤ r) :
    ∃ (x y : Nat), (signed s (inUnits c (q - r) (min b64.qmin (q - r)))) * ((2 ^ x : Nat) : Int) = (signed s c * ((2 ^ (q - b64.qmin).toNat : Nat) : Int)) * O * ((2 ^ y : Nat) : Int) ∧
      ∀ z : Int, (z * ((2 ^ (b64.qmin - min b64.qmin (q - r)).toNat * d : Nat) : Int)) * ((2 ^ x : Nat) : Int) = z * ((d : Int) * ((2 ^ (r - b64.qmin).toNat : Nat) : Int)) * ((2 ^ y : Nat) : Int) := by
  have hO : O = ((2 ^ (-b64.qmin).toNat : Nat) : Int) := by rw [pow_qmin64]
  have hqm : b64.qmin ≤ 0 := by rw [qmin_b64]; decide
  refine ⟨(r - 2 * b64.qmin + min b64.qmin (q - r)).toNat, (-(r - 2 * b64.qmin + min b64.qmin (q - r))).toNat, ?_, fun z => ?_⟩
  · unfold inUnits
    rw [signed_mul, hO]
    have e : (q - r - min b64.qmin (q - r)).toNat + (r - 2 * b64.qmin + min b64.qmin (q - r)).toNat = ((q - b64.qmin).toNat + (-b64.qmin).toNat) + (-(r - 2 * b64.qmin + min b64.qmin (q - r))).toNat := by omega
    have e2 := pow_mul_eq e
    rw [Nat.pow_add _ (q - b64.qmin).toNat] at e2
    have e3 : (((2 ^ (q - r - min b64.qmin (q - r)).toNat : Nat) : Int)) * ((2 ^ (r - 2 * b64.qmin + min b64.qmin (q - r)).toNat : Nat) : Int) = ((2 ^ (q - b64.qmin).toNat : Nat) : Int) * ((2 ^ (-b64.qmin).toNat : Nat) : Int) * ((2 ^ (-(r - 2 * b64.qmin + min b64.qmin (q - r))).toNat : Nat) : Int) := by
      rw [← Int.natCast_mul, ← Int.natCast_mul, ← Int.natCast_mul, e2]
    rw [Int.mul_assoc, e3]; simp only [Int.mul_assoc]
  · have e : (b64.qmin - min b64.qmin (q - r)).toNat + (r - 2 * b64.qmin + min b64.qmin (q - r)).toNat = (r - b64.qmin).toNat + (-(r - 2 * b64.qmin + min b64.qmin (q - r))).toNat := by omega
    have e2 := pow_mul_eq e
    have e3 : ((2 ^ (b64.qmin - min b64.qmin (q - r)).toNat * d : Nat) : Int) * ((2 ^ (r - 2 * b64.qmin + min b64.qmin (q - r)).toNat : Nat) : Int) = ((d : Int) * ((2 ^ (r - b64.qmin).toNat : Nat) : Int)) * ((2 ^ (-(r - 2 * b64.qmin + min b64.qmin (q - r))).toNat : Nat) : Int) := by
      rw [← Int.natCast_mul, ← Int.natCast_mul, ← Int.natCast_mul, Nat.mul_right_comm, e2, Nat.mul_comm d, Nat.mul_right_comm]
    rw [Int.mul_assoc, e3]; simp only [Int.mul_assoc]
theorem pos_fin {s : Bool} {c : Nat} {q : Int} (h : 0 < signed s c * ((2 ^ (q - b64.qmin).toNat : Nat) : Int)) : s = false ∧ 0 < c := by
  have hp : (0 : Int) < ((2 ^ (q - b64.qmin).toNat : Nat) : Int) := Int.natCast_pos.mpr (Nat.two_pow_pos _)
  have h1 : 0 < signed s c := by
    refine Int.lt_of_not_ge fun hle => ?_
    have := Int.mul_le_mul_of_nonneg_right hle (Int.le_of_lt hp)
    omega
  cases s
  · exact ⟨rfl, by simp only [signed, Bool.false_eq_true, if_false] at h1; omega⟩
  · simp only [signed, if_true] at h1; omega
theorem div_parts {a b : UInt64} (ha : DFin a) (hb : DFin b) (hp : 0 < zv b) : ∃ s c q d r, val64 (Jvm.FP.ddiv a b) = roundRatio b64 s c d (q - r) ∧ 0 < d ∧ b64.qmin ≤ q ∧ b64.qmin ≤ r ∧
    zv a = signed s c * ((2 ^ (q - b64.qmin).toNat : Nat) : Int) ∧ zv b = (d : Int) * ((2 ^ (r - b64.qmin).toNat : Nat) : Int) := by
  obtain ⟨s, c, q, ea, fa⟩ := fin_of ha
  obtain ⟨t, d, r, eb, fb⟩ := fin_of hb
  unfold zv at hp ⊢
  rw [eb, zval_fin] at hp
  obtain ⟨rfl, hd⟩ := pos_fin hp
  refine ⟨s, c, q, d, r, ?_, hd, fa.2.1, fb.2.1, ?_, ?_⟩
  · show val64 (ddiv a b) = _
    rw [val64_ddiv, ea, eb]
    show (if d = 0 then _ else roundRatio b64 (s != false) c d (q - r)) = _
    rw [if_neg (by omega)]
    cases s <;> rfl
  · rw [ea, zval_fin]
  · rw [eb, zval_fin]; rfl
theorem div_le {a b : UInt64} {z : Int} (ha : DFin a) (hb : DFin b) (hp : 0 < zv b) (hz : Rep z) (h : zv a * O ≤ z * zv b) : zv (Jvm.FP.ddiv a b) ≤ z := by
  obtain ⟨s, c, q, d, r, e1, hd, hq, hr, e2, e3⟩ := div_parts ha hb hp
  obtain ⟨V, fV, nV, rfl⟩ := hz
  unfold zv at h ⊢
  rw [e1]
  refine ratio_le hd fV nV (e0 := min b64.qmin (q - r)) (by omega) (by omega) ?_
  obtain ⟨x, y, u1, u2⟩ := div_units (s := s) (c := c) (d := d) hq hr
  refine Int.le_of_mul_le_mul_right (a := ((2 ^ x : Nat) : Int)) ?_ (Int.natCast_pos.mpr (Nat.two_pow_pos x))
  rw [u1, u2]
  refine Int.mul_le_mul_of_nonneg_right ?_ (Int.natCast_nonneg _)
  rw [← e2, ← e3]; exact h
theorem div_ge {a b : UInt64} {z : Int} (ha : DFin a) (hb : DFin b) (hp : 0 < zv b) (hz : Rep z) (h : z * zv b ≤ zv a * O) : z ≤ zv (Jvm.FP.ddiv a b) := by
  obtain ⟨s, c, q, d, r, e1, hd, hq, hr, e2, e3⟩ := div_parts ha hb hp
  obtain ⟨V, fV, nV, rfl⟩ := hz
  unfold zv at h ⊢
  rw [e1]
  refine ratio_ge hd fV nV (e0 := min b64.qmin (q - r)) (by omega) (by omega) ?_
  obtain ⟨x, y, u1, u2⟩ := div_units (s := s) (c := c) (d := d) hq hr
  refine Int.le_of_mul_le_mul_right (a := ((2 ^ x : Nat) : Int)) ?_ (Int.natCast_pos.mpr (Nat.two_pow_pos x))
  rw [u1, u2]
  refine Int.mul_le_mul_of_nonneg_right ?_ (Int.natCast_nonneg _)
  rw [← e2, ← e3]; exact h
theorem div_eq {a b : UInt64} {z : Int} (ha : DFin a) (hb : DFin b) (hp : 0 < zv b) (hz : Rep z) (h : zv a * O = z * zv b) : zv (Jvm.FP.ddiv a b) = z :=
  Int.le_antisymm (div_le ha hb hp hz (Int.le_of_eq h)) (div_ge ha hb hp hz (Int.le_of_eq h.symm))
/-! no NaNs, finite results -/
theorem nn_fin {a : UInt64} (h : DFin a) : Jvm.Free.Fl.NoNaN64 a := Jvm.Free.Fl.val64_no.mpr h.ne_nan
theorem nn_mul {a b : UInt64} (ha : DFin a) (hb : DFin b) : Jvm.Free.Fl.NoNaN64 (Jvm.FP.dmul a b) := Jvm.Free.Fl.noNaN64_no.mpr (dmul_out ha hb)
theorem nn_add {a b : UInt64} (ha : DFin a) (hb : DFin b) : Jvm.Free.Fl.NoNaN64 (Jvm.FP.dadd a b) := Jvm.Free.Fl.noNaN64_no.mpr (dadd_out ha.notNaN hb)
theorem nn_sub {a b : UInt64} (ha : DFin a) (hb : DFin b) : Jvm.Free.Fl.NoNaN64 (Jvm.FP.dsub a b) := Jvm.Free.Fl.noNaN64_no.mpr (dsub_out ha.notNaN hb)
theorem zv_zero {a : UInt64} (h : DZero a) : zv a = 0 := h.zval
theorem nn_div {a b : UInt64} (ha : DFin a) (hb : DFin b) (hz : zv b ≠ 0) : Jvm.Free.Fl.NoNaN64 (Jvm.FP.ddiv a b) := Jvm.Free.Fl.noNaN64_no.mpr (ddiv_out ha.notNaN hb fun q => hz (zv_zero q))
theorem nn_ne {a : UInt64} (h : Jvm.Free.Fl.NoNaN64 a) : val64 a ≠ .nan := Jvm.Free.Fl.val64_no.mp h
theorem top_big : 18446744073709551616 * one64 < b64.tails * 2 ^ (b64.exps - 2) := by decide +kernel
theorem zmag_zv (a : UInt64) : ((zmag b64 (val64 a) : Nat) : Int) = zv a ∨ ((zmag b64 (val64 a) : Nat) : Int) = -zv a := by
  unfold zv zval
  cases sgn (val64 a) <;> simp [signed]
theorem fin_of_zv {a : UInt64} (h : Jvm.Free.Fl.NoNaN64 a) (h1 : -(18446744073709551616 * O) ≤ zv a) (h2 : zv a ≤ 18446744073709551616 * O) : DFin a := by
  have hn := nn_ne h
  cases e : val64 a with
  | nan => exact absurd e hn
  | fin s c q => exact ⟨s, c, q, e⟩
  | inf s =>
    exfalso
    have hz : zmag b64 (val64 a) = b64.tails * 2 ^ (b64.exps - 2) := by rw [e]; rfl
    have ht := top_big
    have hc := zmag_zv a
    rw [hz] at hc
    generalize b64.tails * 2 ^ (b64.exps - 2) = T at *
    unfold O at h1 h2
    rcases hc with hc | hc <;> omega
/-! comparisons -/
theorem cmp_zv {a b : UInt64} (ha : Jvm.Free.Fl.NoNaN64 a) (hb : Jvm.Free.Fl.NoNaN64 b) : Jvm.FP.dcmp a b = some (compare (zv a) (zv b)) := dcmp_zval (nn_ne ha) (nn_ne hb)
theorem compare_if (x y : Int) : compare x y = if x < y then .lt else if x = y then .eq else .gt := rfl
open Jvm.Op in
theorem if_lt {a b : UInt64} (ha : Jvm.Free.Fl.NoNaN64 a) (hb : Jvm.Free.Fl.NoNaN64 b) (o : Jvm.ClassFile.CmpOp) : ifCond.holds .lt (cmpValue (Jvm.FP.dcmp a b) o) = decide (zv a < zv b) := by
  rw [cmp_zv ha hb, compare_if]; by_cases h1 : zv a < zv b
  · simp only [h1, if_true]; cases o <;> decide
  · by_cases h2 : zv a = zv b
    · simp only [h1, h2, Int.lt_irrefl, if_true, if_false]; cases o <;> decide
    · simp only [h1, h2, if_false]; cases o <;> decide
open Jvm.Op in
theorem if_ge {a b : UInt64} (ha : Jvm.Free.Fl.NoNaN64 a) (hb : Jvm.Free.Fl.NoNaN64 b) (o : Jvm.ClassFile.CmpOp) : ifCond.holds .ge (cmpValue (Jvm.FP.dcmp a b) o) = decide (zv b ≤ zv a) := by
  rw [cmp_zv ha hb, compare_if]; by_cases h1 : zv a < zv b
  · have : ¬ zv b ≤ zv a := by omega
    simp only [h1, this, if_true]; cases o <;> decide
  · have : zv b ≤ zv a := by omega
    by_cases h2 : zv a = zv b
    · simp only [h1, h2, this, Int.lt_irrefl, Int.le_refl, if_true, if_false]; cases o <;> decide
    · simp only [h1, h2, this, if_false]; cases o <;> decide
open Jvm.Op in
theorem if_gt {a b : UInt64} (ha : Jvm.Free.Fl.NoNaN64 a) (hb : Jvm.Free.Fl.NoNaN64 b) (o : Jvm.ClassFile.CmpOp) : ifCond.holds .gt (cmpValue (Jvm.FP.dcmp a b) o) = decide (zv b < zv a) := by
  rw [cmp_zv ha hb, compare_if]; by_cases h1 : zv a < zv b
  · have : ¬ zv b < zv a := by omega
    simp only [h1, this, if_true]; cases o <;> decide
  · by_cases h2 : zv a = zv b
    · simp only [h1, h2, Int.lt_irrefl, if_true, if_false]; cases o <;> decide
    · have : zv b < zv a := by omega
      simp only [h1, h2, this, if_false]; cases o <;> decide
open Jvm.Op in
theorem if_le {a b : UInt64} (ha : Jvm.Free.Fl.NoNaN64 a) (hb : Jvm.Free.Fl.NoNaN64 b) (o : Jvm.ClassFile.CmpOp) : ifCond.holds .le (cmpValue (Jvm.FP.dcmp a b) o) = decide (zv a ≤ zv b) := by
  rw [cmp_zv ha hb, compare_if]; by_cases h1 : zv a < zv b
  · have : zv a ≤ zv b := by omega
    simp only [h1, this, if_true]; cases o <;> decide
  · by_cases h2 : zv a = zv b
    · simp only [h1, h2, Int.lt_irrefl, Int.le_refl, if_true, if_false]; cases o <;> decide
    · have : ¬ zv a ≤ zv b := by omega
      simp only [h1, h2, this, if_false]; cases o <;> decide
open Jvm.Op in
theorem if_eq {a b : UInt64} (ha : Jvm.Free.Fl.NoNaN64 a) (hb : Jvm.Free.Fl.NoNaN64 b) (o : Jvm.ClassFile.CmpOp) : ifCond.holds .eq (cmpValue (Jvm.FP.dcmp a b) o) = decide (zv a = zv b) := by
  rw [cmp_zv ha hb, compare_if]; by_cases h1 : zv a < zv b
  · have : ¬ zv a = zv b := by omega
    simp only [h1, this, if_true]; cases o <;> decide
  · by_cases h2 : zv a = zv b
    · simp only [h2, Int.lt_irrefl, if_true, if_false]; cases o <;> decide
    · simp only [h1, h2, if_false]; cases o <;> decide
open Jvm.Op in
theorem if_ne {a b : UInt64} (ha : Jvm.Free.Fl.NoNaN64 a) (hb : Jvm.Free.Fl.NoNaN64 b) (o : Jvm.ClassFile.CmpOp) : ifCond.holds .ne (cmpValue (Jvm.FP.dcmp a b) o) = decide (¬ zv a = zv b) := by
  rw [cmp_zv ha hb, compare_if]; by_cases h1 : zv a < zv b
  · have : ¬ zv a = zv b := by omega
    simp only [h1, this, if_true]; cases o <;> decide
  · by_cases h2 : zv a = zv b
    · simp only [h2, Int.lt_irrefl, if_true, if_false]; cases o <;> decide
    · simp only [h1, h2, if_false]; cases o <;> decide
/-! longs and ints compared -/
open Jvm.Op Jvm.RoadKit in
theorem lw (cd : Jvm.ClassFile.Cond) (x y : Int64) : ifCond.holds cd (lcmpW x y) = (match cd with | .lt => decide (x.toInt < y.toInt) | .le => decide (x.toInt ≤ y.toInt) | .gt => decide (y.toInt < x.toInt) | .ge => decide (y.toInt ≤ x.toInt) | .eq => decide (x.toInt = y.toInt) | .ne => decide (¬ x.toInt = y.toInt)) := by
  unfold lcmpW
  simp only [gt_iff_lt, Int64.lt_iff_toInt_lt, ← Int64.toInt_inj]
  by_cases h1 : y.toInt < x.toInt
  · rw [if_pos h1]
    cases cd <;> simp only [h1, show ¬ x.toInt < y.toInt by omega, show ¬ x.toInt ≤ y.toInt by omega, show y.toInt ≤ x.toInt by omega, show ¬ x.toInt = y.toInt by omega] <;> decide
  · rw [if_neg h1]
    by_cases h2 : x.toInt = y.toInt
    · rw [if_pos h2, h2]
      cases cd <;> simp only [Int.lt_irrefl, Int.le_refl] <;> decide
    · rw [if_neg h2]
      cases cd <;> simp only [h1, h2, show x.toInt < y.toInt by omega, show x.toInt ≤ y.toInt by omega, show ¬ y.toInt ≤ x.toInt by omega] <;> decide
theorem i0_iff (x : Int32) : x = 0 ↔ x.toInt = 0 := by rw [← Int32.toInt_inj]; rfl
open Jvm.Op in
theorem iw (cd : Jvm.ClassFile.Cond) (x : Int32) : ifCond.holds cd x = (match cd with | .lt => decide (x.toInt < 0) | .le => decide (x.toInt ≤ 0) | .gt => decide (0 < x.toInt) | .ge => decide (0 ≤ x.toInt) | .eq => decide (x.toInt = 0) | .ne => decide (¬ x.toInt = 0)) := by
  have e0 : (0 : Int32).toInt = 0 := by decide
  cases cd <;> simp only [ifCond.holds, gt_iff_lt, ge_iff_le, Int32.lt_iff_toInt_lt, Int32.le_iff_toInt_le, e0]
  · by_cases h : x = 0
    · subst h; decide
    · have h' : ¬ x.toInt = 0 := fun q => h ((i0_iff x).mpr q)
      simp [h, h']
  · by_cases h : x = 0
    · subst h; decide
    · have h' : ¬ x.toInt = 0 := fun q => h ((i0_iff x).mpr q)
      simp [h, h']
end Jvm.OwnFP
namespace Jvm.OwnFP
open Jvm.FP.Core
/-! a long divided by a power of two -/
def P (k : Nat) : Int := ((2 ^ (1074 - k) : Nat) : Int)
theorem P_pos (k : Nat) : 0 < P k := Int.natCast_pos.mpr (Nat.two_pow_pos _)
theorem P_O {k : Nat} (hk : k ≤ 1074) : ((2 ^ k : Nat) : Int) * P k = O := (pow_O k hk).symm
theorem rep_P {m : Int} (k : Nat) (hm : m.natAbs ≤ 9007199254740992) : Rep (m * P k) := rep_le (1074 - k) hm (by omega)
theorem q_le {x : Int64} {b : UInt64} {k : Nat} (hk : k ≤ 1000) (hF : DFin b) (hb : zv b = ((2 ^ k : Nat) : Int) * O) {m : Int} (hm : m.natAbs ≤ 9007199254740992) (h : x.toInt ≤ m) : zv (Jvm.FP.ddiv (Jvm.FP.l2d x) b) ≤ m * P k := by
  have hO := O_pos
  have h2 : (0 : Int) < ((2 ^ k : Nat) : Int) := Int.natCast_pos.mpr (Nat.two_pow_pos _)
  refine div_le (l2dF x) hF (by rw [hb]; exact Int.mul_pos h2 hO) (rep_P k hm) ?_
  have h1 : zv (Jvm.FP.l2d x) ≤ m * O := l2d_le (rep_int hm) (Int.mul_le_mul_of_nonneg_right h (Int.le_of_lt hO))
  rw [hb, ← Int.mul_assoc]
  refine Int.mul_le_mul_of_nonneg_right ?_ (Int.le_of_lt hO)
  rw [Int.mul_assoc, Int.mul_comm (P k), P_O (by omega)]
  exact h1
theorem q_ge {x : Int64} {b : UInt64} {k : Nat} (hk : k ≤ 1000) (hF : DFin b) (hb : zv b = ((2 ^ k : Nat) : Int) * O) {m : Int} (hm : m.natAbs ≤ 9007199254740992) (h : m ≤ x.toInt) : m * P k ≤ zv (Jvm.FP.ddiv (Jvm.FP.l2d x) b) := by
  have hO := O_pos
  have h2 : (0 : Int) < ((2 ^ k : Nat) : Int) := Int.natCast_pos.mpr (Nat.two_pow_pos _)
  refine div_ge (l2dF x) hF (by rw [hb]; exact Int.mul_pos h2 hO) (rep_P k hm) ?_
  have h1 : m * O ≤ zv (Jvm.FP.l2d x) := l2d_ge (rep_int hm) (Int.mul_le_mul_of_nonneg_right h (Int.le_of_lt hO))
  rw [hb, ← Int.mul_assoc]
  refine Int.mul_le_mul_of_nonneg_right ?_ (Int.le_of_lt hO)
  rw [Int.mul_assoc, Int.mul_comm (P k), P_O (by omega)]
  exact h1
/-- the quotient against a whole number -/
theorem q_cmp {x : Int64} {b : UInt64} {k : Nat} (hk : k ≤ 1000) (hF : DFin b) (hb : zv b = ((2 ^ k : Nat) : Int) * O) {B m : Int} (hm : m = B * ((2 ^ k : Nat) : Int)) (hm1 : m.natAbs < 9007199254740992) :
    (zv (Jvm.FP.ddiv (Jvm.FP.l2d x) b) ≤ B * O ↔ x.toInt ≤ m) ∧ (B * O ≤ zv (Jvm.FP.ddiv (Jvm.FP.l2d x) b) ↔ m ≤ x.toInt) := by
  have e : B * O = m * P k := by rw [hm, Int.mul_assoc, P_O (by omega)]
  have hP := P_pos k
  rw [e]
  refine ⟨⟨fun h => Int.not_lt.mp fun hl => ?_, fun h => q_le hk hF hb (by omega) h⟩, ⟨fun h => Int.not_lt.mp fun hl => ?_, fun h => q_ge hk hF hb (by omega) h⟩⟩
  · have := q_ge hk hF hb (x := x) (m := m + 1) (by omega) (by omega)
    rw [Int.add_mul] at this; omega
  · have := q_le hk hF hb (x := x) (m := m - 1) (by omega) (by omega)
    rw [Int.sub_mul] at this; omega
theorem neg_zv (a : UInt64) : zv (Jvm.FP.dneg a) = -zv a := by
  unfold zv; rw [Jvm.FP.val64_dneg, zval_negate]
theorem nn_neg {a : UInt64} (h : Jvm.Free.Fl.NoNaN64 a) : Jvm.Free.Fl.NoNaN64 (Jvm.FP.dneg a) := by
  refine Jvm.Free.Fl.val64_no.mpr ?_
  rw [Jvm.FP.val64_dneg]; exact negate_ne_nan (nn_ne h)
theorem zv_lit {a : UInt64} (z : Int) (h : zv a = z) : zv a = z := h
theorem zv_d0 : zv Jvm.FP.dconst0 = 0 := by decide +kernel
theorem zv_d1 : zv Jvm.FP.dconst1 = O := by decide +kernel
theorem nn_d0 : Jvm.Free.Fl.NoNaN64 Jvm.FP.dconst0 := by unfold Jvm.Free.Fl.NoNaN64; decide
theorem nn_d1 : Jvm.Free.Fl.NoNaN64 Jvm.FP.dconst1 := by unfold Jvm.Free.Fl.NoNaN64; decide
end Jvm.OwnFP
namespace Jvm.Pilot.@@N@@
open Jvm Jvm.ClassFile Sem Op Lib Jvm.Free Jvm.Stand Jvm.LawKit Jvm.RoadKit Bundle Jvm.Pilot.@@N@@.Jvm.D
def j3_8_s0 (d0 : UInt64) : Int32 := if ifCond.holds .gt (cmpValue (FP.dcmp (d0 &&& 0x7fffffffffffffff) (9218868437227405311 : UInt64)) .g) = true then (0 : Int32) else (1 : Int32)
def r5 (w_x1_a0 : UInt64) (w_x0_a0 : UInt64) (w_y1_a0 : UInt64) (w_y0_a0 : UInt64) : UInt64 := (FP.dmul (FP.dsub w_x1_a0 w_x0_a0) (FP.dsub w_y1_a0 w_y0_a0))
def v0_7 (p0 : Int32) (p1 : Int32) (p2 : Int32) (p3 : Int32) (p4 : Int32) : Int64 := (((p2 &&& (67108863 : Int32)).toInt64) + (1 : Int64))
def v0_16 (p0 : Int32) (p1 : Int32) (p2 : Int32) (p3 : Int32) (p4 : Int32) : Int64 := (((p3 &&& (67108863 : Int32)).toInt64) + (1 : Int64))
def j0_22_s0 (p0 : Int32) (p1 : Int32) (p2 : Int32) (p3 : Int32) (p4 : Int32) : Int32 := if ifCond.holds .eq (p4 &&& (1 : Int32)) = true then (0 : Int32) else (1 : Int32)
def j0_34_s0 (p0 : Int32) (p1 : Int32) (p2 : Int32) (p3 : Int32) (p4 : Int32) : UInt64 := if ifCond.holds .eq (j0_22_s0 p0 p1 p2 p3 p4) = true then FP.dconst1 else (4598175219545276416 : UInt64)
def v0_51 (p0 : Int32) (p1 : Int32) (p2 : Int32) (p3 : Int32) (p4 : Int32) : UInt64 := (FP.dmul (FP.i2d p0) (j0_34_s0 p0 p1 p2 p3 p4))
def v0_58 (p0 : Int32) (p1 : Int32) (p2 : Int32) (p3 : Int32) (p4 : Int32) : UInt64 := (FP.dmul (FP.i2d p1) (j0_34_s0 p0 p1 p2 p3 p4))
def v0_69 (p0 : Int32) (p1 : Int32) (p2 : Int32) (p3 : Int32) (p4 : Int32) : UInt64 := (FP.dmul (FP.l2d ((p0.toInt64) + (v0_7 p0 p1 p2 p3 p4))) (j0_34_s0 p0 p1 p2 p3 p4))
def v0_80 (p0 : Int32) (p1 : Int32) (p2 : Int32) (p3 : Int32) (p4 : Int32) : UInt64 := (FP.dmul (FP.l2d ((p1.toInt64) + (v0_16 p0 p1 p2 p3 p4))) (j0_34_s0 p0 p1 p2 p3 p4))
def v0_104 (p0 : Int32) (p1 : Int32) (p2 : Int32) (p3 : Int32) (p4 : Int32) : UInt64 := (r5 (v0_69 p0 p1 p2 p3 p4) (v0_51 p0 p1 p2 p3 p4) (v0_80 p0 p1 p2 p3 p4) (v0_58 p0 p1 p2 p3 p4))
def v0_118 (p0 : Int32) (p1 : Int32) (p2 : Int32) (p3 : Int32) (p4 : Int32) : UInt64 := (FP.dmul (FP.dmul (FP.l2d ((v0_7 p0 p1 p2 p3 p4) * (v0_16 p0 p1 p2 p3 p4))) (j0_34_s0 p0 p1 p2 p3 p4)) (j0_34_s0 p0 p1 p2 p3 p4))
def j0_132_s0 (p0 : Int32) (p1 : Int32) (p2 : Int32) (p3 : Int32) (p4 : Int32) : Int32 := if ifCond.holds .le (cmpValue (FP.dcmp (v0_104 p0 p1 p2 p3 p4) FP.dconst0) .l) = true then (0 : Int32) else (1 : Int32)
def j0_125_s0 (p0 : Int32) (p1 : Int32) (p2 : Int32) (p3 : Int32) (p4 : Int32) : Int32 := if ifCond.holds .ne (cmpValue (FP.dcmp (v0_104 p0 p1 p2 p3 p4) (v0_118 p0 p1 p2 p3 p4)) .l) = true then (0 : Int32) else (j0_132_s0 p0 p1 p2 p3 p4)
section Own
open Jvm.OwnFP Jvm.FP.Core
theorem own_PO {k : Nat} (hk : k ≤ 2) : P k ≤ O := by
  have h := P_O (k := k) (by omega)
  have hp := P_pos k
  have h2 : 1 ≤ ((2 ^ k : Nat) : Int) := by have := Nat.two_pow_pos k; omega
  have := Int.mul_le_mul_of_nonneg_right h2 (Int.le_of_lt hp)
  omega
theorem own_fn {x : UInt64} {n : Int} {k : Nat} (hk : k ≤ 2) (nn : Jvm.Free.Fl.NoNaN64 x) (h : zv x = n * P k) (hn : n.natAbs ≤ 9007199254740992) : DFin x := by
  have hp := P_pos k; have hq := own_PO hk
  have u1 : n * P k ≤ 9007199254740992 * P k := Int.mul_le_mul_of_nonneg_right (by omega) (Int.le_of_lt hp)
  have u2 : -9007199254740992 * P k ≤ n * P k := Int.mul_le_mul_of_nonneg_right (by omega) (Int.le_of_lt hp)
  exact fin_of_zv nn (by omega) (by omega)
/-- a double that is n / 2^k -/
def own_S (x : UInt64) (n : Int) (k : Nat) : Prop := DFin x ∧ zv x = n * P k
theorem own_mul {x s : UInt64} {n : Int} {k : Nat} (hk : k ≤ 2) (hx : DFin x) (zx : zv x = n * O) (hn : n.natAbs ≤ 9007199254740992) (hs : DFin s) (zs : zv s = P k) : own_S (FP.dmul x s) n k := by
  have e := mul_eq (z := n * P k) hx hs (rep_P k hn) (by rw [zx, zs, Int.mul_right_comm])
  exact ⟨own_fn hk (nn_mul hx hs) e hn, e⟩
theorem own_sub {x y : UInt64} {n m : Int} {k : Nat} (hk : k ≤ 2) (hx : own_S x n k) (hy : own_S y m k) (hn : (n - m).natAbs ≤ 9007199254740992) : own_S (FP.dsub x y) (n - m) k := by
  have e := sub_eq (z := (n - m) * P k) hx.1 hy.1 (rep_P k hn) (by rw [hx.2, hy.2, Int.sub_mul])
  exact ⟨own_fn hk (nn_sub hx.1 hy.1) e hn, e⟩
theorem own_PP {k : Nat} (hk : k = 0 ∨ k = 2) : P k * P k = P (2 * k) * O := by
  rcases hk with rfl | rfl <;> decide +kernel
theorem own_P4 {k : Nat} (hk : k = 0 ∨ k = 2) : P (2 * k) ≤ O ∧ 0 < P (2 * k) := by
  rcases hk with rfl | rfl <;> decide +kernel
section V
variable (p0 p1 p2 p3 p4 : Int32)
theorem own_s : ∃ k : Nat, (k = 0 ∨ k = 2) ∧ DFin (j0_34_s0 p0 p1 p2 p3 p4) ∧ zv (j0_34_s0 p0 p1 p2 p3 p4) = P k := by
  unfold j0_34_s0
  split
  · exact ⟨0, Or.inl rfl, (fin_bits _).mpr (by decide +kernel), by decide +kernel⟩
  · exact ⟨2, Or.inr rfl, (fin_bits _).mpr (by decide +kernel), by decide +kernel⟩
theorem own_sz (p : Int32) : 1 ≤ ((p &&& (67108863 : Int32)).toInt64 + (1 : Int64)).toInt ∧ ((p &&& (67108863 : Int32)).toInt64 + (1 : Int64)).toInt ≤ 67108864 := by
  have h : (p &&& (67108863 : Int32)).toInt = p.toInt % 2 ^ 26 := Jvm.Kit.i32_mask p 67108863 (k := 26) (by decide) (by decide)
  have e : ((p &&& (67108863 : Int32)).toInt64 + (1 : Int64)).toInt = (p &&& (67108863 : Int32)).toInt + 1 := by
    rw [Jvm.Kit.i64_add] <;> rw [Int32.toInt_toInt64, show (1 : Int64).toInt = 1 by decide] <;> omega
  rw [e, h]; omega
theorem own_w : 1 ≤ (v0_7 p0 p1 p2 p3 p4).toInt ∧ (v0_7 p0 p1 p2 p3 p4).toInt ≤ 67108864 := own_sz p2
theorem own_h : 1 ≤ (v0_16 p0 p1 p2 p3 p4).toInt ∧ (v0_16 p0 p1 p2 p3 p4).toInt ≤ 67108864 := own_sz p3
theorem own_sum (p : Int32) {w : Int64} (h : 1 ≤ w.toInt ∧ w.toInt ≤ 67108864) : (p.toInt64 + w).toInt = p.toInt + w.toInt ∧ (p.toInt + w.toInt).natAbs ≤ 2214592512 := by
  have b1 := Int32.le_toInt p; have b2 := Int32.toInt_lt p
  refine ⟨?_, by omega⟩
  rw [Jvm.Kit.i64_add] <;> rw [Int32.toInt_toInt64] <;> omega
/-- all the numbers at once -/
theorem own_all : ∃ k : Nat, (k = 0 ∨ k = 2) ∧ DFin (j0_34_s0 p0 p1 p2 p3 p4) ∧ zv (j0_34_s0 p0 p1 p2 p3 p4) = P k ∧
    own_S (v0_51 p0 p1 p2 p3 p4) p0.toInt k ∧ own_S (v0_58 p0 p1 p2 p3 p4) p1.toInt k ∧
    own_S (v0_69 p0 p1 p2 p3 p4) (p0.toInt + (v0_7 p0 p1 p2 p3 p4).toInt) k ∧ own_S (v0_80 p0 p1 p2 p3 p4) (p1.toInt + (v0_16 p0 p1 p2 p3 p4).toInt) k := by
  obtain ⟨k, hk, hF, hZ⟩ := own_s p0 p1 p2 p3 p4
  have k2 : k ≤ 2 := by omega
  have w := own_w p0 p1 p2 p3 p4; have h := own_h p0 p1 p2 p3 p4
  have s1 := own_sum p0 w; have s2 := own_sum p1 h
  have a1 := Int32.le_toInt p0; have a2 := Int32.toInt_lt p0
  have a3 := Int32.le_toInt p1; have a4 := Int32.toInt_lt p1
  exact ⟨k, hk, hF, hZ, own_mul k2 (i2dF p0) (i2d_eq p0) (by omega) hF hZ, own_mul k2 (i2dF p1) (i2d_eq p1) (by omega) hF hZ,
    own_mul k2 (l2dF _) (by rw [l2d_eq (by omega), s1.1]) (by omega) hF hZ, own_mul k2 (l2dF _) (by rw [l2d_eq (by omega), s2.1]) (by omega) hF hZ⟩
theorem own_x0 : DFin (v0_51 p0 p1 p2 p3 p4) := by obtain ⟨k, -, -, -, h, -⟩ := own_all p0 p1 p2 p3 p4; exact h.1
theorem own_y0 : DFin (v0_58 p0 p1 p2 p3 p4) := by obtain ⟨k, -, -, -, -, h, -⟩ := own_all p0 p1 p2 p3 p4; exact h.1
theorem own_x1 : DFin (v0_69 p0 p1 p2 p3 p4) := by obtain ⟨k, -, -, -, -, -, h, -⟩ := own_all p0 p1 p2 p3 p4; exact h.1
theorem own_y1 : DFin (v0_80 p0 p1 p2 p3 p4) := by obtain ⟨k, -, -, -, -, -, -, h⟩ := own_all p0 p1 p2 p3 p4; exact h.1
theorem own_hn50 : type_of% (nn_fin (own_x0 p0 p1 p2 p3 p4)) := nn_fin (own_x0 p0 p1 p2 p3 p4)
theorem own_hn57 : type_of% (nn_fin (own_y0 p0 p1 p2 p3 p4)) := nn_fin (own_y0 p0 p1 p2 p3 p4)
theorem own_hn68 : type_of% (nn_fin (own_x1 p0 p1 p2 p3 p4)) := nn_fin (own_x1 p0 p1 p2 p3 p4)
theorem own_hn79 : type_of% (nn_fin (own_y1 p0 p1 p2 p3 p4)) := nn_fin (own_y1 p0 p1 p2 p3 p4)
theorem own_hn1_5_94 : type_of% (nn_fin (own_x0 p0 p1 p2 p3 p4)) := nn_fin (own_x0 p0 p1 p2 p3 p4)
theorem own_hn1_12_94 : type_of% (nn_fin (own_y0 p0 p1 p2 p3 p4)) := nn_fin (own_y0 p0 p1 p2 p3 p4)
theorem own_hn1_20_94 : type_of% (nn_fin (own_x1 p0 p1 p2 p3 p4)) := nn_fin (own_x1 p0 p1 p2 p3 p4)
theorem own_hn1_28_94 : type_of% (nn_fin (own_y1 p0 p1 p2 p3 p4)) := nn_fin (own_y1 p0 p1 p2 p3 p4)
theorem own_isfin {d : UInt64} (h : DFin d) : j3_8_s0 d = 1 := by
  have e := Jvm.Free.Fl.shapeLe (FP.dcmp (d &&& 0x7fffffffffffffff) Jvm.Free.Fl.maxD)
  rw [if_pos ((Jvm.Free.Fl.le_max_iff (nn_fin h)).mpr (Jvm.Free.Fl.fin64_core.mpr h))] at e
  exact e
theorem own_hc8_94 : ifCond.holds .eq (nar .boolean (j3_8_s0 (v0_51 p0 p1 p2 p3 p4))) = false := by rw [own_isfin (own_x0 p0 p1 p2 p3 p4)]; decide
theorem own_hc15_94 : ifCond.holds .eq (nar .boolean (j3_8_s0 (v0_58 p0 p1 p2 p3 p4))) = false := by rw [own_isfin (own_y0 p0 p1 p2 p3 p4)]; decide
theorem own_hc23_94 : ifCond.holds .eq (nar .boolean (j3_8_s0 (v0_69 p0 p1 p2 p3 p4))) = false := by rw [own_isfin (own_x1 p0 p1 p2 p3 p4)]; decide
theorem own_hc31_94 : ifCond.holds .ne (nar .boolean (j3_8_s0 (v0_80 p0 p1 p2 p3 p4))) = true := by rw [own_isfin (own_y1 p0 p1 p2 p3 p4)]; decide
theorem own_hc48_94 : ifCond.holds .ge (cmpValue (FP.dcmp (v0_51 p0 p1 p2 p3 p4) (v0_69 p0 p1 p2 p3 p4)) .g) = false := by
  obtain ⟨k, hk, -, -, h1, -, h2, -⟩ := own_all p0 p1 p2 p3 p4
  have w := own_w p0 p1 p2 p3 p4
  rw [if_ge (nn_fin h1.1) (nn_fin h2.1) .g, h1.2, h2.2, Int.add_mul]
  have := Int.mul_pos (show 0 < (v0_7 p0 p1 p2 p3 p4).toInt by omega) (P_pos k)
  exact decide_eq_false (by omega)
theorem own_hc55_94 : ifCond.holds .lt (cmpValue (FP.dcmp (v0_58 p0 p1 p2 p3 p4) (v0_80 p0 p1 p2 p3 p4)) .g) = true := by
  obtain ⟨k, hk, -, -, -, h1, -, h2⟩ := own_all p0 p1 p2 p3 p4
  have w := own_h p0 p1 p2 p3 p4
  rw [if_lt (nn_fin h1.1) (nn_fin h2.1) .g, h1.2, h2.2, Int.add_mul]
  have := Int.mul_pos (show 0 < (v0_16 p0 p1 p2 p3 p4).toInt by omega) (P_pos k)
  exact decide_eq_true (by omega)
theorem own_hn8_101 : Jvm.Free.Fl.NoNaN64 (FP.dsub (v0_69 p0 p1 p2 p3 p4) (v0_51 p0 p1 p2 p3 p4)) := nn_sub (own_x1 p0 p1 p2 p3 p4) (own_x0 p0 p1 p2 p3 p4)
theorem own_hn17_101 : Jvm.Free.Fl.NoNaN64 (FP.dsub (v0_80 p0 p1 p2 p3 p4) (v0_58 p0 p1 p2 p3 p4)) := nn_sub (own_y1 p0 p1 p2 p3 p4) (own_y0 p0 p1 p2 p3 p4)
theorem own_wh : ((v0_7 p0 p1 p2 p3 p4) * (v0_16 p0 p1 p2 p3 p4)).toInt = (v0_7 p0 p1 p2 p3 p4).toInt * (v0_16 p0 p1 p2 p3 p4).toInt ∧ 1 ≤ (v0_7 p0 p1 p2 p3 p4).toInt * (v0_16 p0 p1 p2 p3 p4).toInt ∧ (v0_7 p0 p1 p2 p3 p4).toInt * (v0_16 p0 p1 p2 p3 p4).toInt ≤ 4503599627370496 := by
  have w := own_w p0 p1 p2 p3 p4; have h := own_h p0 p1 p2 p3 p4
  have u1 : 1 * 1 ≤ (v0_7 p0 p1 p2 p3 p4).toInt * (v0_16 p0 p1 p2 p3 p4).toInt := Int.mul_le_mul w.1 h.1 (by decide) (by omega)
  have u2 : (v0_7 p0 p1 p2 p3 p4).toInt * (v0_16 p0 p1 p2 p3 p4).toInt ≤ 67108864 * 67108864 := Int.mul_le_mul w.2 h.2 (by omega) (by decide)
  exact ⟨Jvm.Kit.i64_mul (by omega) (by omega), by omega, by omega⟩
theorem own_d1 : ∃ k : Nat, (k = 0 ∨ k = 2) ∧ DFin (j0_34_s0 p0 p1 p2 p3 p4) ∧ zv (j0_34_s0 p0 p1 p2 p3 p4) = P k ∧ own_S (FP.dsub (v0_69 p0 p1 p2 p3 p4) (v0_51 p0 p1 p2 p3 p4)) (v0_7 p0 p1 p2 p3 p4).toInt k ∧ own_S (FP.dsub (v0_80 p0 p1 p2 p3 p4) (v0_58 p0 p1 p2 p3 p4)) (v0_16 p0 p1 p2 p3 p4).toInt k := by
  obtain ⟨k, hk, hF, hZ, h1, h2, h3, h4⟩ := own_all p0 p1 p2 p3 p4
  have w := own_w p0 p1 p2 p3 p4; have h := own_h p0 p1 p2 p3 p4
  have k2 : k ≤ 2 := by omega
  have e1 := own_sub k2 h3 h1 (by omega)
  have e2 := own_sub k2 h4 h2 (by omega)
  rw [show p0.toInt + (v0_7 p0 p1 p2 p3 p4).toInt - p0.toInt = (v0_7 p0 p1 p2 p3 p4).toInt by omega] at e1
  rw [show p1.toInt + (v0_16 p0 p1 p2 p3 p4).toInt - p1.toInt = (v0_16 p0 p1 p2 p3 p4).toInt by omega] at e2
  exact ⟨k, hk, hF, hZ, e1, e2⟩
theorem own_hn18_101 : Jvm.Free.Fl.NoNaN64 (FP.dmul (FP.dsub (v0_69 p0 p1 p2 p3 p4) (v0_51 p0 p1 p2 p3 p4)) (FP.dsub (v0_80 p0 p1 p2 p3 p4) (v0_58 p0 p1 p2 p3 p4))) := by
  obtain ⟨k, -, -, -, e1, e2⟩ := own_d1 p0 p1 p2 p3 p4
  exact nn_mul e1.1 e2.1
theorem own_e1 : ∃ k : Nat, (k = 0 ∨ k = 2) ∧ own_S (FP.dmul (FP.l2d ((v0_7 p0 p1 p2 p3 p4) * (v0_16 p0 p1 p2 p3 p4))) (j0_34_s0 p0 p1 p2 p3 p4)) ((v0_7 p0 p1 p2 p3 p4).toInt * (v0_16 p0 p1 p2 p3 p4).toInt) k ∧ DFin (j0_34_s0 p0 p1 p2 p3 p4) ∧ zv (j0_34_s0 p0 p1 p2 p3 p4) = P k ∧ zv (v0_104 p0 p1 p2 p3 p4) = (v0_7 p0 p1 p2 p3 p4).toInt * (v0_16 p0 p1 p2 p3 p4).toInt * P (2 * k) := by
  obtain ⟨k, hk, hF, hZ, e1, e2⟩ := own_d1 p0 p1 p2 p3 p4
  have wh := own_wh p0 p1 p2 p3 p4
  have k2 : k ≤ 2 := by omega
  refine ⟨k, hk, own_mul k2 (l2dF _) (by rw [l2d_eq (by omega), wh.1]) (by omega) hF hZ, hF, hZ, ?_⟩
  refine mul_eq e1.1 e2.1 (rep_P (2 * k) (by omega)) ?_
  rw [e1.2, e2.2, mmmc, own_PP hk, ← Int.mul_assoc]
theorem own_hn114 : Jvm.Free.Fl.NoNaN64 (FP.dmul (FP.l2d ((v0_7 p0 p1 p2 p3 p4) * (v0_16 p0 p1 p2 p3 p4))) (j0_34_s0 p0 p1 p2 p3 p4)) := by
  obtain ⟨k, -, h, -⟩ := own_e1 p0 p1 p2 p3 p4; exact nn_fin h.1
theorem own_hn117 : Jvm.Free.Fl.NoNaN64 (FP.dmul (FP.dmul (FP.l2d ((v0_7 p0 p1 p2 p3 p4) * (v0_16 p0 p1 p2 p3 p4))) (j0_34_s0 p0 p1 p2 p3 p4)) (j0_34_s0 p0 p1 p2 p3 p4)) := by
  obtain ⟨k, -, h, hF, -⟩ := own_e1 p0 p1 p2 p3 p4; exact nn_mul h.1 hF
theorem own_hres140 : j0_125_s0 p0 p1 p2 p3 p4 = 1 := by
  obtain ⟨k, hk, h, hF, hZ, hv⟩ := own_e1 p0 p1 p2 p3 p4
  have wh := own_wh p0 p1 p2 p3 p4
  have n1 : Jvm.Free.Fl.NoNaN64 (v0_104 p0 p1 p2 p3 p4) := own_hn18_101 p0 p1 p2 p3 p4
  have n2 : Jvm.Free.Fl.NoNaN64 (v0_118 p0 p1 p2 p3 p4) := own_hn117 p0 p1 p2 p3 p4
  have e : zv (v0_118 p0 p1 p2 p3 p4) = (v0_7 p0 p1 p2 p3 p4).toInt * (v0_16 p0 p1 p2 p3 p4).toInt * P (2 * k) := by
    refine mul_eq h.1 hF (rep_P (2 * k) (by omega)) ?_
    rw [h.2, hZ, Int.mul_assoc, own_PP hk, ← Int.mul_assoc]
  have hp := Int.mul_pos (show 0 < (v0_7 p0 p1 p2 p3 p4).toInt * (v0_16 p0 p1 p2 p3 p4).toInt by omega) (own_P4 hk).2
  unfold j0_125_s0 j0_132_s0
  rw [if_ne n1 n2 .l, if_le n1 nn_d0 .l, hv, e, zv_d0, if_neg (by simp), if_neg (by simp only [decide_eq_true_eq]; omega)]
end V
end Own
theorem d3_0 : decode jdk_117_method_8_code 0 = .ok (.dload_n 0, 1) := by decide +kernel
theorem d3_1 : decode jdk_117_method_8_code 1 = .ok (.invokestatic 38, 3) := by decide +kernel
theorem d3_4 : decode jdk_117_method_8_code 4 = .ok (.ldc2_w 111, 3) := by decide +kernel
theorem d3_7 : decode jdk_117_method_8_code 7 = .ok (.dcmp .g, 1) := by decide +kernel
theorem d3_8 : decode jdk_117_method_8_code 8 = .ok (.ifCond .gt 7, 3) := by decide +kernel
theorem d3_11 : decode jdk_117_method_8_code 11 = .ok (.iconst 1, 1) := by decide +kernel
theorem d3_12 : decode jdk_117_method_8_code 12 = .ok (.goto 4, 3) := by decide +kernel
theorem d3_15 : decode jdk_117_method_8_code 15 = .ok (.iconst 0, 1) := by decide +kernel
theorem d3_16 : decode jdk_117_method_8_code 16 = .ok (.ireturn, 1) := by decide +kernel
theorem pn_3 : plainName "java/lang/Double" = true := by first | (simp [plainName, overriddenIn]; done) | decide +kernel
theorem pd_0 : parseMethodDescriptor "(D)D" = some ⟨[.double], some .double⟩ := by decide +kernel
theorem pd_1 : parseMethodDescriptor "(D)Z" = some ⟨[.double], some .boolean⟩ := by decide +kernel
theorem pd_2 : parseMethodDescriptor "(DDDD)V" = some ⟨[.double, .double, .double, .double], none⟩ := by decide +kernel
theorem pd_3 : parseMethodDescriptor "()D" = some ⟨[], some .double⟩ := by decide +kernel
theorem ef_3 (m : MethodId) (d0 : UInt64) : entryFrame m #[(.double d0)] 2 = mkF m 0 #[.val (.double d0), .second] [] := by first | (simp [entryFrame, mkF, argsToLocals, Value.category]; done) | rfl
def Q3 (Z : State) (d0 : UInt64) (h0 : Heap) (n0 : Nat) (v : Option Value) (h : Heap) (L : List Loc) : Prop := v = some (.int (nar .boolean (j3_8_s0 d0))) ∧ Fr n0 L ∧ h = h0
set_option maxRecDepth 65536 in
set_option maxHeartbeats 40000000 in
theorem rm3 (l : Launch) (Z : State) (aw : Array Value) (hw : ∀ d ∈ tables_1, d.before aw Z = true) (ws : List Jvm.Cond) (d0 : UInt64) (h0 : Heap) (n0 : Nat) (Z0 : n0 ≤ h0.size) (hn1 : Jvm.Free.Fl.NoNaN64 d0) :
    MetFree l (⟨"java/lang/Double", "isFinite", "(D)Z"⟩ : MethodName) (head1 (Jvm.Cond.code (⟨"java/lang/Double", "isFinite", "(D)Z"⟩ : MethodName) jdk_117_method_8_code 2 (some .boolean) :: ws) ({ frames := 1, cells := 0, slots := 0, locals := 13 } : Room)) (fun a U => a = #[(.double d0)] ∧ Z.Warmed39 U.vm ∧ U.heap = h0) (fun _ _ _ _ _ => True) (fun _ U o U' => ∃ v L, o = .returned v ∧ Q3 Z d0 h0 n0 v U'.heap L ∧ FrameEnd U o U' L ({ frames := 1, cells := 0, slots := 0, locals := 13 } : Room).cells ({ frames := 1, cells := 0, slots := 0, locals := 13 } : Room).slots) := by
  refine MetFree.of_bodySF (plainFor_of_name pn_3) hisR ?_
  intro p e s m args below meth c s₁ Bd hml0 hP hK
  obtain ⟨rfl, hZ, hh⟩ := hP
  have hx := Bd.exec
  have hby := Bd.bytes
  have hml : c.maxLocals = 2 := hml0
  have hown : s.vm.findClass "java/lang/Double" = some m.cls := findClass_of_methodNamed Bd.named
  have hnm := (name_of_methodNamed Bd.named Bd.method).1
  have X0 : Stand p l e ({ frames := 1, cells := 0, slots := 0, locals := 13 } : Room) s m #[(.double d0)] below meth c s₁ [] 0 0 := Stand.of_body Bd
  have e0 : s₁.heap = h0 := by rw [← hh, Bd.state]; rfl
  have N0 := Fr.nil n0
  have pre0 : ∀ t, Steps p.tables e below (s₁.setTop (mkF m 0 #[.val (.double d0), .second] [])) t → Steps p.tables e below (s₁.setTop (entryFrame m #[(.double d0)] 2)) t := fun t k => castTop (ef_3 m d0) k
  obtain ⟨T1, X1, e1, st1⟩ := natS X0 hx hZ hown (hw _ (List.mem_of_getElem? (i := 14) rfl)) (hw _ (List.mem_of_getElem? (i := 15) rfl)) (hw _ (List.mem_of_getElem? (i := 16) rfl)) (hw _ (List.mem_of_getElem? (i := 17) rfl)) (by decide) e0 (W := 0) (F := fun a' => a' = #[.double d0] ∧ Jvm.Free.Fl.NoNaN64 d0) (fun hcw => Jvm.Free.Fl.Abs.absD_pays (W := 0) d0 hcw (by decide) (by decide)) (g := (mkF m 1 #[.val (.double d0), .second] [(.double d0)])) rfl (by rw [hml]; rfl) (argsL := [(.double d0)]) (rest := []) (lenOf pd_0 rfl) rfl (by show 2 * 0 + _ ≤ _; exact Nat.le_of_eq rfl) (hb hby d3_1) (by decide : 0 ≤ _) (by decide : 0 ≤ _) ⟨rfl, hn1⟩ rfl
  obtain ⟨fs, hr, hrun, hended, hW, hsame⟩ := X1.leave (v := some (.int (nar .boolean (j3_8_s0 d0)))) (fun h => by rw [Bd.returns] at h; cases h)
  refine ⟨_, _, pre0 _ ?_, hrun, hended, _, _, rfl, ?_, ⟨_, rfl⟩, hW, hsame.mono (by decide) (by decide)⟩
  · show Steps p.tables e below (s₁.setTop (mkF m 0 #[.val (.double d0), .second] [])) _
    refine XS.dloadN X0.here hx rfl (hb hby d3_0) rfl ?_
    show Steps p.tables e below (s₁.setTop (mkF m 1 #[.val (.double d0), .second] [(.double d0)])) _
    refine st1 _ ?_
    show Steps p.tables e below (T1.setTop (mkF m 4 #[.val (.double d0), .second] [(.double (d0 &&& 0x7fffffffffffffff))])) _
    refine X1.ldc2DoubleC hx hown (mvT hZ (hw _ (List.mem_of_getElem? (i := 18) rfl))) (g := (mkF m 4 #[.val (.double d0), .second] [(.double (d0 &&& 0x7fffffffffffffff))])) rfl (hb hby d3_4) _ ?_
    show Steps p.tables e below (T1.setTop (mkF m 7 #[.val (.double d0), .second] [(.double (9218868437227405311 : UInt64)), (.double (d0 &&& 0x7fffffffffffffff))])) _
    refine XS.dcmpS X1.here hx rfl (hb hby d3_7) rfl rfl ?_
    show Steps p.tables e below (T1.setTop (mkF m 8 #[.val (.double d0), .second] [(.int (cmpValue (FP.dcmp (d0 &&& 0x7fffffffffffffff) (9218868437227405311 : UInt64)) .g))])) _
    suffices kt8 : Steps p.tables e below (T1.setTop (mkF m 16 #[.val (.double d0), .second] [(.int (j3_8_s0 d0))])) (T1.setFrames fs) by
      by_cases hc8 : ifCond.holds .gt (cmpValue (FP.dcmp (d0 &&& 0x7fffffffffffffff) (9218868437227405311 : UInt64)) .g) = true
      · rw [show (j3_8_s0 d0) = (0 : Int32) from if_pos hc8] at kt8
        refine XS.ifYes X1.here hx rfl (pc0 := 8) (pc' := 15) rfl (hb hby d3_8) rfl hc8 (by decide) (by decide) ?_
        show Steps p.tables e below (T1.setTop (mkF m 15 #[.val (.double d0), .second] [])) _
        refine XS.iconst X1.here hx rfl (hb hby d3_15) ?_
        exact kt8
      · rw [show (j3_8_s0 d0) = (1 : Int32) from if_neg hc8] at kt8
        refine XS.ifNo X1.here hx rfl (hb hby d3_8) rfl (eq_false_of_ne_true hc8) ?_
        show Steps p.tables e below (T1.setTop (mkF m 11 #[.val (.double d0), .second] [])) _
        refine XS.iconst X1.here hx rfl (hb hby d3_11) ?_
        show Steps p.tables e below (T1.setTop (mkF m 12 #[.val (.double d0), .second] [(.int (1 : Int32))])) _
        refine XS.goto X1.here hx rfl (pc0 := 12) (pc' := 16) rfl (hb hby d3_12) (by decide) (by decide) ?_
        exact kt8
    show Steps p.tables e below (T1.setTop (mkF m 16 #[.val (.double d0), .second] [(.int (j3_8_s0 d0))])) _
    exact retN X1 hx (t := .boolean) Bd.returns (by simp) (hb hby d3_16) hr
  · show Q3 Z d0 h0 n0 _ T1.heap _
    rw [e1]
    exact ⟨rfl, N0, rfl⟩
theorem d1_0 : decode prog_11_method_1_code 0 = .ok (.aload_n 0, 1) := by decide +kernel
theorem d1_1 : decode prog_11_method_1_code 1 = .ok (.invokespecial 1, 3) := by decide +kernel
theorem d1_4 : decode prog_11_method_1_code 4 = .ok (.dload_n 1, 1) := by decide +kernel
theorem d1_5 : decode prog_11_method_1_code 5 = .ok (.invokestatic 7, 3) := by decide +kernel
theorem d1_8 : decode prog_11_method_1_code 8 = .ok (.ifCond .eq 26, 3) := by decide +kernel
theorem d1_11 : decode prog_11_method_1_code 11 = .ok (.dload_n 3, 1) := by decide +kernel
theorem d1_12 : decode prog_11_method_1_code 12 = .ok (.invokestatic 7, 3) := by decide +kernel
theorem d1_15 : decode prog_11_method_1_code 15 = .ok (.ifCond .eq 19, 3) := by decide +kernel
theorem d1_18 : decode prog_11_method_1_code 18 = .ok (.dload 5, 2) := by decide +kernel
theorem d1_20 : decode prog_11_method_1_code 20 = .ok (.invokestatic 7, 3) := by decide +kernel
theorem d1_23 : decode prog_11_method_1_code 23 = .ok (.ifCond .eq 11, 3) := by decide +kernel
theorem d1_26 : decode prog_11_method_1_code 26 = .ok (.dload 7, 2) := by decide +kernel
theorem d1_28 : decode prog_11_method_1_code 28 = .ok (.invokestatic 7, 3) := by decide +kernel
theorem d1_31 : decode prog_11_method_1_code 31 = .ok (.ifCond .ne 13, 3) := by decide +kernel
theorem d1_44 : decode prog_11_method_1_code 44 = .ok (.dload_n 1, 1) := by decide +kernel
theorem d1_45 : decode prog_11_method_1_code 45 = .ok (.dload 5, 2) := by decide +kernel
theorem d1_47 : decode prog_11_method_1_code 47 = .ok (.dcmp .g, 1) := by decide +kernel
theorem d1_48 : decode prog_11_method_1_code 48 = .ok (.ifCond .ge 10, 3) := by decide +kernel
theorem d1_51 : decode prog_11_method_1_code 51 = .ok (.dload_n 3, 1) := by decide +kernel
theorem d1_52 : decode prog_11_method_1_code 52 = .ok (.dload 7, 2) := by decide +kernel
theorem d1_54 : decode prog_11_method_1_code 54 = .ok (.dcmp .g, 1) := by decide +kernel
theorem d1_55 : decode prog_11_method_1_code 55 = .ok (.ifCond .lt 22, 3) := by decide +kernel
theorem d1_77 : decode prog_11_method_1_code 77 = .ok (.aload_n 0, 1) := by decide +kernel
theorem d1_78 : decode prog_11_method_1_code 78 = .ok (.dload_n 1, 1) := by decide +kernel
theorem d1_79 : decode prog_11_method_1_code 79 = .ok (.putfield 24, 3) := by decide +kernel
theorem d1_82 : decode prog_11_method_1_code 82 = .ok (.aload_n 0, 1) := by decide +kernel
theorem d1_83 : decode prog_11_method_1_code 83 = .ok (.dload_n 3, 1) := by decide +kernel
theorem d1_84 : decode prog_11_method_1_code 84 = .ok (.putfield 30, 3) := by decide +kernel
theorem d1_87 : decode prog_11_method_1_code 87 = .ok (.aload_n 0, 1) := by decide +kernel
theorem d1_88 : decode prog_11_method_1_code 88 = .ok (.dload 5, 2) := by decide +kernel
theorem d1_90 : decode prog_11_method_1_code 90 = .ok (.putfield 33, 3) := by decide +kernel
theorem d1_93 : decode prog_11_method_1_code 93 = .ok (.aload_n 0, 1) := by decide +kernel
theorem d1_94 : decode prog_11_method_1_code 94 = .ok (.dload 7, 2) := by decide +kernel
theorem d1_96 : decode prog_11_method_1_code 96 = .ok (.putfield 36, 3) := by decide +kernel
theorem d1_99 : decode prog_11_method_1_code 99 = .ok (.return_, 1) := by decide +kernel
theorem pn_1 : plainName "com/example/narrow_passage/narrowpassage/measure/MeasurementArea" = true := by first | (simp [plainName, overriddenIn]; done) | decide +kernel
theorem ef_1 (m : MethodId) (a0 : Addr) (d1 : UInt64) (d2 : UInt64) (d3 : UInt64) (d4 : UInt64) : entryFrame m #[(.ref a0), (.double d1), (.double d2), (.double d3), (.double d4)] 9 = mkF m 0 #[.val (.ref a0), .val (.double d1), .second, .val (.double d2), .second, .val (.double d3), .second, .val (.double d4), .second] [] := by first | (simp [entryFrame, mkF, argsToLocals, Value.category]; done) | rfl
def Q1 (Z : State) (a0 : Addr) (d1 : UInt64) (d2 : UInt64) (d3 : UInt64) (d4 : UInt64) (u_x0_a0 : Value) (u_y0_a0 : Value) (u_x1_a0 : Value) (u_y1_a0 : Value) (h0 : Heap) (n0 : Nat) (v : Option Value) (h : Heap) (L : List Loc) : Prop := v = none ∧ Fr n0 L ∧ Keep h0 h [a0] ∧ Exa Z h a0 "com/example/narrow_passage/narrowpassage/measure/MeasurementArea" ∧ Fld Z h a0 "com/example/narrow_passage/narrowpassage/measure/MeasurementArea" "x0" "D" (.double d1) ∧ Fld Z h a0 "com/example/narrow_passage/narrowpassage/measure/MeasurementArea" "y0" "D" (.double d2) ∧ Fld Z h a0 "com/example/narrow_passage/narrowpassage/measure/MeasurementArea" "x1" "D" (.double d3) ∧ Fld Z h a0 "com/example/narrow_passage/narrowpassage/measure/MeasurementArea" "y1" "D" (.double d4)
set_option maxRecDepth 65536 in
set_option maxHeartbeats 40000000 in
theorem rm1 (l : Launch) (Z : State) (aw : Array Value) (hw : ∀ d ∈ tables_1, d.before aw Z = true) (ws : List Jvm.Cond) (a0 : Addr) (d1 : UInt64) (d2 : UInt64) (d3 : UInt64) (d4 : UInt64) (u_x0_a0 : Value) (u_y0_a0 : Value) (u_x1_a0 : Value) (u_y1_a0 : Value) (h0 : Heap) (n0 : Nat) (Z0 : n0 ≤ h0.size) (F_is_a0 : Exa Z h0 a0 "com/example/narrow_passage/narrowpassage/measure/MeasurementArea") (F_x0_a0 : Fld Z h0 a0 "com/example/narrow_passage/narrowpassage/measure/MeasurementArea" "x0" "D" u_x0_a0) (F_y0_a0 : Fld Z h0 a0 "com/example/narrow_passage/narrowpassage/measure/MeasurementArea" "y0" "D" u_y0_a0) (F_x1_a0 : Fld Z h0 a0 "com/example/narrow_passage/narrowpassage/measure/MeasurementArea" "x1" "D" u_x1_a0) (F_y1_a0 : Fld Z h0 a0 "com/example/narrow_passage/narrowpassage/measure/MeasurementArea" "y1" "D" u_y1_a0) (hn1_5 : Jvm.Free.Fl.NoNaN64 d1) (hc8 : ifCond.holds .eq (nar .boolean (j3_8_s0 d1)) = false) (hn1_12 : Jvm.Free.Fl.NoNaN64 d2) (hc15 : ifCond.holds .eq (nar .boolean (j3_8_s0 d2)) = false) (hn1_20 : Jvm.Free.Fl.NoNaN64 d3) (hc23 : ifCond.holds .eq (nar .boolean (j3_8_s0 d3)) = false) (hn1_28 : Jvm.Free.Fl.NoNaN64 d4) (hc31 : ifCond.holds .ne (nar .boolean (j3_8_s0 d4)) = true) (hc48 : ifCond.holds .ge (cmpValue (FP.dcmp d1 d3) .g) = false) (hc55 : ifCond.holds .lt (cmpValue (FP.dcmp d2 d4) .g) = true) (g_a0 : n0 ≤ a0) :
    MetFree l (⟨"com/example/narrow_passage/narrowpassage/measure/MeasurementArea", "<init>", "(DDDD)V"⟩ : MethodName) (head1 (Jvm.Cond.code (⟨"com/example/narrow_passage/narrowpassage/measure/MeasurementArea", "<init>", "(DDDD)V"⟩ : MethodName) prog_11_method_1_code 9 none :: ws) ({ frames := 2, cells := 0, slots := 0, locals := 26 } : Room)) (fun a U => a = #[(.ref a0), (.double d1), (.double d2), (.double d3), (.double d4)] ∧ Z.Warmed39 U.vm ∧ U.heap = h0) (fun _ _ _ _ _ => True) (fun _ U o U' => ∃ v L, o = .returned v ∧ Q1 Z a0 d1 d2 d3 d4 u_x0_a0 u_y0_a0 u_x1_a0 u_y1_a0 h0 n0 v U'.heap L ∧ FrameEnd U o U' L ({ frames := 2, cells := 0, slots := 0, locals := 26 } : Room).cells ({ frames := 2, cells := 0, slots := 0, locals := 26 } : Room).slots) := by
  refine MetFree.of_bodySF (plainFor_of_name pn_1) hisR ?_
  intro p e s m args below meth c s₁ Bd hml0 hP hK
  obtain ⟨rfl, hZ, hh⟩ := hP
  have hx := Bd.exec
  have hby := Bd.bytes
  have hml : c.maxLocals = 9 := hml0
  have hown : s.vm.findClass "com/example/narrow_passage/narrowpassage/measure/MeasurementArea" = some m.cls := findClass_of_methodNamed Bd.named
  have hnm := (name_of_methodNamed Bd.named Bd.method).1
  have X0 : Stand p l e ({ frames := 2, cells := 0, slots := 0, locals := 26 } : Room) s m #[(.ref a0), (.double d1), (.double d2), (.double d3), (.double d4)] below meth c s₁ [] 0 0 := Stand.of_body Bd
  have e0 : s₁.heap = h0 := by rw [← hh, Bd.state]; rfl
  have N0 := Fr.nil n0
  have pre0 : ∀ t, Steps p.tables e below (s₁.setTop (mkF m 0 #[.val (.ref a0), .val (.double d1), .second, .val (.double d2), .second, .val (.double d3), .second, .val (.double d4), .second] [])) t → Steps p.tables e below (s₁.setTop (entryFrame m #[(.ref a0), (.double d1), (.double d2), (.double d3), (.double d4)] 9)) t := fun t k => castTop (ef_1 m a0 d1 d2 d3 d4) k
  obtain ⟨T1, X1, e1, st1⟩ := initO X0 hx hZ hown (hw _ (List.mem_of_getElem? (i := 7) rfl)) (hw _ (List.mem_of_getElem? (i := 8) rfl)) (hw _ (List.mem_of_getElem? (i := 9) rfl)) e0 (g := (mkF m 1 #[.val (.ref a0), .val (.double d1), .second, .val (.double d2), .second, .val (.double d3), .second, .val (.double d4), .second] [(.ref a0)])) rfl (by rw [hml]; rfl) rfl (hb hby d1_1) (by decide) (W := 0) (by show 2 * 0 + _ ≤ _; exact Nat.le_of_eq rfl) (by decide)
  obtain ⟨_, _, ⟨T2, L2, k2, n2⟩, -, X2, ⟨Lc2, hQ2, l2, y2, z2'⟩, st2⟩ := Jvm.LawKit.callS X1 hx (y := (⟨"java/lang/Double", "isFinite", "(D)Z"⟩ : MethodName)) hown (mvT hZ (hw _ (List.mem_of_getElem? (i := 10) rfl))) (mvT hZ (hw _ (List.mem_of_getElem? (i := 11) rfl))) (mvT hZ (hw _ (List.mem_of_getElem? (i := 12) rfl))) (mvT hZ (hw _ (List.mem_of_getElem? (i := 13) rfl))) (by decide) (backOf (W := 0) (rm3 l Z aw hw [] d1 h0 n0 Z0 hn1_5) hZ (hw _ (List.mem_of_getElem? (i := 13) rfl)) (hw _ (List.mem_of_getElem? (i := 12) rfl)) (by decide) (by decide)) (g := (mkF m 5 #[.val (.ref a0), .val (.double d1), .second, .val (.double d2), .second, .val (.double d3), .second, .val (.double d4), .second] [(.double d1)])) rfl (by rw [hml]; rfl) (argsL := [(.double d1)]) (rest := []) (lenOf pd_1 rfl) rfl (by show 2 * 0 + _ ≤ _; exact Nat.le_of_eq rfl) (hb hby d1_5) (fun _ _ => ⟨rfl, e1, (by decide : 0 + 0 ≤ _), (by decide : 0 + 0 ≤ _)⟩)
  dsimp only [Pt.U, Pt.locs, Pt.cells, Pt.slots] at X2 l2 y2 z2' st2 hQ2
  subst l2 y2 z2'
  obtain ⟨rfl, N2q, hq2⟩ := hQ2
  have f2_0 : Exa Z T2.heap a0 "com/example/narrow_passage/narrowpassage/measure/MeasurementArea" := by rw [hq2]; exact F_is_a0
  have f2_1 : Fld Z T2.heap a0 "com/example/narrow_passage/narrowpassage/measure/MeasurementArea" "x0" "D" u_x0_a0 := by rw [hq2]; exact F_x0_a0
  have f2_2 : Fld Z T2.heap a0 "com/example/narrow_passage/narrowpassage/measure/MeasurementArea" "y0" "D" u_y0_a0 := by rw [hq2]; exact F_y0_a0
  have f2_3 : Fld Z T2.heap a0 "com/example/narrow_passage/narrowpassage/measure/MeasurementArea" "x1" "D" u_x1_a0 := by rw [hq2]; exact F_x1_a0
  have f2_4 : Fld Z T2.heap a0 "com/example/narrow_passage/narrowpassage/measure/MeasurementArea" "y1" "D" u_y1_a0 := by rw [hq2]; exact F_y1_a0
  have z2 : n0 ≤ T2.heap.size := by rw [hq2]; exact Z0
  have K2 : Keep h0 T2.heap [a0] := by rw [hq2]; exact (Keep.refl h0 [a0])
  have N2 := Fr.app N0 N2q
  obtain ⟨_, _, ⟨T3, L3, k3, n3⟩, -, X3, ⟨Lc3, hQ3, l3, y3, z3'⟩, st3⟩ := Jvm.LawKit.callS X2 hx (y := (⟨"java/lang/Double", "isFinite", "(D)Z"⟩ : MethodName)) hown (mvT hZ (hw _ (List.mem_of_getElem? (i := 10) rfl))) (mvT hZ (hw _ (List.mem_of_getElem? (i := 11) rfl))) (mvT hZ (hw _ (List.mem_of_getElem? (i := 12) rfl))) (mvT hZ (hw _ (List.mem_of_getElem? (i := 13) rfl))) (by decide) (backOf (W := 0) (rm3 l Z aw hw [] d2 T2.heap n0 z2 hn1_12) hZ (hw _ (List.mem_of_getElem? (i := 13) rfl)) (hw _ (List.mem_of_getElem? (i := 12) rfl)) (by decide) (by decide)) (g := (mkF m 12 #[.val (.ref a0), .val (.double d1), .second, .val (.double d2), .second, .val (.double d3), .second, .val (.double d4), .second] [(.double d2)])) rfl (by rw [hml]; rfl) (argsL := [(.double d2)]) (rest := []) (lenOf pd_1 rfl) rfl (by show 2 * 0 + _ ≤ _; exact Nat.le_of_eq rfl) (hb hby d1_12) (fun _ _ => ⟨rfl, rfl, (by decide : 0 + 0 ≤ _), (by decide : 0 + 0 ≤ _)⟩)
  dsimp only [Pt.U, Pt.locs, Pt.cells, Pt.slots] at X3 l3 y3 z3' st3 hQ3
  subst l3 y3 z3'
  obtain ⟨rfl, N3q, hq3⟩ := hQ3
  have f3_0 : Exa Z T3.heap a0 "com/example/narrow_passage/narrowpassage/measure/MeasurementArea" := by rw [hq3]; exact f2_0
  have f3_1 : Fld Z T3.heap a0 "com/example/narrow_passage/narrowpassage/measure/MeasurementArea" "x0" "D" u_x0_a0 := by rw [hq3]; exact f2_1
  have f3_2 : Fld Z T3.heap a0 "com/example/narrow_passage/narrowpassage/measure/MeasurementArea" "y0" "D" u_y0_a0 := by rw [hq3]; exact f2_2
  have f3_3 : Fld Z T3.heap a0 "com/example/narrow_passage/narrowpassage/measure/MeasurementArea" "x1" "D" u_x1_a0 := by rw [hq3]; exact f2_3
  have f3_4 : Fld Z T3.heap a0 "com/example/narrow_passage/narrowpassage/measure/MeasurementArea" "y1" "D" u_y1_a0 := by rw [hq3]; exact f2_4
  have z3 : n0 ≤ T3.heap.size := by rw [hq3]; exact z2
  have K3 : Keep h0 T3.heap [a0] := by rw [hq3]; exact K2
  have N3 := Fr.app N2 N3q
  obtain ⟨_, _, ⟨T4, L4, k4, n4⟩, -, X4, ⟨Lc4, hQ4, l4, y4, z4'⟩, st4⟩ := Jvm.LawKit.callS X3 hx (y := (⟨"java/lang/Double", "isFinite", "(D)Z"⟩ : MethodName)) hown (mvT hZ (hw _ (List.mem_of_getElem? (i := 10) rfl))) (mvT hZ (hw _ (List.mem_of_getElem? (i := 11) rfl))) (mvT hZ (hw _ (List.mem_of_getElem? (i := 12) rfl))) (mvT hZ (hw _ (List.mem_of_getElem? (i := 13) rfl))) (by decide) (backOf (W := 0) (rm3 l Z aw hw [] d3 T3.heap n0 z3 hn1_20) hZ (hw _ (List.mem_of_getElem? (i := 13) rfl)) (hw _ (List.mem_of_getElem? (i := 12) rfl)) (by decide) (by decide)) (g := (mkF m 20 #[.val (.ref a0), .val (.double d1), .second, .val (.double d2), .second, .val (.double d3), .second, .val (.double d4), .second] [(.double d3)])) rfl (by rw [hml]; rfl) (argsL := [(.double d3)]) (rest := []) (lenOf pd_1 rfl) rfl (by show 2 * 0 + _ ≤ _; exact Nat.le_of_eq rfl) (hb hby d1_20) (fun _ _ => ⟨rfl, rfl, (by decide : 0 + 0 ≤ _), (by decide : 0 + 0 ≤ _)⟩)
  dsimp only [Pt.U, Pt.locs, Pt.cells, Pt.slots] at X4 l4 y4 z4' st4 hQ4
  subst l4 y4 z4'
  obtain ⟨rfl, N4q, hq4⟩ := hQ4
  have f4_0 : Exa Z T4.heap a0 "com/example/narrow_passage/narrowpassage/measure/MeasurementArea" := by rw [hq4]; exact f3_0
  have f4_1 : Fld Z T4.heap a0 "com/example/narrow_passage/narrowpassage/measure/MeasurementArea" "x0" "D" u_x0_a0 := by rw [hq4]; exact f3_1
  have f4_2 : Fld Z T4.heap a0 "com/example/narrow_passage/narrowpassage/measure/MeasurementArea" "y0" "D" u_y0_a0 := by rw [hq4]; exact f3_2
  have f4_3 : Fld Z T4.heap a0 "com/example/narrow_passage/narrowpassage/measure/MeasurementArea" "x1" "D" u_x1_a0 := by rw [hq4]; exact f3_3
  have f4_4 : Fld Z T4.heap a0 "com/example/narrow_passage/narrowpassage/measure/MeasurementArea" "y1" "D" u_y1_a0 := by rw [hq4]; exact f3_4
  have z4 : n0 ≤ T4.heap.size := by rw [hq4]; exact z3
  have K4 : Keep h0 T4.heap [a0] := by rw [hq4]; exact K3
  have N4 := Fr.app N3 N4q
  obtain ⟨_, _, ⟨T5, L5, k5, n5⟩, -, X5, ⟨Lc5, hQ5, l5, y5, z5'⟩, st5⟩ := Jvm.LawKit.callS X4 hx (y := (⟨"java/lang/Double", "isFinite", "(D)Z"⟩ : MethodName)) hown (mvT hZ (hw _ (List.mem_of_getElem? (i := 10) rfl))) (mvT hZ (hw _ (List.mem_of_getElem? (i := 11) rfl))) (mvT hZ (hw _ (List.mem_of_getElem? (i := 12) rfl))) (mvT hZ (hw _ (List.mem_of_getElem? (i := 13) rfl))) (by decide) (backOf (W := 0) (rm3 l Z aw hw [] d4 T4.heap n0 z4 hn1_28) hZ (hw _ (List.mem_of_getElem? (i := 13) rfl)) (hw _ (List.mem_of_getElem? (i := 12) rfl)) (by decide) (by decide)) (g := (mkF m 28 #[.val (.ref a0), .val (.double d1), .second, .val (.double d2), .second, .val (.double d3), .second, .val (.double d4), .second] [(.double d4)])) rfl (by rw [hml]; rfl) (argsL := [(.double d4)]) (rest := []) (lenOf pd_1 rfl) rfl (by show 2 * 0 + _ ≤ _; exact Nat.le_of_eq rfl) (hb hby d1_28) (fun _ _ => ⟨rfl, rfl, (by decide : 0 + 0 ≤ _), (by decide : 0 + 0 ≤ _)⟩)
  dsimp only [Pt.U, Pt.locs, Pt.cells, Pt.slots] at X5 l5 y5 z5' st5 hQ5
  subst l5 y5 z5'
  obtain ⟨rfl, N5q, hq5⟩ := hQ5
  have f5_0 : Exa Z T5.heap a0 "com/example/narrow_passage/narrowpassage/measure/MeasurementArea" := by rw [hq5]; exact f4_0
  have f5_1 : Fld Z T5.heap a0 "com/example/narrow_passage/narrowpassage/measure/MeasurementArea" "x0" "D" u_x0_a0 := by rw [hq5]; exact f4_1
  have f5_2 : Fld Z T5.heap a0 "com/example/narrow_passage/narrowpassage/measure/MeasurementArea" "y0" "D" u_y0_a0 := by rw [hq5]; exact f4_2
  have f5_3 : Fld Z T5.heap a0 "com/example/narrow_passage/narrowpassage/measure/MeasurementArea" "x1" "D" u_x1_a0 := by rw [hq5]; exact f4_3
  have f5_4 : Fld Z T5.heap a0 "com/example/narrow_passage/narrowpassage/measure/MeasurementArea" "y1" "D" u_y1_a0 := by rw [hq5]; exact f4_4
  have z5 : n0 ≤ T5.heap.size := by rw [hq5]; exact z4
  have K5 : Keep h0 T5.heap [a0] := by rw [hq5]; exact K4
  have N5 := Fr.app N4 N5q
  obtain ⟨T6, h6, X6, e6, W6, st6⟩ := putF X5 hx hZ hown (host := "") (Or.inl (hw _ (List.mem_of_getElem? (i := 19) rfl))) Via.refl rfl f5_1 f5_0 (Or.inr ⟨(hw _ (List.mem_of_getElem? (i := 20) rfl)), rfl, hnm⟩) (hw _ (List.mem_of_getElem? (i := 2) rfl)) (ty := .double) (by decide) rfl rfl (g := (mkF m 79 #[.val (.ref a0), .val (.double d1), .second, .val (.double d2), .second, .val (.double d3), .second, .val (.double d4), .second] [(.double d1), (.ref a0)])) rfl rfl (hb hby d1_79)
  have f6_0 : Exa Z h6 a0 "com/example/narrow_passage/narrowpassage/measure/MeasurementArea" := f5_0.wr W6
  have f6_1 : Fld Z h6 a0 "com/example/narrow_passage/narrowpassage/measure/MeasurementArea" "x0" "D" (.double d1) := f5_1.same W6
  have f6_2 : Fld Z h6 a0 "com/example/narrow_passage/narrowpassage/measure/MeasurementArea" "y0" "D" u_y0_a0 := f5_2.other W6 (Or.inr (slot_ne (Or.inr (hw _ (List.mem_of_getElem? (i := 22) rfl))) (Or.inr (hw _ (List.mem_of_getElem? (i := 20) rfl))) (by decide) (t := .double) (t' := .double) (by decide) (by decide)))
  have f6_3 : Fld Z h6 a0 "com/example/narrow_passage/narrowpassage/measure/MeasurementArea" "x1" "D" u_x1_a0 := f5_3.other W6 (Or.inr (slot_ne (Or.inr (hw _ (List.mem_of_getElem? (i := 24) rfl))) (Or.inr (hw _ (List.mem_of_getElem? (i := 20) rfl))) (by decide) (t := .double) (t' := .double) (by decide) (by decide)))
  have f6_4 : Fld Z h6 a0 "com/example/narrow_passage/narrowpassage/measure/MeasurementArea" "y1" "D" u_y1_a0 := f5_4.other W6 (Or.inr (slot_ne (Or.inr (hw _ (List.mem_of_getElem? (i := 26) rfl))) (Or.inr (hw _ (List.mem_of_getElem? (i := 20) rfl))) (by decide) (t := .double) (t' := .double) (by decide) (by decide)))
  have K6 : Keep h0 h6 [a0] := K5.wr W6 (Or.inl (List.mem_of_getElem? (i := 0) rfl))
  have N6 := Fr.snoc X6 N5 g_a0
  have z6 : n0 ≤ h6.size := Nat.le_trans z5 (Keep.of_wr W6).1
  obtain ⟨T7, h7, X7, e7, W7, st7⟩ := putF X6 hx hZ hown (host := "") (Or.inl (hw _ (List.mem_of_getElem? (i := 21) rfl))) Via.refl e6 f6_2 f6_0 (Or.inr ⟨(hw _ (List.mem_of_getElem? (i := 22) rfl)), rfl, hnm⟩) (hw _ (List.mem_of_getElem? (i := 2) rfl)) (ty := .double) (by decide) rfl rfl (g := (mkF m 84 #[.val (.ref a0), .val (.double d1), .second, .val (.double d2), .second, .val (.double d3), .second, .val (.double d4), .second] [(.double d2), (.ref a0)])) rfl rfl (hb hby d1_84)
  have f7_0 : Exa Z h7 a0 "com/example/narrow_passage/narrowpassage/measure/MeasurementArea" := f6_0.wr W7
  have f7_1 : Fld Z h7 a0 "com/example/narrow_passage/narrowpassage/measure/MeasurementArea" "x0" "D" (.double d1) := f6_1.other W7 (Or.inr (slot_ne (Or.inr (hw _ (List.mem_of_getElem? (i := 20) rfl))) (Or.inr (hw _ (List.mem_of_getElem? (i := 22) rfl))) (by decide) (t := .double) (t' := .double) (by decide) (by decide)))
  have f7_2 : Fld Z h7 a0 "com/example/narrow_passage/narrowpassage/measure/MeasurementArea" "y0" "D" (.double d2) := f6_2.same W7
  have f7_3 : Fld Z h7 a0 "com/example/narrow_passage/narrowpassage/measure/MeasurementArea" "x1" "D" u_x1_a0 := f6_3.other W7 (Or.inr (slot_ne (Or.inr (hw _ (List.mem_of_getElem? (i := 24) rfl))) (Or.inr (hw _ (List.mem_of_getElem? (i := 22) rfl))) (by decide) (t := .double) (t' := .double) (by decide) (by decide)))
  have f7_4 : Fld Z h7 a0 "com/example/narrow_passage/narrowpassage/measure/MeasurementArea" "y1" "D" u_y1_a0 := f6_4.other W7 (Or.inr (slot_ne (Or.inr (hw _ (List.mem_of_getElem? (i := 26) rfl))) (Or.inr (hw _ (List.mem_of_getElem? (i := 22) rfl))) (by decide) (t := .double) (t' := .double) (by decide) (by decide)))
  have K7 : Keep h0 h7 [a0] := K6.wr W7 (Or.inl (List.mem_of_getElem? (i := 0) rfl))
  have N7 := Fr.snoc X7 N6 g_a0
  have z7 : n0 ≤ h7.size := Nat.le_trans z6 (Keep.of_wr W7).1
  obtain ⟨T8, h8, X8, e8, W8, st8⟩ := putF X7 hx hZ hown (host := "") (Or.inl (hw _ (List.mem_of_getElem? (i := 23) rfl))) Via.refl e7 f7_3 f7_0 (Or.inr ⟨(hw _ (List.mem_of_getElem? (i := 24) rfl)), rfl, hnm⟩) (hw _ (List.mem_of_getElem? (i := 2) rfl)) (ty := .double) (by decide) rfl rfl (g := (mkF m 90 #[.val (.ref a0), .val (.double d1), .second, .val (.double d2), .second, .val (.double d3), .second, .val (.double d4), .second] [(.double d3), (.ref a0)])) rfl rfl (hb hby d1_90)
  have f8_0 : Exa Z h8 a0 "com/example/narrow_passage/narrowpassage/measure/MeasurementArea" := f7_0.wr W8
  have f8_1 : Fld Z h8 a0 "com/example/narrow_passage/narrowpassage/measure/MeasurementArea" "x0" "D" (.double d1) := f7_1.other W8 (Or.inr (slot_ne (Or.inr (hw _ (List.mem_of_getElem? (i := 20) rfl))) (Or.inr (hw _ (List.mem_of_getElem? (i := 24) rfl))) (by decide) (t := .double) (t' := .double) (by decide) (by decide)))
  have f8_2 : Fld Z h8 a0 "com/example/narrow_passage/narrowpassage/measure/MeasurementArea" "y0" "D" (.double d2) := f7_2.other W8 (Or.inr (slot_ne (Or.inr (hw _ (List.mem_of_getElem? (i := 22) rfl))) (Or.inr (hw _ (List.mem_of_getElem? (i := 24) rfl))) (by decide) (t := .double) (t' := .double) (by decide) (by decide)))
  have f8_3 : Fld Z h8 a0 "com/example/narrow_passage/narrowpassage/measure/MeasurementArea" "x1" "D" (.double d3) := f7_3.same W8
  have f8_4 : Fld Z h8 a0 "com/example/narrow_passage/narrowpassage/measure/MeasurementArea" "y1" "D" u_y1_a0 := f7_4.other W8 (Or.inr (slot_ne (Or.inr (hw _ (List.mem_of_getElem? (i := 26) rfl))) (Or.inr (hw _ (List.mem_of_getElem? (i := 24) rfl))) (by decide) (t := .double) (t' := .double) (by decide) (by decide)))
  have K8 : Keep h0 h8 [a0] := K7.wr W8 (Or.inl (List.mem_of_getElem? (i := 0) rfl))
  have N8 := Fr.snoc X8 N7 g_a0
  have z8 : n0 ≤ h8.size := Nat.le_trans z7 (Keep.of_wr W8).1
  obtain ⟨T9, h9, X9, e9, W9, st9⟩ := putF X8 hx hZ hown (host := "") (Or.inl (hw _ (List.mem_of_getElem? (i := 25) rfl))) Via.refl e8 f8_4 f8_0 (Or.inr ⟨(hw _ (List.mem_of_getElem? (i := 26) rfl)), rfl, hnm⟩) (hw _ (List.mem_of_getElem? (i := 2) rfl)) (ty := .double) (by decide) rfl rfl (g := (mkF m 96 #[.val (.ref a0), .val (.double d1), .second, .val (.double d2), .second, .val (.double d3), .second, .val (.double d4), .second] [(.double d4), (.ref a0)])) rfl rfl (hb hby d1_96)
  have f9_0 : Exa Z h9 a0 "com/example/narrow_passage/narrowpassage/measure/MeasurementArea" := f8_0.wr W9
  have f9_1 : Fld Z h9 a0 "com/example/narrow_passage/narrowpassage/measure/MeasurementArea" "x0" "D" (.double d1) := f8_1.other W9 (Or.inr (slot_ne (Or.inr (hw _ (List.mem_of_getElem? (i := 20) rfl))) (Or.inr (hw _ (List.mem_of_getElem? (i := 26) rfl))) (by decide) (t := .double) (t' := .double) (by decide) (by decide)))
  have f9_2 : Fld Z h9 a0 "com/example/narrow_passage/narrowpassage/measure/MeasurementArea" "y0" "D" (.double d2) := f8_2.other W9 (Or.inr (slot_ne (Or.inr (hw _ (List.mem_of_getElem? (i := 22) rfl))) (Or.inr (hw _ (List.mem_of_getElem? (i := 26) rfl))) (by decide) (t := .double) (t' := .double) (by decide) (by decide)))
  have f9_3 : Fld Z h9 a0 "com/example/narrow_passage/narrowpassage/measure/MeasurementArea" "x1" "D" (.double d3) := f8_3.other W9 (Or.inr (slot_ne (Or.inr (hw _ (List.mem_of_getElem? (i := 24) rfl))) (Or.inr (hw _ (List.mem_of_getElem? (i := 26) rfl))) (by decide) (t := .double) (t' := .double) (by decide) (by decide)))
  have f9_4 : Fld Z h9 a0 "com/example/narrow_passage/narrowpassage/measure/MeasurementArea" "y1" "D" (.double d4) := f8_4.same W9
  have K9 : Keep h0 h9 [a0] := K8.wr W9 (Or.inl (List.mem_of_getElem? (i := 0) rfl))
  have N9 := Fr.snoc X9 N8 g_a0
  have z9 : n0 ≤ h9.size := Nat.le_trans z8 (Keep.of_wr W9).1
  obtain ⟨fs, hr, hrun, hended, hW, hsame⟩ := X9.leave (v := none) (fun _ => rfl)
  refine ⟨_, _, pre0 _ ?_, hrun, hended, _, _, rfl, ?_, ⟨_, rfl⟩, hW, hsame.mono (by decide) (by decide)⟩
  · show Steps p.tables e below (s₁.setTop (mkF m 0 #[.val (.ref a0), .val (.double d1), .second, .val (.double d2), .second, .val (.double d3), .second, .val (.double d4), .second] [])) _
    refine XS.aloadN X0.here hx rfl (hb hby d1_0) rfl rfl ?_
    show Steps p.tables e below (s₁.setTop (mkF m 1 #[.val (.ref a0), .val (.double d1), .second, .val (.double d2), .second, .val (.double d3), .second, .val (.double d4), .second] [(.ref a0)])) _
    refine st1 _ ?_
    show Steps p.tables e below (T1.setTop (mkF m 4 #[.val (.ref a0), .val (.double d1), .second, .val (.double d2), .second, .val (.double d3), .second, .val (.double d4), .second] [])) _
    refine XS.dloadN X1.here hx rfl (hb hby d1_4) rfl ?_
    show Steps p.tables e below (T1.setTop (mkF m 5 #[.val (.ref a0), .val (.double d1), .second, .val (.double d2), .second, .val (.double d3), .second, .val (.double d4), .second] [(.double d1)])) _
    refine st2 _ ?_
    show Steps p.tables e below (T2.setTop (mkF m 8 #[.val (.ref a0), .val (.double d1), .second, .val (.double d2), .second, .val (.double d3), .second, .val (.double d4), .second] [(.int (nar .boolean (j3_8_s0 d1)))])) _
    refine XS.ifNo X2.here hx rfl (hb hby d1_8) rfl hc8 ?_
    show Steps p.tables e below (T2.setTop (mkF m 11 #[.val (.ref a0), .val (.double d1), .second, .val (.double d2), .second, .val (.double d3), .second, .val (.double d4), .second] [])) _
    refine XS.dloadN X2.here hx rfl (hb hby d1_11) rfl ?_
    show Steps p.tables e below (T2.setTop (mkF m 12 #[.val (.ref a0), .val (.double d1), .second, .val (.double d2), .second, .val (.double d3), .second, .val (.double d4), .second] [(.double d2)])) _
    refine st3 _ ?_
    show Steps p.tables e below (T3.setTop (mkF m 15 #[.val (.ref a0), .val (.double d1), .second, .val (.double d2), .second, .val (.double d3), .second, .val (.double d4), .second] [(.int (nar .boolean (j3_8_s0 d2)))])) _
    refine XS.ifNo X3.here hx rfl (hb hby d1_15) rfl hc15 ?_
    show Steps p.tables e below (T3.setTop (mkF m 18 #[.val (.ref a0), .val (.double d1), .second, .val (.double d2), .second, .val (.double d3), .second, .val (.double d4), .second] [])) _
    refine XS.dload X3.here hx rfl (hb hby d1_18) rfl ?_
    show Steps p.tables e below (T3.setTop (mkF m 20 #[.val (.ref a0), .val (.double d1), .second, .val (.double d2), .second, .val (.double d3), .second, .val (.double d4), .second] [(.double d3)])) _
    refine st4 _ ?_
    show Steps p.tables e below (T4.setTop (mkF m 23 #[.val (.ref a0), .val (.double d1), .second, .val (.double d2), .second, .val (.double d3), .second, .val (.double d4), .second] [(.int (nar .boolean (j3_8_s0 d3)))])) _
    refine XS.ifNo X4.here hx rfl (hb hby d1_23) rfl hc23 ?_
    show Steps p.tables e below (T4.setTop (mkF m 26 #[.val (.ref a0), .val (.double d1), .second, .val (.double d2), .second, .val (.double d3), .second, .val (.double d4), .second] [])) _
    refine XS.dload X4.here hx rfl (hb hby d1_26) rfl ?_
    show Steps p.tables e below (T4.setTop (mkF m 28 #[.val (.ref a0), .val (.double d1), .second, .val (.double d2), .second, .val (.double d3), .second, .val (.double d4), .second] [(.double d4)])) _
    refine st5 _ ?_
    show Steps p.tables e below (T5.setTop (mkF m 31 #[.val (.ref a0), .val (.double d1), .second, .val (.double d2), .second, .val (.double d3), .second, .val (.double d4), .second] [(.int (nar .boolean (j3_8_s0 d4)))])) _
    refine XS.ifYes X5.here hx rfl (pc0 := 31) (pc' := 44) rfl (hb hby d1_31) rfl hc31 (by decide) (by decide) ?_
    show Steps p.tables e below (T5.setTop (mkF m 44 #[.val (.ref a0), .val (.double d1), .second, .val (.double d2), .second, .val (.double d3), .second, .val (.double d4), .second] [])) _
    refine XS.dloadN X5.here hx rfl (hb hby d1_44) rfl ?_
    show Steps p.tables e below (T5.setTop (mkF m 45 #[.val (.ref a0), .val (.double d1), .second, .val (.double d2), .second, .val (.double d3), .second, .val (.double d4), .second] [(.double d1)])) _
    refine XS.dload X5.here hx rfl (hb hby d1_45) rfl ?_
    show Steps p.tables e below (T5.setTop (mkF m 47 #[.val (.ref a0), .val (.double d1), .second, .val (.double d2), .second, .val (.double d3), .second, .val (.double d4), .second] [(.double d3), (.double d1)])) _
    refine XS.dcmpS X5.here hx rfl (hb hby d1_47) rfl rfl ?_
    show Steps p.tables e below (T5.setTop (mkF m 48 #[.val (.ref a0), .val (.double d1), .second, .val (.double d2), .second, .val (.double d3), .second, .val (.double d4), .second] [(.int (cmpValue (FP.dcmp d1 d3) .g))])) _
    refine XS.ifNo X5.here hx rfl (hb hby d1_48) rfl hc48 ?_
    show Steps p.tables e below (T5.setTop (mkF m 51 #[.val (.ref a0), .val (.double d1), .second, .val (.double d2), .second, .val (.double d3), .second, .val (.double d4), .second] [])) _
    refine XS.dloadN X5.here hx rfl (hb hby d1_51) rfl ?_
    show Steps p.tables e below (T5.setTop (mkF m 52 #[.val (.ref a0), .val (.double d1), .second, .val (.double d2), .second, .val (.double d3), .second, .val (.double d4), .second] [(.double d2)])) _
    refine XS.dload X5.here hx rfl (hb hby d1_52) rfl ?_
    show Steps p.tables e below (T5.setTop (mkF m 54 #[.val (.ref a0), .val (.double d1), .second, .val (.double d2), .second, .val (.double d3), .second, .val (.double d4), .second] [(.double d4), (.double d2)])) _
    refine XS.dcmpS X5.here hx rfl (hb hby d1_54) rfl rfl ?_
    show Steps p.tables e below (T5.setTop (mkF m 55 #[.val (.ref a0), .val (.double d1), .second, .val (.double d2), .second, .val (.double d3), .second, .val (.double d4), .second] [(.int (cmpValue (FP.dcmp d2 d4) .g))])) _
    refine XS.ifYes X5.here hx rfl (pc0 := 55) (pc' := 77) rfl (hb hby d1_55) rfl hc55 (by decide) (by decide) ?_
    show Steps p.tables e below (T5.setTop (mkF m 77 #[.val (.ref a0), .val (.double d1), .second, .val (.double d2), .second, .val (.double d3), .second, .val (.double d4), .second] [])) _
    refine XS.aloadN X5.here hx rfl (hb hby d1_77) rfl rfl ?_
    show Steps p.tables e below (T5.setTop (mkF m 78 #[.val (.ref a0), .val (.double d1), .second, .val (.double d2), .second, .val (.double d3), .second, .val (.double d4), .second] [(.ref a0)])) _
    refine XS.dloadN X5.here hx rfl (hb hby d1_78) rfl ?_
    show Steps p.tables e below (T5.setTop (mkF m 79 #[.val (.ref a0), .val (.double d1), .second, .val (.double d2), .second, .val (.double d3), .second, .val (.double d4), .second] [(.double d1), (.ref a0)])) _
    refine st6 _ ?_
    show Steps p.tables e below (T6.setTop (mkF m 82 #[.val (.ref a0), .val (.double d1), .second, .val (.double d2), .second, .val (.double d3), .second, .val (.double d4), .second] [])) _
    refine XS.aloadN X6.here hx rfl (hb hby d1_82) rfl rfl ?_
    show Steps p.tables e below (T6.setTop (mkF m 83 #[.val (.ref a0), .val (.double d1), .second, .val (.double d2), .second, .val (.double d3), .second, .val (.double d4), .second] [(.ref a0)])) _
    refine XS.dloadN X6.here hx rfl (hb hby d1_83) rfl ?_
    show Steps p.tables e below (T6.setTop (mkF m 84 #[.val (.ref a0), .val (.double d1), .second, .val (.double d2), .second, .val (.double d3), .second, .val (.double d4), .second] [(.double d2), (.ref a0)])) _
    refine st7 _ ?_
    show Steps p.tables e below (T7.setTop (mkF m 87 #[.val (.ref a0), .val (.double d1), .second, .val (.double d2), .second, .val (.double d3), .second, .val (.double d4), .second] [])) _
    refine XS.aloadN X7.here hx rfl (hb hby d1_87) rfl rfl ?_
    show Steps p.tables e below (T7.setTop (mkF m 88 #[.val (.ref a0), .val (.double d1), .second, .val (.double d2), .second, .val (.double d3), .second, .val (.double d4), .second] [(.ref a0)])) _
    refine XS.dload X7.here hx rfl (hb hby d1_88) rfl ?_
    show Steps p.tables e below (T7.setTop (mkF m 90 #[.val (.ref a0), .val (.double d1), .second, .val (.double d2), .second, .val (.double d3), .second, .val (.double d4), .second] [(.double d3), (.ref a0)])) _
    refine st8 _ ?_
    show Steps p.tables e below (T8.setTop (mkF m 93 #[.val (.ref a0), .val (.double d1), .second, .val (.double d2), .second, .val (.double d3), .second, .val (.double d4), .second] [])) _
    refine XS.aloadN X8.here hx rfl (hb hby d1_93) rfl rfl ?_
    show Steps p.tables e below (T8.setTop (mkF m 94 #[.val (.ref a0), .val (.double d1), .second, .val (.double d2), .second, .val (.double d3), .second, .val (.double d4), .second] [(.ref a0)])) _
    refine XS.dload X8.here hx rfl (hb hby d1_94) rfl ?_
    show Steps p.tables e below (T8.setTop (mkF m 96 #[.val (.ref a0), .val (.double d1), .second, .val (.double d2), .second, .val (.double d3), .second, .val (.double d4), .second] [(.double d4), (.ref a0)])) _
    refine st9 _ ?_
    show Steps p.tables e below (T9.setTop (mkF m 99 #[.val (.ref a0), .val (.double d1), .second, .val (.double d2), .second, .val (.double d3), .second, .val (.double d4), .second] [])) _
    exact X9.returnOut hx Bd.returns (hb hby d1_99) hr
  · show Q1 Z a0 d1 d2 d3 d4 u_x0_a0 u_y0_a0 u_x1_a0 u_y1_a0 h0 n0 _ T9.heap _
    rw [e9]
    exact ⟨rfl, N9, K9, f9_0, f9_1, f9_2, f9_3, f9_4⟩
theorem d5_0 : decode prog_11_method_2_code 0 = .ok (.aload_n 0, 1) := by decide +kernel
theorem d5_1 : decode prog_11_method_2_code 1 = .ok (.getfield 33, 3) := by decide +kernel
theorem d5_4 : decode prog_11_method_2_code 4 = .ok (.aload_n 0, 1) := by decide +kernel
theorem d5_5 : decode prog_11_method_2_code 5 = .ok (.getfield 24, 3) := by decide +kernel
theorem d5_8 : decode prog_11_method_2_code 8 = .ok (.dsub, 1) := by decide +kernel
theorem d5_9 : decode prog_11_method_2_code 9 = .ok (.aload_n 0, 1) := by decide +kernel
theorem d5_10 : decode prog_11_method_2_code 10 = .ok (.getfield 36, 3) := by decide +kernel
theorem d5_13 : decode prog_11_method_2_code 13 = .ok (.aload_n 0, 1) := by decide +kernel
theorem d5_14 : decode prog_11_method_2_code 14 = .ok (.getfield 30, 3) := by decide +kernel
theorem d5_17 : decode prog_11_method_2_code 17 = .ok (.dsub, 1) := by decide +kernel
theorem d5_18 : decode prog_11_method_2_code 18 = .ok (.dmul, 1) := by decide +kernel
theorem d5_19 : decode prog_11_method_2_code 19 = .ok (.dreturn, 1) := by decide +kernel
theorem ef_5 (m : MethodId) (a0 : Addr) : entryFrame m #[(.ref a0)] 1 = mkF m 0 #[.val (.ref a0)] [] := by first | (simp [entryFrame, mkF, argsToLocals, Value.category]; done) | rfl
def Q5 (Z : State) (a0 : Addr) (w_x1_a0 : UInt64) (w_x0_a0 : UInt64) (w_y1_a0 : UInt64) (w_y0_a0 : UInt64) (h0 : Heap) (n0 : Nat) (v : Option Value) (h : Heap) (L : List Loc) : Prop := v = some (.double (r5 w_x1_a0 w_x0_a0 w_y1_a0 w_y0_a0)) ∧ Fr n0 L ∧ h = h0
set_option maxRecDepth 65536 in
set_option maxHeartbeats 40000000 in
theorem rm5 (l : Launch) (Z : State) (aw : Array Value) (hw : ∀ d ∈ tables_1, d.before aw Z = true) (ws : List Jvm.Cond) (a0 : Addr) (w_x1_a0 : UInt64) (w_x0_a0 : UInt64) (w_y1_a0 : UInt64) (w_y0_a0 : UInt64) (h0 : Heap) (n0 : Nat) (Z0 : n0 ≤ h0.size) (F_x1_a0 : Fld Z h0 a0 "com/example/narrow_passage/narrowpassage/measure/MeasurementArea" "x1" "D" (.double w_x1_a0)) (F_x0_a0 : Fld Z h0 a0 "com/example/narrow_passage/narrowpassage/measure/MeasurementArea" "x0" "D" (.double w_x0_a0)) (hn8 : Jvm.Free.Fl.NoNaN64 (FP.dsub w_x1_a0 w_x0_a0)) (F_y1_a0 : Fld Z h0 a0 "com/example/narrow_passage/narrowpassage/measure/MeasurementArea" "y1" "D" (.double w_y1_a0)) (F_y0_a0 : Fld Z h0 a0 "com/example/narrow_passage/narrowpassage/measure/MeasurementArea" "y0" "D" (.double w_y0_a0)) (hn17 : Jvm.Free.Fl.NoNaN64 (FP.dsub w_y1_a0 w_y0_a0)) (hn18 : Jvm.Free.Fl.NoNaN64 (FP.dmul (FP.dsub w_x1_a0 w_x0_a0) (FP.dsub w_y1_a0 w_y0_a0))) :
    MetFree l (⟨"com/example/narrow_passage/narrowpassage/measure/MeasurementArea", "getSize", "()D"⟩ : MethodName) (head1 (Jvm.Cond.code (⟨"com/example/narrow_passage/narrowpassage/measure/MeasurementArea", "getSize", "()D"⟩ : MethodName) prog_11_method_2_code 1 (some .double) :: ws) ({ frames := 0, cells := 0, slots := 0, locals := 0 } : Room)) (fun a U => a = #[(.ref a0)] ∧ Z.Warmed39 U.vm ∧ U.heap = h0) (fun _ _ _ _ _ => True) (fun _ U o U' => ∃ v L, o = .returned v ∧ Q5 Z a0 w_x1_a0 w_x0_a0 w_y1_a0 w_y0_a0 h0 n0 v U'.heap L ∧ FrameEnd U o U' L ({ frames := 0, cells := 0, slots := 0, locals := 0 } : Room).cells ({ frames := 0, cells := 0, slots := 0, locals := 0 } : Room).slots) := by
  refine MetFree.of_bodySF (plainFor_of_name pn_1) hisR ?_
  intro p e s m args below meth c s₁ Bd hml0 hP hK
  obtain ⟨rfl, hZ, hh⟩ := hP
  have hx := Bd.exec
  have hby := Bd.bytes
  have hml : c.maxLocals = 1 := hml0
  have hown : s.vm.findClass "com/example/narrow_passage/narrowpassage/measure/MeasurementArea" = some m.cls := findClass_of_methodNamed Bd.named
  have hnm := (name_of_methodNamed Bd.named Bd.method).1
  have X0 : Stand p l e ({ frames := 0, cells := 0, slots := 0, locals := 0 } : Room) s m #[(.ref a0)] below meth c s₁ [] 0 0 := Stand.of_body Bd
  have e0 : s₁.heap = h0 := by rw [← hh, Bd.state]; rfl
  have N0 := Fr.nil n0
  have pre0 : ∀ t, Steps p.tables e below (s₁.setTop (mkF m 0 #[.val (.ref a0)] [])) t → Steps p.tables e below (s₁.setTop (entryFrame m #[(.ref a0)] 1)) t := fun t k => castTop (ef_5 m a0) k
  obtain ⟨T1, X1, e1, st1⟩ := getF X0 hx hZ hown (host := "") (Or.inl (hw _ (List.mem_of_getElem? (i := 23) rfl))) Via.refl e0 F_x1_a0 (g := (mkF m 1 #[.val (.ref a0)] [(.ref a0)])) rfl rfl (hb hby d5_1)
  obtain ⟨T2, X2, e2, st2⟩ := getF X1 hx hZ hown (host := "") (Or.inl (hw _ (List.mem_of_getElem? (i := 19) rfl))) Via.refl e1 F_x0_a0 (g := (mkF m 5 #[.val (.ref a0)] [(.ref a0), (.double w_x1_a0)])) rfl rfl (hb hby d5_5)
  obtain ⟨T3, X3, e3, st3⟩ := getF X2 hx hZ hown (host := "") (Or.inl (hw _ (List.mem_of_getElem? (i := 25) rfl))) Via.refl e2 F_y1_a0 (g := (mkF m 10 #[.val (.ref a0)] [(.ref a0), (.double (FP.dsub w_x1_a0 w_x0_a0))])) rfl rfl (hb hby d5_10)
  obtain ⟨T4, X4, e4, st4⟩ := getF X3 hx hZ hown (host := "") (Or.inl (hw _ (List.mem_of_getElem? (i := 21) rfl))) Via.refl e3 F_y0_a0 (g := (mkF m 14 #[.val (.ref a0)] [(.ref a0), (.double w_y1_a0), (.double (FP.dsub w_x1_a0 w_x0_a0))])) rfl rfl (hb hby d5_14)
  obtain ⟨fs, hr, hrun, hended, hW, hsame⟩ := X4.leave (v := some (.double (r5 w_x1_a0 w_x0_a0 w_y1_a0 w_y0_a0))) (fun h => by rw [Bd.returns] at h; cases h)
  refine ⟨_, _, pre0 _ ?_, hrun, hended, _, _, rfl, ?_, ⟨_, rfl⟩, hW, hsame.mono (by decide) (by decide)⟩
  · show Steps p.tables e below (s₁.setTop (mkF m 0 #[.val (.ref a0)] [])) _
    refine XS.aloadN X0.here hx rfl (hb hby d5_0) rfl rfl ?_
    show Steps p.tables e below (s₁.setTop (mkF m 1 #[.val (.ref a0)] [(.ref a0)])) _
    refine st1 _ ?_
    show Steps p.tables e below (T1.setTop (mkF m 4 #[.val (.ref a0)] [(.double w_x1_a0)])) _
    refine XS.aloadN X1.here hx rfl (hb hby d5_4) rfl rfl ?_
    show Steps p.tables e below (T1.setTop (mkF m 5 #[.val (.ref a0)] [(.ref a0), (.double w_x1_a0)])) _
    refine st2 _ ?_
    show Steps p.tables e below (T2.setTop (mkF m 8 #[.val (.ref a0)] [(.double w_x0_a0), (.double w_x1_a0)])) _
    refine XS.dsubS X2.here hx rfl (hb hby d5_8) rfl hn8 rfl ?_
    show Steps p.tables e below (T2.setTop (mkF m 9 #[.val (.ref a0)] [(.double (FP.dsub w_x1_a0 w_x0_a0))])) _
    refine XS.aloadN X2.here hx rfl (hb hby d5_9) rfl rfl ?_
    show Steps p.tables e below (T2.setTop (mkF m 10 #[.val (.ref a0)] [(.ref a0), (.double (FP.dsub w_x1_a0 w_x0_a0))])) _
    refine st3 _ ?_
    show Steps p.tables e below (T3.setTop (mkF m 13 #[.val (.ref a0)] [(.double w_y1_a0), (.double (FP.dsub w_x1_a0 w_x0_a0))])) _
    refine XS.aloadN X3.here hx rfl (hb hby d5_13) rfl rfl ?_
    show Steps p.tables e below (T3.setTop (mkF m 14 #[.val (.ref a0)] [(.ref a0), (.double w_y1_a0), (.double (FP.dsub w_x1_a0 w_x0_a0))])) _
    refine st4 _ ?_
    show Steps p.tables e below (T4.setTop (mkF m 17 #[.val (.ref a0)] [(.double w_y0_a0), (.double w_y1_a0), (.double (FP.dsub w_x1_a0 w_x0_a0))])) _
    refine XS.dsubS X4.here hx rfl (hb hby d5_17) rfl hn17 rfl ?_
    show Steps p.tables e below (T4.setTop (mkF m 18 #[.val (.ref a0)] [(.double (FP.dsub w_y1_a0 w_y0_a0)), (.double (FP.dsub w_x1_a0 w_x0_a0))])) _
    refine XS.dmulS X4.here hx rfl (hb hby d5_18) rfl hn18 rfl ?_
    show Steps p.tables e below (T4.setTop (mkF m 19 #[.val (.ref a0)] [(.double (FP.dmul (FP.dsub w_x1_a0 w_x0_a0) (FP.dsub w_y1_a0 w_y0_a0)))])) _
    exact retD X4 hx Bd.returns (hb hby d5_19) hr
  · show Q5 Z a0 w_x1_a0 w_x0_a0 w_y1_a0 w_y0_a0 h0 n0 _ T4.heap _
    rw [e4]
    exact ⟨rfl, N0, rfl⟩
theorem pn_0 : plainName "com/example/narrow_passage/narrowpassage/measure/MeasurementAreaGetSizePinLaw" = true := by first | (simp [plainName, overriddenIn]; done) | decide +kernel
theorem ef_0 (m : MethodId) (p0 : Int32) (p1 : Int32) (p2 : Int32) (p3 : Int32) (p4 : Int32) : entryFrame m #[(.int p0), (.int p1), (.int p2), (.int p3), (.int p4)] maxLocals = mkF m 0 #[.val (.int p0), .val (.int p1), .val (.int p2), .val (.int p3), .val (.int p4), .unset, .unset, .unset, .unset, .unset, .unset, .unset, .unset, .unset, .unset, .unset, .unset, .unset, .unset, .unset, .unset, .unset, .unset, .unset, .unset] [] := by first | (simp [entryFrame, mkF, argsToLocals, Value.category, maxLocals]; done) | rfl
def Q0 (Z : State) (p0 : Int32) (p1 : Int32) (p2 : Int32) (p3 : Int32) (p4 : Int32) (h0 : Heap) (n0 : Nat) (v : Option Value) (h : Heap) (L : List Loc) : Prop := v = some (.int (1 : Int32)) ∧ Fr n0 L
set_option maxRecDepth 65536 in
set_option maxHeartbeats 40000000 in
theorem rm0 (l : Launch) (Z : State) (aw : Array Value) (hw : ∀ d ∈ tables_1, d.before aw Z = true) (ws : List Jvm.Cond) (p0 : Int32) (p1 : Int32) (p2 : Int32) (p3 : Int32) (p4 : Int32) (h0 : Heap) (n0 : Nat) (Z0 : n0 ≤ h0.size) (hn50 : Jvm.Free.Fl.NoNaN64 (FP.dmul (FP.i2d p0) (j0_34_s0 p0 p1 p2 p3 p4))) (hn57 : Jvm.Free.Fl.NoNaN64 (FP.dmul (FP.i2d p1) (j0_34_s0 p0 p1 p2 p3 p4))) (hn68 : Jvm.Free.Fl.NoNaN64 (FP.dmul (FP.l2d ((p0.toInt64) + (v0_7 p0 p1 p2 p3 p4))) (j0_34_s0 p0 p1 p2 p3 p4))) (hn79 : Jvm.Free.Fl.NoNaN64 (FP.dmul (FP.l2d ((p1.toInt64) + (v0_16 p0 p1 p2 p3 p4))) (j0_34_s0 p0 p1 p2 p3 p4))) (hn1_5_94 : Jvm.Free.Fl.NoNaN64 (v0_51 p0 p1 p2 p3 p4)) (hc8_94 : ifCond.holds .eq (nar .boolean (j3_8_s0 (v0_51 p0 p1 p2 p3 p4))) = false) (hn1_12_94 : Jvm.Free.Fl.NoNaN64 (v0_58 p0 p1 p2 p3 p4)) (hc15_94 : ifCond.holds .eq (nar .boolean (j3_8_s0 (v0_58 p0 p1 p2 p3 p4))) = false) (hn1_20_94 : Jvm.Free.Fl.NoNaN64 (v0_69 p0 p1 p2 p3 p4)) (hc23_94 : ifCond.holds .eq (nar .boolean (j3_8_s0 (v0_69 p0 p1 p2 p3 p4))) = false) (hn1_28_94 : Jvm.Free.Fl.NoNaN64 (v0_80 p0 p1 p2 p3 p4)) (hc31_94 : ifCond.holds .ne (nar .boolean (j3_8_s0 (v0_80 p0 p1 p2 p3 p4))) = true) (hc48_94 : ifCond.holds .ge (cmpValue (FP.dcmp (v0_51 p0 p1 p2 p3 p4) (v0_69 p0 p1 p2 p3 p4)) .g) = false) (hc55_94 : ifCond.holds .lt (cmpValue (FP.dcmp (v0_58 p0 p1 p2 p3 p4) (v0_80 p0 p1 p2 p3 p4)) .g) = true) (hn8_101 : Jvm.Free.Fl.NoNaN64 (FP.dsub (v0_69 p0 p1 p2 p3 p4) (v0_51 p0 p1 p2 p3 p4))) (hn17_101 : Jvm.Free.Fl.NoNaN64 (FP.dsub (v0_80 p0 p1 p2 p3 p4) (v0_58 p0 p1 p2 p3 p4))) (hn18_101 : Jvm.Free.Fl.NoNaN64 (FP.dmul (FP.dsub (v0_69 p0 p1 p2 p3 p4) (v0_51 p0 p1 p2 p3 p4)) (FP.dsub (v0_80 p0 p1 p2 p3 p4) (v0_58 p0 p1 p2 p3 p4)))) (hn114 : Jvm.Free.Fl.NoNaN64 (FP.dmul (FP.l2d ((v0_7 p0 p1 p2 p3 p4) * (v0_16 p0 p1 p2 p3 p4))) (j0_34_s0 p0 p1 p2 p3 p4))) (hn117 : Jvm.Free.Fl.NoNaN64 (FP.dmul (FP.dmul (FP.l2d ((v0_7 p0 p1 p2 p3 p4) * (v0_16 p0 p1 p2 p3 p4))) (j0_34_s0 p0 p1 p2 p3 p4)) (j0_34_s0 p0 p1 p2 p3 p4))) (hres140 : (j0_125_s0 p0 p1 p2 p3 p4) = (1 : Int32)) :
    MetFree l x (head1 (Jvm.Cond.code x code maxLocals ret :: ws) room_1) (fun a U => a = #[(.int p0), (.int p1), (.int p2), (.int p3), (.int p4)] ∧ Z.Warmed39 U.vm ∧ U.heap = h0) (fun _ _ _ _ _ => True) (fun _ U o U' => ∃ v L, o = .returned v ∧ Q0 Z p0 p1 p2 p3 p4 h0 n0 v U'.heap L ∧ FrameEnd U o U' L 1 4) := by
  refine MetFree.of_bodySF (plainFor_of_name pn_0) hisR ?_
  intro p e s m args below meth c s₁ Bd hml0 hP hK
  obtain ⟨rfl, hZ, hh⟩ := hP
  have hx := Bd.exec
  have hby := Bd.bytes
  have hml : c.maxLocals = 25 := hml0
  have hown : s.vm.findClass "com/example/narrow_passage/narrowpassage/measure/MeasurementAreaGetSizePinLaw" = some m.cls := findClass_of_methodNamed Bd.named
  have hnm := (name_of_methodNamed Bd.named Bd.method).1
  have X0 : Stand p l e room_1 s m #[(.int p0), (.int p1), (.int p2), (.int p3), (.int p4)] below meth c s₁ [] 0 0 := Stand.of_body Bd
  have e0 : s₁.heap = h0 := by rw [← hh, Bd.state]; rfl
  have N0 := Fr.nil n0
  have pre0 : ∀ t, Steps p.tables e below (s₁.setTop (mkF m 0 #[.val (.int p0), .val (.int p1), .val (.int p2), .val (.int p3), .val (.int p4), .unset, .unset, .unset, .unset, .unset, .unset, .unset, .unset, .unset, .unset, .unset, .unset, .unset, .unset, .unset, .unset, .unset, .unset, .unset, .unset] [])) t → Steps p.tables e below (s₁.setTop (entryFrame m #[(.int p0), (.int p1), (.int p2), (.int p3), (.int p4)] maxLocals)) t := fun t k => castTop (ef_0 m p0 p1 p2 p3 p4) k
  obtain ⟨T1, h1, X1, e1, E1, A1, D1, -, st1⟩ := newO X0 hx hZ hown (hw _ (List.mem_of_getElem? (i := 1) rfl)) (hw _ (List.mem_of_getElem? (i := 2) rfl)) (hw _ (List.mem_of_getElem? (i := 3) rfl)) e0 (g := (mkF m 82 #[.val (.int p0), .val (.int p1), .val (.int p2), .val (.int p3), .val (.int p4), .val (.long (v0_7 p0 p1 p2 p3 p4)), .second, .val (.long (v0_16 p0 p1 p2 p3 p4)), .second, .val (.int (j0_22_s0 p0 p1 p2 p3 p4)), .val (.double (j0_34_s0 p0 p1 p2 p3 p4)), .second, .val (.double (v0_51 p0 p1 p2 p3 p4)), .second, .val (.double (v0_58 p0 p1 p2 p3 p4)), .second, .val (.double (v0_69 p0 p1 p2 p3 p4)), .second, .val (.double (v0_80 p0 p1 p2 p3 p4)), .second, .unset, .unset, .unset, .unset, .unset] [])) rfl (hb hby at_82) (by decide) (by decide)
  obtain ⟨b1, g1⟩ : ∃ z, z = h0.size := ⟨_, rfl⟩
  rw [← g1] at A1 D1 st1
  have g_b1 : n0 ≤ b1 := Nat.le_trans Z0 (Nat.le_of_eq g1.symm)
  have z1 : n0 ≤ h1.size := Nat.le_trans Z0 E1.1
  have F1_x0 : Fld Z h1 b1 "com/example/narrow_passage/narrowpassage/measure/MeasurementArea" "x0" "D" (.double (0 : UInt64)) := D1 (Or.inr (hw _ (List.mem_of_getElem? (i := 20) rfl))) (ty := .double) (by decide)
  have F1_y0 : Fld Z h1 b1 "com/example/narrow_passage/narrowpassage/measure/MeasurementArea" "y0" "D" (.double (0 : UInt64)) := D1 (Or.inr (hw _ (List.mem_of_getElem? (i := 22) rfl))) (ty := .double) (by decide)
  have F1_x1 : Fld Z h1 b1 "com/example/narrow_passage/narrowpassage/measure/MeasurementArea" "x1" "D" (.double (0 : UInt64)) := D1 (Or.inr (hw _ (List.mem_of_getElem? (i := 24) rfl))) (ty := .double) (by decide)
  have F1_y1 : Fld Z h1 b1 "com/example/narrow_passage/narrowpassage/measure/MeasurementArea" "y1" "D" (.double (0 : UInt64)) := D1 (Or.inr (hw _ (List.mem_of_getElem? (i := 26) rfl))) (ty := .double) (by decide)
  obtain ⟨_, _, ⟨T2, L2, k2, n2⟩, -, X2, ⟨Lc2, hQ2, l2, y2, z2'⟩, st2⟩ := X1.specialBack hx (y := (⟨"com/example/narrow_passage/narrowpassage/measure/MeasurementArea", "<init>", "(DDDD)V"⟩ : MethodName)) rfl hown (mvT hZ (hw _ (List.mem_of_getElem? (i := 4) rfl))) (mvT hZ (hw _ (List.mem_of_getElem? (i := 5) rfl))) (mvT hZ (hw _ (List.mem_of_getElem? (i := 6) rfl))) (by decide) (backOf (W := 1) (rm1 l Z aw hw [] b1 (v0_51 p0 p1 p2 p3 p4) (v0_58 p0 p1 p2 p3 p4) (v0_69 p0 p1 p2 p3 p4) (v0_80 p0 p1 p2 p3 p4) (.double (0 : UInt64)) (.double (0 : UInt64)) (.double (0 : UInt64)) (.double (0 : UInt64)) h1 n0 z1 A1 F1_x0 F1_y0 F1_x1 F1_y1 hn1_5_94 hc8_94 hn1_12_94 hc15_94 hn1_20_94 hc23_94 hn1_28_94 hc31_94 hc48_94 hc55_94 g_b1) hZ (hw _ (List.mem_of_getElem? (i := 6) rfl)) (hw _ (List.mem_of_getElem? (i := 3) rfl)) (by decide) (by decide)) (g := (mkF m 94 #[.val (.int p0), .val (.int p1), .val (.int p2), .val (.int p3), .val (.int p4), .val (.long (v0_7 p0 p1 p2 p3 p4)), .second, .val (.long (v0_16 p0 p1 p2 p3 p4)), .second, .val (.int (j0_22_s0 p0 p1 p2 p3 p4)), .val (.double (j0_34_s0 p0 p1 p2 p3 p4)), .second, .val (.double (v0_51 p0 p1 p2 p3 p4)), .second, .val (.double (v0_58 p0 p1 p2 p3 p4)), .second, .val (.double (v0_69 p0 p1 p2 p3 p4)), .second, .val (.double (v0_80 p0 p1 p2 p3 p4)), .second, .unset, .unset, .unset, .unset, .unset] [(.double (v0_80 p0 p1 p2 p3 p4)), (.double (v0_69 p0 p1 p2 p3 p4)), (.double (v0_58 p0 p1 p2 p3 p4)), (.double (v0_51 p0 p1 p2 p3 p4)), (.ref b1), (.ref b1)])) rfl (by rw [hml]; rfl) (Steps.refl _) (a := b1) (argsL := [(.double (v0_51 p0 p1 p2 p3 p4)), (.double (v0_58 p0 p1 p2 p3 p4)), (.double (v0_69 p0 p1 p2 p3 p4)), (.double (v0_80 p0 p1 p2 p3 p4))]) (rest := [(.ref b1)]) (lenOf pd_2 rfl) rfl (by show 2 * 0 + _ ≤ _; exact Nat.le_of_eq rfl) (hb hby at_94) (fun _ _ => ⟨rfl, e1, (by decide : 1 + 0 ≤ _), (by decide : 4 + 0 ≤ _)⟩)
  dsimp only [Pt.U, Pt.locs, Pt.cells, Pt.slots] at X2 l2 y2 z2' st2 hQ2
  subst l2 y2 z2'
  obtain ⟨rfl, N2q, K2q, x2, f2_k0, f2_k1, f2_k2, f2_k3⟩ := hQ2
  have z2 : n0 ≤ T2.heap.size := Nat.le_trans z1 K2q.1
  have N2 := Fr.app N0 N2q
  obtain ⟨cq3, kq3, q3a, q3b, q3c⟩ := isOf hZ rfl x2
  obtain ⟨_, _, ⟨T3, L3, k3, n3⟩, -, X3, ⟨Lc3, hQ3, l3, y3, z3'⟩, st3⟩ := X2.virtualBack hx (y := (⟨"com/example/narrow_passage/narrowpassage/measure/MeasurementArea", "getSize", "()D"⟩ : MethodName)) (z := (⟨"com/example/narrow_passage/narrowpassage/measure/MeasurementArea", "getSize", "()D"⟩ : MethodName)) hown (mvT hZ (hw _ (List.mem_of_getElem? (i := 27) rfl))) (mvT hZ (hw _ (List.mem_of_getElem? (i := 28) rfl))) (notFace_of_selects (args := #[]) (mvT hZ (hw _ (List.mem_of_getElem? (i := 30) rfl)))) (mvT hZ (hw _ (List.mem_of_getElem? (i := 30) rfl))) (mvT hZ (hw _ (List.mem_of_getElem? (i := 29) rfl))) (by decide) (backOf (W := 0) (rm5 l Z aw hw [] b1 (v0_69 p0 p1 p2 p3 p4) (v0_51 p0 p1 p2 p3 p4) (v0_80 p0 p1 p2 p3 p4) (v0_58 p0 p1 p2 p3 p4) T2.heap n0 z2 f2_k2 f2_k0 hn8_101 f2_k3 f2_k1 hn17_101 hn18_101) hZ (hw _ (List.mem_of_getElem? (i := 31) rfl)) (hw _ (List.mem_of_getElem? (i := 3) rfl)) (by decide) (by decide)) q3a q3c (g := (mkF m 101 #[.val (.int p0), .val (.int p1), .val (.int p2), .val (.int p3), .val (.int p4), .val (.long (v0_7 p0 p1 p2 p3 p4)), .second, .val (.long (v0_16 p0 p1 p2 p3 p4)), .second, .val (.int (j0_22_s0 p0 p1 p2 p3 p4)), .val (.double (j0_34_s0 p0 p1 p2 p3 p4)), .second, .val (.double (v0_51 p0 p1 p2 p3 p4)), .second, .val (.double (v0_58 p0 p1 p2 p3 p4)), .second, .val (.double (v0_69 p0 p1 p2 p3 p4)), .second, .val (.double (v0_80 p0 p1 p2 p3 p4)), .second, .val (.ref b1), .unset, .unset, .unset, .unset] [(.ref b1)])) rfl (by rw [hml]; rfl) (Steps.refl _) (argsL := []) (rest := []) (lenOf pd_3 rfl) rfl (by show 2 * 0 + _ ≤ _; exact Nat.le_of_eq rfl) (hb hby at_101) (fun _ _ => ⟨rfl, rfl, (by decide : 1 + 0 ≤ _), (by decide : 4 + 0 ≤ _)⟩)
  dsimp only [Pt.U, Pt.locs, Pt.cells, Pt.slots] at X3 l3 y3 z3' st3 hQ3
  subst l3 y3 z3'
  obtain ⟨rfl, N3q, hq3⟩ := hQ3
  have f3_0 : Exa Z T3.heap b1 "com/example/narrow_passage/narrowpassage/measure/MeasurementArea" := by rw [hq3]; exact x2
  have f3_1 : Fld Z T3.heap b1 "com/example/narrow_passage/narrowpassage/measure/MeasurementArea" "x0" "D" (.double (v0_51 p0 p1 p2 p3 p4)) := by rw [hq3]; exact f2_k0
  have f3_2 : Fld Z T3.heap b1 "com/example/narrow_passage/narrowpassage/measure/MeasurementArea" "y0" "D" (.double (v0_58 p0 p1 p2 p3 p4)) := by rw [hq3]; exact f2_k1
  have f3_3 : Fld Z T3.heap b1 "com/example/narrow_passage/narrowpassage/measure/MeasurementArea" "x1" "D" (.double (v0_69 p0 p1 p2 p3 p4)) := by rw [hq3]; exact f2_k2
  have f3_4 : Fld Z T3.heap b1 "com/example/narrow_passage/narrowpassage/measure/MeasurementArea" "y1" "D" (.double (v0_80 p0 p1 p2 p3 p4)) := by rw [hq3]; exact f2_k3
  have z3 : n0 ≤ T3.heap.size := by rw [hq3]; exact z2
  have N3 := Fr.app N2 N3q
  obtain ⟨fs, hr, hrun, hended, hW, hsame⟩ := X3.leave (v := some (.int (1 : Int32))) (fun h => by rw [Bd.returns] at h; cases h)
  refine ⟨_, _, pre0 _ ?_, hrun, hended, _, _, rfl, ?_, ⟨_, rfl⟩, hW, hsame.mono (by decide) (by decide)⟩
  · show Steps p.tables e below (s₁.setTop (mkF m 0 #[.val (.int p0), .val (.int p1), .val (.int p2), .val (.int p3), .val (.int p4), .unset, .unset, .unset, .unset, .unset, .unset, .unset, .unset, .unset, .unset, .unset, .unset, .unset, .unset, .unset, .unset, .unset, .unset, .unset, .unset] [])) _
    refine XS.iloadN X0.here hx rfl (hb hby at_0) rfl ?_
    show Steps p.tables e below (s₁.setTop (mkF m 1 #[.val (.int p0), .val (.int p1), .val (.int p2), .val (.int p3), .val (.int p4), .unset, .unset, .unset, .unset, .unset, .unset, .unset, .unset, .unset, .unset, .unset, .unset, .unset, .unset, .unset, .unset, .unset, .unset, .unset, .unset] [(.int p2)])) _
    refine X0.ldcInt hx hown (mvT hZ (hw _ (List.mem_of_getElem? (i := 0) rfl))) (g := (mkF m 1 #[.val (.int p0), .val (.int p1), .val (.int p2), .val (.int p3), .val (.int p4), .unset, .unset, .unset, .unset, .unset, .unset, .unset, .unset, .unset, .unset, .unset, .unset, .unset, .unset, .unset, .unset, .unset, .unset, .unset, .unset] [(.int p2)])) rfl (hb hby at_1) _ ?_
    show Steps p.tables e below (s₁.setTop (mkF m 3 #[.val (.int p0), .val (.int p1), .val (.int p2), .val (.int p3), .val (.int p4), .unset, .unset, .unset, .unset, .unset, .unset, .unset, .unset, .unset, .unset, .unset, .unset, .unset, .unset, .unset, .unset, .unset, .unset, .unset, .unset] [(.int (67108863 : Int32)), (.int p2)])) _
    refine XS.iand X0.here hx rfl (hb hby at_3) rfl ?_
    show Steps p.tables e below (s₁.setTop (mkF m 4 #[.val (.int p0), .val (.int p1), .val (.int p2), .val (.int p3), .val (.int p4), .unset, .unset, .unset, .unset, .unset, .unset, .unset, .unset, .unset, .unset, .unset, .unset, .unset, .unset, .unset, .unset, .unset, .unset, .unset, .unset] [(.int (p2 &&& (67108863 : Int32)))])) _
    refine XS.i2l X0.here hx rfl (hb hby at_4) rfl ?_
    show Steps p.tables e below (s₁.setTop (mkF m 5 #[.val (.int p0), .val (.int p1), .val (.int p2), .val (.int p3), .val (.int p4), .unset, .unset, .unset, .unset, .unset, .unset, .unset, .unset, .unset, .unset, .unset, .unset, .unset, .unset, .unset, .unset, .unset, .unset, .unset, .unset] [(.long ((p2 &&& (67108863 : Int32)).toInt64))])) _
    refine XS.lconst X0.here hx rfl (hb hby at_5) ?_
    show Steps p.tables e below (s₁.setTop (mkF m 6 #[.val (.int p0), .val (.int p1), .val (.int p2), .val (.int p3), .val (.int p4), .unset, .unset, .unset, .unset, .unset, .unset, .unset, .unset, .unset, .unset, .unset, .unset, .unset, .unset, .unset, .unset, .unset, .unset, .unset, .unset] [(.long (1 : Int64)), (.long ((p2 &&& (67108863 : Int32)).toInt64))])) _
    refine XS.ladd X0.here hx rfl (hb hby at_6) rfl ?_
    show Steps p.tables e below (s₁.setTop (mkF m 7 #[.val (.int p0), .val (.int p1), .val (.int p2), .val (.int p3), .val (.int p4), .unset, .unset, .unset, .unset, .unset, .unset, .unset, .unset, .unset, .unset, .unset, .unset, .unset, .unset, .unset, .unset, .unset, .unset, .unset, .unset] [(.long (((p2 &&& (67108863 : Int32)).toInt64) + (1 : Int64)))])) _
    refine XS.lstore X0.here hx rfl (hb hby at_7) rfl (l' := #[.val (.int p0), .val (.int p1), .val (.int p2), .val (.int p3), .val (.int p4), .val (.long (v0_7 p0 p1 p2 p3 p4)), .second, .unset, .unset, .unset, .unset, .unset, .unset, .unset, .unset, .unset, .unset, .unset, .unset, .unset, .unset, .unset, .unset, .unset, .unset]) rfl ?_
    show Steps p.tables e below (s₁.setTop (mkF m 9 #[.val (.int p0), .val (.int p1), .val (.int p2), .val (.int p3), .val (.int p4), .val (.long (v0_7 p0 p1 p2 p3 p4)), .second, .unset, .unset, .unset, .unset, .unset, .unset, .unset, .unset, .unset, .unset, .unset, .unset, .unset, .unset, .unset, .unset, .unset, .unset] [])) _
    refine XS.iloadN X0.here hx rfl (hb hby at_9) rfl ?_
    show Steps p.tables e below (s₁.setTop (mkF m 10 #[.val (.int p0), .val (.int p1), .val (.int p2), .val (.int p3), .val (.int p4), .val (.long (v0_7 p0 p1 p2 p3 p4)), .second, .unset, .unset, .unset, .unset, .unset, .unset, .unset, .unset, .unset, .unset, .unset, .unset, .unset, .unset, .unset, .unset, .unset, .unset] [(.int p3)])) _
    refine X0.ldcInt hx hown (mvT hZ (hw _ (List.mem_of_getElem? (i := 0) rfl))) (g := (mkF m 10 #[.val (.int p0), .val (.int p1), .val (.int p2), .val (.int p3), .val (.int p4), .val (.long (v0_7 p0 p1 p2 p3 p4)), .second, .unset, .unset, .unset, .unset, .unset, .unset, .unset, .unset, .unset, .unset, .unset, .unset, .unset, .unset, .unset, .unset, .unset, .unset] [(.int p3)])) rfl (hb hby at_10) _ ?_
    show Steps p.tables e below (s₁.setTop (mkF m 12 #[.val (.int p0), .val (.int p1), .val (.int p2), .val (.int p3), .val (.int p4), .val (.long (v0_7 p0 p1 p2 p3 p4)), .second, .unset, .unset, .unset, .unset, .unset, .unset, .unset, .unset, .unset, .unset, .unset, .unset, .unset, .unset, .unset, .unset, .unset, .unset] [(.int (67108863 : Int32)), (.int p3)])) _
    refine XS.iand X0.here hx rfl (hb hby at_12) rfl ?_
    show Steps p.tables e below (s₁.setTop (mkF m 13 #[.val (.int p0), .val (.int p1), .val (.int p2), .val (.int p3), .val (.int p4), .val (.long (v0_7 p0 p1 p2 p3 p4)), .second, .unset, .unset, .unset, .unset, .unset, .unset, .unset, .unset, .unset, .unset, .unset, .unset, .unset, .unset, .unset, .unset, .unset, .unset] [(.int (p3 &&& (67108863 : Int32)))])) _
    refine XS.i2l X0.here hx rfl (hb hby at_13) rfl ?_
    show Steps p.tables e below (s₁.setTop (mkF m 14 #[.val (.int p0), .val (.int p1), .val (.int p2), .val (.int p3), .val (.int p4), .val (.long (v0_7 p0 p1 p2 p3 p4)), .second, .unset, .unset, .unset, .unset, .unset, .unset, .unset, .unset, .unset, .unset, .unset, .unset, .unset, .unset, .unset, .unset, .unset, .unset] [(.long ((p3 &&& (67108863 : Int32)).toInt64))])) _
    refine XS.lconst X0.here hx rfl (hb hby at_14) ?_
    show Steps p.tables e below (s₁.setTop (mkF m 15 #[.val (.int p0), .val (.int p1), .val (.int p2), .val (.int p3), .val (.int p4), .val (.long (v0_7 p0 p1 p2 p3 p4)), .second, .unset, .unset, .unset, .unset, .unset, .unset, .unset, .unset, .unset, .unset, .unset, .unset, .unset, .unset, .unset, .unset, .unset, .unset] [(.long (1 : Int64)), (.long ((p3 &&& (67108863 : Int32)).toInt64))])) _
    refine XS.ladd X0.here hx rfl (hb hby at_15) rfl ?_
    show Steps p.tables e below (s₁.setTop (mkF m 16 #[.val (.int p0), .val (.int p1), .val (.int p2), .val (.int p3), .val (.int p4), .val (.long (v0_7 p0 p1 p2 p3 p4)), .second, .unset, .unset, .unset, .unset, .unset, .unset, .unset, .unset, .unset, .unset, .unset, .unset, .unset, .unset, .unset, .unset, .unset, .unset] [(.long (((p3 &&& (67108863 : Int32)).toInt64) + (1 : Int64)))])) _
    refine XS.lstore X0.here hx rfl (hb hby at_16) rfl (l' := #[.val (.int p0), .val (.int p1), .val (.int p2), .val (.int p3), .val (.int p4), .val (.long (v0_7 p0 p1 p2 p3 p4)), .second, .val (.long (v0_16 p0 p1 p2 p3 p4)), .second, .unset, .unset, .unset, .unset, .unset, .unset, .unset, .unset, .unset, .unset, .unset, .unset, .unset, .unset, .unset, .unset]) rfl ?_
    show Steps p.tables e below (s₁.setTop (mkF m 18 #[.val (.int p0), .val (.int p1), .val (.int p2), .val (.int p3), .val (.int p4), .val (.long (v0_7 p0 p1 p2 p3 p4)), .second, .val (.long (v0_16 p0 p1 p2 p3 p4)), .second, .unset, .unset, .unset, .unset, .unset, .unset, .unset, .unset, .unset, .unset, .unset, .unset, .unset, .unset, .unset, .unset] [])) _
    refine XS.iload X0.here hx rfl (hb hby at_18) rfl ?_
    show Steps p.tables e below (s₁.setTop (mkF m 20 #[.val (.int p0), .val (.int p1), .val (.int p2), .val (.int p3), .val (.int p4), .val (.long (v0_7 p0 p1 p2 p3 p4)), .second, .val (.long (v0_16 p0 p1 p2 p3 p4)), .second, .unset, .unset, .unset, .unset, .unset, .unset, .unset, .unset, .unset, .unset, .unset, .unset, .unset, .unset, .unset, .unset] [(.int p4)])) _
    refine XS.iconst X0.here hx rfl (hb hby at_20) ?_
    show Steps p.tables e below (s₁.setTop (mkF m 21 #[.val (.int p0), .val (.int p1), .val (.int p2), .val (.int p3), .val (.int p4), .val (.long (v0_7 p0 p1 p2 p3 p4)), .second, .val (.long (v0_16 p0 p1 p2 p3 p4)), .second, .unset, .unset, .unset, .unset, .unset, .unset, .unset, .unset, .unset, .unset, .unset, .unset, .unset, .unset, .unset, .unset] [(.int (1 : Int32)), (.int p4)])) _
    refine XS.iand X0.here hx rfl (hb hby at_21) rfl ?_
    show Steps p.tables e below (s₁.setTop (mkF m 22 #[.val (.int p0), .val (.int p1), .val (.int p2), .val (.int p3), .val (.int p4), .val (.long (v0_7 p0 p1 p2 p3 p4)), .second, .val (.long (v0_16 p0 p1 p2 p3 p4)), .second, .unset, .unset, .unset, .unset, .unset, .unset, .unset, .unset, .unset, .unset, .unset, .unset, .unset, .unset, .unset, .unset] [(.int (p4 &&& (1 : Int32)))])) _
    suffices kt22 : Steps p.tables e below (s₁.setTop (mkF m 30 #[.val (.int p0), .val (.int p1), .val (.int p2), .val (.int p3), .val (.int p4), .val (.long (v0_7 p0 p1 p2 p3 p4)), .second, .val (.long (v0_16 p0 p1 p2 p3 p4)), .second, .unset, .unset, .unset, .unset, .unset, .unset, .unset, .unset, .unset, .unset, .unset, .unset, .unset, .unset, .unset, .unset] [(.int (j0_22_s0 p0 p1 p2 p3 p4))])) (T3.setFrames fs) by
      by_cases hc22 : ifCond.holds .eq (p4 &&& (1 : Int32)) = true
      · rw [show (j0_22_s0 p0 p1 p2 p3 p4) = (0 : Int32) from if_pos hc22] at kt22
        refine XS.ifYes X0.here hx rfl (pc0 := 22) (pc' := 29) rfl (hb hby at_22) rfl hc22 (by decide) (by decide) ?_
        show Steps p.tables e below (s₁.setTop (mkF m 29 #[.val (.int p0), .val (.int p1), .val (.int p2), .val (.int p3), .val (.int p4), .val (.long (v0_7 p0 p1 p2 p3 p4)), .second, .val (.long (v0_16 p0 p1 p2 p3 p4)), .second, .unset, .unset, .unset, .unset, .unset, .unset, .unset, .unset, .unset, .unset, .unset, .unset, .unset, .unset, .unset, .unset] [])) _
        refine XS.iconst X0.here hx rfl (hb hby at_29) ?_
        exact kt22
      · rw [show (j0_22_s0 p0 p1 p2 p3 p4) = (1 : Int32) from if_neg hc22] at kt22
        refine XS.ifNo X0.here hx rfl (hb hby at_22) rfl (eq_false_of_ne_true hc22) ?_
        show Steps p.tables e below (s₁.setTop (mkF m 25 #[.val (.int p0), .val (.int p1), .val (.int p2), .val (.int p3), .val (.int p4), .val (.long (v0_7 p0 p1 p2 p3 p4)), .second, .val (.long (v0_16 p0 p1 p2 p3 p4)), .second, .unset, .unset, .unset, .unset, .unset, .unset, .unset, .unset, .unset, .unset, .unset, .unset, .unset, .unset, .unset, .unset] [])) _
        refine XS.iconst X0.here hx rfl (hb hby at_25) ?_
        show Steps p.tables e below (s₁.setTop (mkF m 26 #[.val (.int p0), .val (.int p1), .val (.int p2), .val (.int p3), .val (.int p4), .val (.long (v0_7 p0 p1 p2 p3 p4)), .second, .val (.long (v0_16 p0 p1 p2 p3 p4)), .second, .unset, .unset, .unset, .unset, .unset, .unset, .unset, .unset, .unset, .unset, .unset, .unset, .unset, .unset, .unset, .unset] [(.int (1 : Int32))])) _
        refine XS.goto X0.here hx rfl (pc0 := 26) (pc' := 30) rfl (hb hby at_26) (by decide) (by decide) ?_
        exact kt22
    show Steps p.tables e below (s₁.setTop (mkF m 30 #[.val (.int p0), .val (.int p1), .val (.int p2), .val (.int p3), .val (.int p4), .val (.long (v0_7 p0 p1 p2 p3 p4)), .second, .val (.long (v0_16 p0 p1 p2 p3 p4)), .second, .unset, .unset, .unset, .unset, .unset, .unset, .unset, .unset, .unset, .unset, .unset, .unset, .unset, .unset, .unset, .unset] [(.int (j0_22_s0 p0 p1 p2 p3 p4))])) _
    refine XS.istore X0.here hx rfl (hb hby at_30) rfl (l' := #[.val (.int p0), .val (.int p1), .val (.int p2), .val (.int p3), .val (.int p4), .val (.long (v0_7 p0 p1 p2 p3 p4)), .second, .val (.long (v0_16 p0 p1 p2 p3 p4)), .second, .val (.int (j0_22_s0 p0 p1 p2 p3 p4)), .unset, .unset, .unset, .unset, .unset, .unset, .unset, .unset, .unset, .unset, .unset, .unset, .unset, .unset, .unset]) rfl ?_
    show Steps p.tables e below (s₁.setTop (mkF m 32 #[.val (.int p0), .val (.int p1), .val (.int p2), .val (.int p3), .val (.int p4), .val (.long (v0_7 p0 p1 p2 p3 p4)), .second, .val (.long (v0_16 p0 p1 p2 p3 p4)), .second, .val (.int (j0_22_s0 p0 p1 p2 p3 p4)), .unset, .unset, .unset, .unset, .unset, .unset, .unset, .unset, .unset, .unset, .unset, .unset, .unset, .unset, .unset] [])) _
    refine XS.iload X0.here hx rfl (hb hby at_32) rfl ?_
    show Steps p.tables e below (s₁.setTop (mkF m 34 #[.val (.int p0), .val (.int p1), .val (.int p2), .val (.int p3), .val (.int p4), .val (.long (v0_7 p0 p1 p2 p3 p4)), .second, .val (.long (v0_16 p0 p1 p2 p3 p4)), .second, .val (.int (j0_22_s0 p0 p1 p2 p3 p4)), .unset, .unset, .unset, .unset, .unset, .unset, .unset, .unset, .unset, .unset, .unset, .unset, .unset, .unset, .unset] [(.int (j0_22_s0 p0 p1 p2 p3 p4))])) _
    suffices kt34 : Steps p.tables e below (s₁.setTop (mkF m 44 #[.val (.int p0), .val (.int p1), .val (.int p2), .val (.int p3), .val (.int p4), .val (.long (v0_7 p0 p1 p2 p3 p4)), .second, .val (.long (v0_16 p0 p1 p2 p3 p4)), .second, .val (.int (j0_22_s0 p0 p1 p2 p3 p4)), .unset, .unset, .unset, .unset, .unset, .unset, .unset, .unset, .unset, .unset, .unset, .unset, .unset, .unset, .unset] [(.double (j0_34_s0 p0 p1 p2 p3 p4))])) (T3.setFrames fs) by
      by_cases hc34 : ifCond.holds .eq (j0_22_s0 p0 p1 p2 p3 p4) = true
      · rw [show (j0_34_s0 p0 p1 p2 p3 p4) = FP.dconst1 from if_pos hc34] at kt34
        refine XS.ifYes X0.here hx rfl (pc0 := 34) (pc' := 43) rfl (hb hby at_34) rfl hc34 (by decide) (by decide) ?_
        show Steps p.tables e below (s₁.setTop (mkF m 43 #[.val (.int p0), .val (.int p1), .val (.int p2), .val (.int p3), .val (.int p4), .val (.long (v0_7 p0 p1 p2 p3 p4)), .second, .val (.long (v0_16 p0 p1 p2 p3 p4)), .second, .val (.int (j0_22_s0 p0 p1 p2 p3 p4)), .unset, .unset, .unset, .unset, .unset, .unset, .unset, .unset, .unset, .unset, .unset, .unset, .unset, .unset, .unset] [])) _
        refine XS.dconst1 X0.here hx rfl (hb hby at_43) rfl ?_
        exact kt34
      · rw [show (j0_34_s0 p0 p1 p2 p3 p4) = (4598175219545276416 : UInt64) from if_neg hc34] at kt34
        refine XS.ifNo X0.here hx rfl (hb hby at_34) rfl (eq_false_of_ne_true hc34) ?_
        show Steps p.tables e below (s₁.setTop (mkF m 37 #[.val (.int p0), .val (.int p1), .val (.int p2), .val (.int p3), .val (.int p4), .val (.long (v0_7 p0 p1 p2 p3 p4)), .second, .val (.long (v0_16 p0 p1 p2 p3 p4)), .second, .val (.int (j0_22_s0 p0 p1 p2 p3 p4)), .unset, .unset, .unset, .unset, .unset, .unset, .unset, .unset, .unset, .unset, .unset, .unset, .unset, .unset, .unset] [])) _
        refine X0.ldc2DoubleC hx hown (mvT hZ (hw _ (List.mem_of_getElem? (i := 32) rfl))) (g := (mkF m 37 #[.val (.int p0), .val (.int p1), .val (.int p2), .val (.int p3), .val (.int p4), .val (.long (v0_7 p0 p1 p2 p3 p4)), .second, .val (.long (v0_16 p0 p1 p2 p3 p4)), .second, .val (.int (j0_22_s0 p0 p1 p2 p3 p4)), .unset, .unset, .unset, .unset, .unset, .unset, .unset, .unset, .unset, .unset, .unset, .unset, .unset, .unset, .unset] [])) rfl (hb hby at_37) _ ?_
        show Steps p.tables e below (s₁.setTop (mkF m 40 #[.val (.int p0), .val (.int p1), .val (.int p2), .val (.int p3), .val (.int p4), .val (.long (v0_7 p0 p1 p2 p3 p4)), .second, .val (.long (v0_16 p0 p1 p2 p3 p4)), .second, .val (.int (j0_22_s0 p0 p1 p2 p3 p4)), .unset, .unset, .unset, .unset, .unset, .unset, .unset, .unset, .unset, .unset, .unset, .unset, .unset, .unset, .unset] [(.double (4598175219545276416 : UInt64))])) _
        refine XS.goto X0.here hx rfl (pc0 := 40) (pc' := 44) rfl (hb hby at_40) (by decide) (by decide) ?_
        exact kt34
    show Steps p.tables e below (s₁.setTop (mkF m 44 #[.val (.int p0), .val (.int p1), .val (.int p2), .val (.int p3), .val (.int p4), .val (.long (v0_7 p0 p1 p2 p3 p4)), .second, .val (.long (v0_16 p0 p1 p2 p3 p4)), .second, .val (.int (j0_22_s0 p0 p1 p2 p3 p4)), .unset, .unset, .unset, .unset, .unset, .unset, .unset, .unset, .unset, .unset, .unset, .unset, .unset, .unset, .unset] [(.double (j0_34_s0 p0 p1 p2 p3 p4))])) _
    refine XS.dstore X0.here hx rfl (hb hby at_44) rfl (l' := #[.val (.int p0), .val (.int p1), .val (.int p2), .val (.int p3), .val (.int p4), .val (.long (v0_7 p0 p1 p2 p3 p4)), .second, .val (.long (v0_16 p0 p1 p2 p3 p4)), .second, .val (.int (j0_22_s0 p0 p1 p2 p3 p4)), .val (.double (j0_34_s0 p0 p1 p2 p3 p4)), .second, .unset, .unset, .unset, .unset, .unset, .unset, .unset, .unset, .unset, .unset, .unset, .unset, .unset]) rfl ?_
    show Steps p.tables e below (s₁.setTop (mkF m 46 #[.val (.int p0), .val (.int p1), .val (.int p2), .val (.int p3), .val (.int p4), .val (.long (v0_7 p0 p1 p2 p3 p4)), .second, .val (.long (v0_16 p0 p1 p2 p3 p4)), .second, .val (.int (j0_22_s0 p0 p1 p2 p3 p4)), .val (.double (j0_34_s0 p0 p1 p2 p3 p4)), .second, .unset, .unset, .unset, .unset, .unset, .unset, .unset, .unset, .unset, .unset, .unset, .unset, .unset] [])) _
    refine XS.iloadN X0.here hx rfl (hb hby at_46) rfl ?_
    show Steps p.tables e below (s₁.setTop (mkF m 47 #[.val (.int p0), .val (.int p1), .val (.int p2), .val (.int p3), .val (.int p4), .val (.long (v0_7 p0 p1 p2 p3 p4)), .second, .val (.long (v0_16 p0 p1 p2 p3 p4)), .second, .val (.int (j0_22_s0 p0 p1 p2 p3 p4)), .val (.double (j0_34_s0 p0 p1 p2 p3 p4)), .second, .unset, .unset, .unset, .unset, .unset, .unset, .unset, .unset, .unset, .unset, .unset, .unset, .unset] [(.int p0)])) _
    refine XS.i2dS X0.here hx rfl (hb hby at_47) rfl rfl ?_
    show Steps p.tables e below (s₁.setTop (mkF m 48 #[.val (.int p0), .val (.int p1), .val (.int p2), .val (.int p3), .val (.int p4), .val (.long (v0_7 p0 p1 p2 p3 p4)), .second, .val (.long (v0_16 p0 p1 p2 p3 p4)), .second, .val (.int (j0_22_s0 p0 p1 p2 p3 p4)), .val (.double (j0_34_s0 p0 p1 p2 p3 p4)), .second, .unset, .unset, .unset, .unset, .unset, .unset, .unset, .unset, .unset, .unset, .unset, .unset, .unset] [(.double (FP.i2d p0))])) _
    refine XS.dload X0.here hx rfl (hb hby at_48) rfl ?_
    show Steps p.tables e below (s₁.setTop (mkF m 50 #[.val (.int p0), .val (.int p1), .val (.int p2), .val (.int p3), .val (.int p4), .val (.long (v0_7 p0 p1 p2 p3 p4)), .second, .val (.long (v0_16 p0 p1 p2 p3 p4)), .second, .val (.int (j0_22_s0 p0 p1 p2 p3 p4)), .val (.double (j0_34_s0 p0 p1 p2 p3 p4)), .second, .unset, .unset, .unset, .unset, .unset, .unset, .unset, .unset, .unset, .unset, .unset, .unset, .unset] [(.double (j0_34_s0 p0 p1 p2 p3 p4)), (.double (FP.i2d p0))])) _
    refine XS.dmulS X0.here hx rfl (hb hby at_50) rfl hn50 rfl ?_
    show Steps p.tables e below (s₁.setTop (mkF m 51 #[.val (.int p0), .val (.int p1), .val (.int p2), .val (.int p3), .val (.int p4), .val (.long (v0_7 p0 p1 p2 p3 p4)), .second, .val (.long (v0_16 p0 p1 p2 p3 p4)), .second, .val (.int (j0_22_s0 p0 p1 p2 p3 p4)), .val (.double (j0_34_s0 p0 p1 p2 p3 p4)), .second, .unset, .unset, .unset, .unset, .unset, .unset, .unset, .unset, .unset, .unset, .unset, .unset, .unset] [(.double (FP.dmul (FP.i2d p0) (j0_34_s0 p0 p1 p2 p3 p4)))])) _
    refine XS.dstore X0.here hx rfl (hb hby at_51) rfl (l' := #[.val (.int p0), .val (.int p1), .val (.int p2), .val (.int p3), .val (.int p4), .val (.long (v0_7 p0 p1 p2 p3 p4)), .second, .val (.long (v0_16 p0 p1 p2 p3 p4)), .second, .val (.int (j0_22_s0 p0 p1 p2 p3 p4)), .val (.double (j0_34_s0 p0 p1 p2 p3 p4)), .second, .val (.double (v0_51 p0 p1 p2 p3 p4)), .second, .unset, .unset, .unset, .unset, .unset, .unset, .unset, .unset, .unset, .unset, .unset]) rfl ?_
    show Steps p.tables e below (s₁.setTop (mkF m 53 #[.val (.int p0), .val (.int p1), .val (.int p2), .val (.int p3), .val (.int p4), .val (.long (v0_7 p0 p1 p2 p3 p4)), .second, .val (.long (v0_16 p0 p1 p2 p3 p4)), .second, .val (.int (j0_22_s0 p0 p1 p2 p3 p4)), .val (.double (j0_34_s0 p0 p1 p2 p3 p4)), .second, .val (.double (v0_51 p0 p1 p2 p3 p4)), .second, .unset, .unset, .unset, .unset, .unset, .unset, .unset, .unset, .unset, .unset, .unset] [])) _
    refine XS.iloadN X0.here hx rfl (hb hby at_53) rfl ?_
    show Steps p.tables e below (s₁.setTop (mkF m 54 #[.val (.int p0), .val (.int p1), .val (.int p2), .val (.int p3), .val (.int p4), .val (.long (v0_7 p0 p1 p2 p3 p4)), .second, .val (.long (v0_16 p0 p1 p2 p3 p4)), .second, .val (.int (j0_22_s0 p0 p1 p2 p3 p4)), .val (.double (j0_34_s0 p0 p1 p2 p3 p4)), .second, .val (.double (v0_51 p0 p1 p2 p3 p4)), .second, .unset, .unset, .unset, .unset, .unset, .unset, .unset, .unset, .unset, .unset, .unset] [(.int p1)])) _
    refine XS.i2dS X0.here hx rfl (hb hby at_54) rfl rfl ?_
    show Steps p.tables e below (s₁.setTop (mkF m 55 #[.val (.int p0), .val (.int p1), .val (.int p2), .val (.int p3), .val (.int p4), .val (.long (v0_7 p0 p1 p2 p3 p4)), .second, .val (.long (v0_16 p0 p1 p2 p3 p4)), .second, .val (.int (j0_22_s0 p0 p1 p2 p3 p4)), .val (.double (j0_34_s0 p0 p1 p2 p3 p4)), .second, .val (.double (v0_51 p0 p1 p2 p3 p4)), .second, .unset, .unset, .unset, .unset, .unset, .unset, .unset, .unset, .unset, .unset, .unset] [(.double (FP.i2d p1))])) _
    refine XS.dload X0.here hx rfl (hb hby at_55) rfl ?_
    show Steps p.tables e below (s₁.setTop (mkF m 57 #[.val (.int p0), .val (.int p1), .val (.int p2), .val (.int p3), .val (.int p4), .val (.long (v0_7 p0 p1 p2 p3 p4)), .second, .val (.long (v0_16 p0 p1 p2 p3 p4)), .second, .val (.int (j0_22_s0 p0 p1 p2 p3 p4)), .val (.double (j0_34_s0 p0 p1 p2 p3 p4)), .second, .val (.double (v0_51 p0 p1 p2 p3 p4)), .second, .unset, .unset, .unset, .unset, .unset, .unset, .unset, .unset, .unset, .unset, .unset] [(.double (j0_34_s0 p0 p1 p2 p3 p4)), (.double (FP.i2d p1))])) _
    refine XS.dmulS X0.here hx rfl (hb hby at_57) rfl hn57 rfl ?_
    show Steps p.tables e below (s₁.setTop (mkF m 58 #[.val (.int p0), .val (.int p1), .val (.int p2), .val (.int p3), .val (.int p4), .val (.long (v0_7 p0 p1 p2 p3 p4)), .second, .val (.long (v0_16 p0 p1 p2 p3 p4)), .second, .val (.int (j0_22_s0 p0 p1 p2 p3 p4)), .val (.double (j0_34_s0 p0 p1 p2 p3 p4)), .second, .val (.double (v0_51 p0 p1 p2 p3 p4)), .second, .unset, .unset, .unset, .unset, .unset, .unset, .unset, .unset, .unset, .unset, .unset] [(.double (FP.dmul (FP.i2d p1) (j0_34_s0 p0 p1 p2 p3 p4)))])) _
    refine XS.dstore X0.here hx rfl (hb hby at_58) rfl (l' := #[.val (.int p0), .val (.int p1), .val (.int p2), .val (.int p3), .val (.int p4), .val (.long (v0_7 p0 p1 p2 p3 p4)), .second, .val (.long (v0_16 p0 p1 p2 p3 p4)), .second, .val (.int (j0_22_s0 p0 p1 p2 p3 p4)), .val (.double (j0_34_s0 p0 p1 p2 p3 p4)), .second, .val (.double (v0_51 p0 p1 p2 p3 p4)), .second, .val (.double (v0_58 p0 p1 p2 p3 p4)), .second, .unset, .unset, .unset, .unset, .unset, .unset, .unset, .unset, .unset]) rfl ?_
    show Steps p.tables e below (s₁.setTop (mkF m 60 #[.val (.int p0), .val (.int p1), .val (.int p2), .val (.int p3), .val (.int p4), .val (.long (v0_7 p0 p1 p2 p3 p4)), .second, .val (.long (v0_16 p0 p1 p2 p3 p4)), .second, .val (.int (j0_22_s0 p0 p1 p2 p3 p4)), .val (.double (j0_34_s0 p0 p1 p2 p3 p4)), .second, .val (.double (v0_51 p0 p1 p2 p3 p4)), .second, .val (.double (v0_58 p0 p1 p2 p3 p4)), .second, .unset, .unset, .unset, .unset, .unset, .unset, .unset, .unset, .unset] [])) _
    refine XS.iloadN X0.here hx rfl (hb hby at_60) rfl ?_
    show Steps p.tables e below (s₁.setTop (mkF m 61 #[.val (.int p0), .val (.int p1), .val (.int p2), .val (.int p3), .val (.int p4), .val (.long (v0_7 p0 p1 p2 p3 p4)), .second, .val (.long (v0_16 p0 p1 p2 p3 p4)), .second, .val (.int (j0_22_s0 p0 p1 p2 p3 p4)), .val (.double (j0_34_s0 p0 p1 p2 p3 p4)), .second, .val (.double (v0_51 p0 p1 p2 p3 p4)), .second, .val (.double (v0_58 p0 p1 p2 p3 p4)), .second, .unset, .unset, .unset, .unset, .unset, .unset, .unset, .unset, .unset] [(.int p0)])) _
    refine XS.i2l X0.here hx rfl (hb hby at_61) rfl ?_
    show Steps p.tables e below (s₁.setTop (mkF m 62 #[.val (.int p0), .val (.int p1), .val (.int p2), .val (.int p3), .val (.int p4), .val (.long (v0_7 p0 p1 p2 p3 p4)), .second, .val (.long (v0_16 p0 p1 p2 p3 p4)), .second, .val (.int (j0_22_s0 p0 p1 p2 p3 p4)), .val (.double (j0_34_s0 p0 p1 p2 p3 p4)), .second, .val (.double (v0_51 p0 p1 p2 p3 p4)), .second, .val (.double (v0_58 p0 p1 p2 p3 p4)), .second, .unset, .unset, .unset, .unset, .unset, .unset, .unset, .unset, .unset] [(.long (p0.toInt64))])) _
    refine XS.lload X0.here hx rfl (hb hby at_62) rfl ?_
    show Steps p.tables e below (s₁.setTop (mkF m 64 #[.val (.int p0), .val (.int p1), .val (.int p2), .val (.int p3), .val (.int p4), .val (.long (v0_7 p0 p1 p2 p3 p4)), .second, .val (.long (v0_16 p0 p1 p2 p3 p4)), .second, .val (.int (j0_22_s0 p0 p1 p2 p3 p4)), .val (.double (j0_34_s0 p0 p1 p2 p3 p4)), .second, .val (.double (v0_51 p0 p1 p2 p3 p4)), .second, .val (.double (v0_58 p0 p1 p2 p3 p4)), .second, .unset, .unset, .unset, .unset, .unset, .unset, .unset, .unset, .unset] [(.long (v0_7 p0 p1 p2 p3 p4)), (.long (p0.toInt64))])) _
    refine XS.ladd X0.here hx rfl (hb hby at_64) rfl ?_
    show Steps p.tables e below (s₁.setTop (mkF m 65 #[.val (.int p0), .val (.int p1), .val (.int p2), .val (.int p3), .val (.int p4), .val (.long (v0_7 p0 p1 p2 p3 p4)), .second, .val (.long (v0_16 p0 p1 p2 p3 p4)), .second, .val (.int (j0_22_s0 p0 p1 p2 p3 p4)), .val (.double (j0_34_s0 p0 p1 p2 p3 p4)), .second, .val (.double (v0_51 p0 p1 p2 p3 p4)), .second, .val (.double (v0_58 p0 p1 p2 p3 p4)), .second, .unset, .unset, .unset, .unset, .unset, .unset, .unset, .unset, .unset] [(.long ((p0.toInt64) + (v0_7 p0 p1 p2 p3 p4)))])) _
    refine XS.l2dS X0.here hx rfl (hb hby at_65) rfl rfl ?_
    show Steps p.tables e below (s₁.setTop (mkF m 66 #[.val (.int p0), .val (.int p1), .val (.int p2), .val (.int p3), .val (.int p4), .val (.long (v0_7 p0 p1 p2 p3 p4)), .second, .val (.long (v0_16 p0 p1 p2 p3 p4)), .second, .val (.int (j0_22_s0 p0 p1 p2 p3 p4)), .val (.double (j0_34_s0 p0 p1 p2 p3 p4)), .second, .val (.double (v0_51 p0 p1 p2 p3 p4)), .second, .val (.double (v0_58 p0 p1 p2 p3 p4)), .second, .unset, .unset, .unset, .unset, .unset, .unset, .unset, .unset, .unset] [(.double (FP.l2d ((p0.toInt64) + (v0_7 p0 p1 p2 p3 p4))))])) _
    refine XS.dload X0.here hx rfl (hb hby at_66) rfl ?_
    show Steps p.tables e below (s₁.setTop (mkF m 68 #[.val (.int p0), .val (.int p1), .val (.int p2), .val (.int p3), .val (.int p4), .val (.long (v0_7 p0 p1 p2 p3 p4)), .second, .val (.long (v0_16 p0 p1 p2 p3 p4)), .second, .val (.int (j0_22_s0 p0 p1 p2 p3 p4)), .val (.double (j0_34_s0 p0 p1 p2 p3 p4)), .second, .val (.double (v0_51 p0 p1 p2 p3 p4)), .second, .val (.double (v0_58 p0 p1 p2 p3 p4)), .second, .unset, .unset, .unset, .unset, .unset, .unset, .unset, .unset, .unset] [(.double (j0_34_s0 p0 p1 p2 p3 p4)), (.double (FP.l2d ((p0.toInt64) + (v0_7 p0 p1 p2 p3 p4))))])) _
    refine XS.dmulS X0.here hx rfl (hb hby at_68) rfl hn68 rfl ?_
    show Steps p.tables e below (s₁.setTop (mkF m 69 #[.val (.int p0), .val (.int p1), .val (.int p2), .val (.int p3), .val (.int p4), .val (.long (v0_7 p0 p1 p2 p3 p4)), .second, .val (.long (v0_16 p0 p1 p2 p3 p4)), .second, .val (.int (j0_22_s0 p0 p1 p2 p3 p4)), .val (.double (j0_34_s0 p0 p1 p2 p3 p4)), .second, .val (.double (v0_51 p0 p1 p2 p3 p4)), .second, .val (.double (v0_58 p0 p1 p2 p3 p4)), .second, .unset, .unset, .unset, .unset, .unset, .unset, .unset, .unset, .unset] [(.double (FP.dmul (FP.l2d ((p0.toInt64) + (v0_7 p0 p1 p2 p3 p4))) (j0_34_s0 p0 p1 p2 p3 p4)))])) _
    refine XS.dstore X0.here hx rfl (hb hby at_69) rfl (l' := #[.val (.int p0), .val (.int p1), .val (.int p2), .val (.int p3), .val (.int p4), .val (.long (v0_7 p0 p1 p2 p3 p4)), .second, .val (.long (v0_16 p0 p1 p2 p3 p4)), .second, .val (.int (j0_22_s0 p0 p1 p2 p3 p4)), .val (.double (j0_34_s0 p0 p1 p2 p3 p4)), .second, .val (.double (v0_51 p0 p1 p2 p3 p4)), .second, .val (.double (v0_58 p0 p1 p2 p3 p4)), .second, .val (.double (v0_69 p0 p1 p2 p3 p4)), .second, .unset, .unset, .unset, .unset, .unset, .unset, .unset]) rfl ?_
    show Steps p.tables e below (s₁.setTop (mkF m 71 #[.val (.int p0), .val (.int p1), .val (.int p2), .val (.int p3), .val (.int p4), .val (.long (v0_7 p0 p1 p2 p3 p4)), .second, .val (.long (v0_16 p0 p1 p2 p3 p4)), .second, .val (.int (j0_22_s0 p0 p1 p2 p3 p4)), .val (.double (j0_34_s0 p0 p1 p2 p3 p4)), .second, .val (.double (v0_51 p0 p1 p2 p3 p4)), .second, .val (.double (v0_58 p0 p1 p2 p3 p4)), .second, .val (.double (v0_69 p0 p1 p2 p3 p4)), .second, .unset, .unset, .unset, .unset, .unset, .unset, .unset] [])) _
    refine XS.iloadN X0.here hx rfl (hb hby at_71) rfl ?_
    show Steps p.tables e below (s₁.setTop (mkF m 72 #[.val (.int p0), .val (.int p1), .val (.int p2), .val (.int p3), .val (.int p4), .val (.long (v0_7 p0 p1 p2 p3 p4)), .second, .val (.long (v0_16 p0 p1 p2 p3 p4)), .second, .val (.int (j0_22_s0 p0 p1 p2 p3 p4)), .val (.double (j0_34_s0 p0 p1 p2 p3 p4)), .second, .val (.double (v0_51 p0 p1 p2 p3 p4)), .second, .val (.double (v0_58 p0 p1 p2 p3 p4)), .second, .val (.double (v0_69 p0 p1 p2 p3 p4)), .second, .unset, .unset, .unset, .unset, .unset, .unset, .unset] [(.int p1)])) _
    refine XS.i2l X0.here hx rfl (hb hby at_72) rfl ?_
    show Steps p.tables e below (s₁.setTop (mkF m 73 #[.val (.int p0), .val (.int p1), .val (.int p2), .val (.int p3), .val (.int p4), .val (.long (v0_7 p0 p1 p2 p3 p4)), .second, .val (.long (v0_16 p0 p1 p2 p3 p4)), .second, .val (.int (j0_22_s0 p0 p1 p2 p3 p4)), .val (.double (j0_34_s0 p0 p1 p2 p3 p4)), .second, .val (.double (v0_51 p0 p1 p2 p3 p4)), .second, .val (.double (v0_58 p0 p1 p2 p3 p4)), .second, .val (.double (v0_69 p0 p1 p2 p3 p4)), .second, .unset, .unset, .unset, .unset, .unset, .unset, .unset] [(.long (p1.toInt64))])) _
    refine XS.lload X0.here hx rfl (hb hby at_73) rfl ?_
    show Steps p.tables e below (s₁.setTop (mkF m 75 #[.val (.int p0), .val (.int p1), .val (.int p2), .val (.int p3), .val (.int p4), .val (.long (v0_7 p0 p1 p2 p3 p4)), .second, .val (.long (v0_16 p0 p1 p2 p3 p4)), .second, .val (.int (j0_22_s0 p0 p1 p2 p3 p4)), .val (.double (j0_34_s0 p0 p1 p2 p3 p4)), .second, .val (.double (v0_51 p0 p1 p2 p3 p4)), .second, .val (.double (v0_58 p0 p1 p2 p3 p4)), .second, .val (.double (v0_69 p0 p1 p2 p3 p4)), .second, .unset, .unset, .unset, .unset, .unset, .unset, .unset] [(.long (v0_16 p0 p1 p2 p3 p4)), (.long (p1.toInt64))])) _
    refine XS.ladd X0.here hx rfl (hb hby at_75) rfl ?_
    show Steps p.tables e below (s₁.setTop (mkF m 76 #[.val (.int p0), .val (.int p1), .val (.int p2), .val (.int p3), .val (.int p4), .val (.long (v0_7 p0 p1 p2 p3 p4)), .second, .val (.long (v0_16 p0 p1 p2 p3 p4)), .second, .val (.int (j0_22_s0 p0 p1 p2 p3 p4)), .val (.double (j0_34_s0 p0 p1 p2 p3 p4)), .second, .val (.double (v0_51 p0 p1 p2 p3 p4)), .second, .val (.double (v0_58 p0 p1 p2 p3 p4)), .second, .val (.double (v0_69 p0 p1 p2 p3 p4)), .second, .unset, .unset, .unset, .unset, .unset, .unset, .unset] [(.long ((p1.toInt64) + (v0_16 p0 p1 p2 p3 p4)))])) _
    refine XS.l2dS X0.here hx rfl (hb hby at_76) rfl rfl ?_
    show Steps p.tables e below (s₁.setTop (mkF m 77 #[.val (.int p0), .val (.int p1), .val (.int p2), .val (.int p3), .val (.int p4), .val (.long (v0_7 p0 p1 p2 p3 p4)), .second, .val (.long (v0_16 p0 p1 p2 p3 p4)), .second, .val (.int (j0_22_s0 p0 p1 p2 p3 p4)), .val (.double (j0_34_s0 p0 p1 p2 p3 p4)), .second, .val (.double (v0_51 p0 p1 p2 p3 p4)), .second, .val (.double (v0_58 p0 p1 p2 p3 p4)), .second, .val (.double (v0_69 p0 p1 p2 p3 p4)), .second, .unset, .unset, .unset, .unset, .unset, .unset, .unset] [(.double (FP.l2d ((p1.toInt64) + (v0_16 p0 p1 p2 p3 p4))))])) _
    refine XS.dload X0.here hx rfl (hb hby at_77) rfl ?_
    show Steps p.tables e below (s₁.setTop (mkF m 79 #[.val (.int p0), .val (.int p1), .val (.int p2), .val (.int p3), .val (.int p4), .val (.long (v0_7 p0 p1 p2 p3 p4)), .second, .val (.long (v0_16 p0 p1 p2 p3 p4)), .second, .val (.int (j0_22_s0 p0 p1 p2 p3 p4)), .val (.double (j0_34_s0 p0 p1 p2 p3 p4)), .second, .val (.double (v0_51 p0 p1 p2 p3 p4)), .second, .val (.double (v0_58 p0 p1 p2 p3 p4)), .second, .val (.double (v0_69 p0 p1 p2 p3 p4)), .second, .unset, .unset, .unset, .unset, .unset, .unset, .unset] [(.double (j0_34_s0 p0 p1 p2 p3 p4)), (.double (FP.l2d ((p1.toInt64) + (v0_16 p0 p1 p2 p3 p4))))])) _
    refine XS.dmulS X0.here hx rfl (hb hby at_79) rfl hn79 rfl ?_
    show Steps p.tables e below (s₁.setTop (mkF m 80 #[.val (.int p0), .val (.int p1), .val (.int p2), .val (.int p3), .val (.int p4), .val (.long (v0_7 p0 p1 p2 p3 p4)), .second, .val (.long (v0_16 p0 p1 p2 p3 p4)), .second, .val (.int (j0_22_s0 p0 p1 p2 p3 p4)), .val (.double (j0_34_s0 p0 p1 p2 p3 p4)), .second, .val (.double (v0_51 p0 p1 p2 p3 p4)), .second, .val (.double (v0_58 p0 p1 p2 p3 p4)), .second, .val (.double (v0_69 p0 p1 p2 p3 p4)), .second, .unset, .unset, .unset, .unset, .unset, .unset, .unset] [(.double (FP.dmul (FP.l2d ((p1.toInt64) + (v0_16 p0 p1 p2 p3 p4))) (j0_34_s0 p0 p1 p2 p3 p4)))])) _
    refine XS.dstore X0.here hx rfl (hb hby at_80) rfl (l' := #[.val (.int p0), .val (.int p1), .val (.int p2), .val (.int p3), .val (.int p4), .val (.long (v0_7 p0 p1 p2 p3 p4)), .second, .val (.long (v0_16 p0 p1 p2 p3 p4)), .second, .val (.int (j0_22_s0 p0 p1 p2 p3 p4)), .val (.double (j0_34_s0 p0 p1 p2 p3 p4)), .second, .val (.double (v0_51 p0 p1 p2 p3 p4)), .second, .val (.double (v0_58 p0 p1 p2 p3 p4)), .second, .val (.double (v0_69 p0 p1 p2 p3 p4)), .second, .val (.double (v0_80 p0 p1 p2 p3 p4)), .second, .unset, .unset, .unset, .unset, .unset]) rfl ?_
    show Steps p.tables e below (s₁.setTop (mkF m 82 #[.val (.int p0), .val (.int p1), .val (.int p2), .val (.int p3), .val (.int p4), .val (.long (v0_7 p0 p1 p2 p3 p4)), .second, .val (.long (v0_16 p0 p1 p2 p3 p4)), .second, .val (.int (j0_22_s0 p0 p1 p2 p3 p4)), .val (.double (j0_34_s0 p0 p1 p2 p3 p4)), .second, .val (.double (v0_51 p0 p1 p2 p3 p4)), .second, .val (.double (v0_58 p0 p1 p2 p3 p4)), .second, .val (.double (v0_69 p0 p1 p2 p3 p4)), .second, .val (.double (v0_80 p0 p1 p2 p3 p4)), .second, .unset, .unset, .unset, .unset, .unset] [])) _
    refine st1 _ ?_
    show Steps p.tables e below (T1.setTop (mkF m 85 #[.val (.int p0), .val (.int p1), .val (.int p2), .val (.int p3), .val (.int p4), .val (.long (v0_7 p0 p1 p2 p3 p4)), .second, .val (.long (v0_16 p0 p1 p2 p3 p4)), .second, .val (.int (j0_22_s0 p0 p1 p2 p3 p4)), .val (.double (j0_34_s0 p0 p1 p2 p3 p4)), .second, .val (.double (v0_51 p0 p1 p2 p3 p4)), .second, .val (.double (v0_58 p0 p1 p2 p3 p4)), .second, .val (.double (v0_69 p0 p1 p2 p3 p4)), .second, .val (.double (v0_80 p0 p1 p2 p3 p4)), .second, .unset, .unset, .unset, .unset, .unset] [(.ref b1)])) _
    refine XS.dup X1.here hx rfl (hb hby at_85) rfl rfl ?_
    show Steps p.tables e below (T1.setTop (mkF m 86 #[.val (.int p0), .val (.int p1), .val (.int p2), .val (.int p3), .val (.int p4), .val (.long (v0_7 p0 p1 p2 p3 p4)), .second, .val (.long (v0_16 p0 p1 p2 p3 p4)), .second, .val (.int (j0_22_s0 p0 p1 p2 p3 p4)), .val (.double (j0_34_s0 p0 p1 p2 p3 p4)), .second, .val (.double (v0_51 p0 p1 p2 p3 p4)), .second, .val (.double (v0_58 p0 p1 p2 p3 p4)), .second, .val (.double (v0_69 p0 p1 p2 p3 p4)), .second, .val (.double (v0_80 p0 p1 p2 p3 p4)), .second, .unset, .unset, .unset, .unset, .unset] [(.ref b1), (.ref b1)])) _
    refine XS.dload X1.here hx rfl (hb hby at_86) rfl ?_
    show Steps p.tables e below (T1.setTop (mkF m 88 #[.val (.int p0), .val (.int p1), .val (.int p2), .val (.int p3), .val (.int p4), .val (.long (v0_7 p0 p1 p2 p3 p4)), .second, .val (.long (v0_16 p0 p1 p2 p3 p4)), .second, .val (.int (j0_22_s0 p0 p1 p2 p3 p4)), .val (.double (j0_34_s0 p0 p1 p2 p3 p4)), .second, .val (.double (v0_51 p0 p1 p2 p3 p4)), .second, .val (.double (v0_58 p0 p1 p2 p3 p4)), .second, .val (.double (v0_69 p0 p1 p2 p3 p4)), .second, .val (.double (v0_80 p0 p1 p2 p3 p4)), .second, .unset, .unset, .unset, .unset, .unset] [(.double (v0_51 p0 p1 p2 p3 p4)), (.ref b1), (.ref b1)])) _
    refine XS.dload X1.here hx rfl (hb hby at_88) rfl ?_
    show Steps p.tables e below (T1.setTop (mkF m 90 #[.val (.int p0), .val (.int p1), .val (.int p2), .val (.int p3), .val (.int p4), .val (.long (v0_7 p0 p1 p2 p3 p4)), .second, .val (.long (v0_16 p0 p1 p2 p3 p4)), .second, .val (.int (j0_22_s0 p0 p1 p2 p3 p4)), .val (.double (j0_34_s0 p0 p1 p2 p3 p4)), .second, .val (.double (v0_51 p0 p1 p2 p3 p4)), .second, .val (.double (v0_58 p0 p1 p2 p3 p4)), .second, .val (.double (v0_69 p0 p1 p2 p3 p4)), .second, .val (.double (v0_80 p0 p1 p2 p3 p4)), .second, .unset, .unset, .unset, .unset, .unset] [(.double (v0_58 p0 p1 p2 p3 p4)), (.double (v0_51 p0 p1 p2 p3 p4)), (.ref b1), (.ref b1)])) _
    refine XS.dload X1.here hx rfl (hb hby at_90) rfl ?_
    show Steps p.tables e below (T1.setTop (mkF m 92 #[.val (.int p0), .val (.int p1), .val (.int p2), .val (.int p3), .val (.int p4), .val (.long (v0_7 p0 p1 p2 p3 p4)), .second, .val (.long (v0_16 p0 p1 p2 p3 p4)), .second, .val (.int (j0_22_s0 p0 p1 p2 p3 p4)), .val (.double (j0_34_s0 p0 p1 p2 p3 p4)), .second, .val (.double (v0_51 p0 p1 p2 p3 p4)), .second, .val (.double (v0_58 p0 p1 p2 p3 p4)), .second, .val (.double (v0_69 p0 p1 p2 p3 p4)), .second, .val (.double (v0_80 p0 p1 p2 p3 p4)), .second, .unset, .unset, .unset, .unset, .unset] [(.double (v0_69 p0 p1 p2 p3 p4)), (.double (v0_58 p0 p1 p2 p3 p4)), (.double (v0_51 p0 p1 p2 p3 p4)), (.ref b1), (.ref b1)])) _
    refine XS.dload X1.here hx rfl (hb hby at_92) rfl ?_
    show Steps p.tables e below (T1.setTop (mkF m 94 #[.val (.int p0), .val (.int p1), .val (.int p2), .val (.int p3), .val (.int p4), .val (.long (v0_7 p0 p1 p2 p3 p4)), .second, .val (.long (v0_16 p0 p1 p2 p3 p4)), .second, .val (.int (j0_22_s0 p0 p1 p2 p3 p4)), .val (.double (j0_34_s0 p0 p1 p2 p3 p4)), .second, .val (.double (v0_51 p0 p1 p2 p3 p4)), .second, .val (.double (v0_58 p0 p1 p2 p3 p4)), .second, .val (.double (v0_69 p0 p1 p2 p3 p4)), .second, .val (.double (v0_80 p0 p1 p2 p3 p4)), .second, .unset, .unset, .unset, .unset, .unset] [(.double (v0_80 p0 p1 p2 p3 p4)), (.double (v0_69 p0 p1 p2 p3 p4)), (.double (v0_58 p0 p1 p2 p3 p4)), (.double (v0_51 p0 p1 p2 p3 p4)), (.ref b1), (.ref b1)])) _
    refine st2.trans ?_
    show Steps p.tables e below (T2.setTop (mkF m 97 #[.val (.int p0), .val (.int p1), .val (.int p2), .val (.int p3), .val (.int p4), .val (.long (v0_7 p0 p1 p2 p3 p4)), .second, .val (.long (v0_16 p0 p1 p2 p3 p4)), .second, .val (.int (j0_22_s0 p0 p1 p2 p3 p4)), .val (.double (j0_34_s0 p0 p1 p2 p3 p4)), .second, .val (.double (v0_51 p0 p1 p2 p3 p4)), .second, .val (.double (v0_58 p0 p1 p2 p3 p4)), .second, .val (.double (v0_69 p0 p1 p2 p3 p4)), .second, .val (.double (v0_80 p0 p1 p2 p3 p4)), .second, .unset, .unset, .unset, .unset, .unset] [(.ref b1)])) _
    refine XS.astore X2.here hx rfl (hb hby at_97) rfl rfl (l' := #[.val (.int p0), .val (.int p1), .val (.int p2), .val (.int p3), .val (.int p4), .val (.long (v0_7 p0 p1 p2 p3 p4)), .second, .val (.long (v0_16 p0 p1 p2 p3 p4)), .second, .val (.int (j0_22_s0 p0 p1 p2 p3 p4)), .val (.double (j0_34_s0 p0 p1 p2 p3 p4)), .second, .val (.double (v0_51 p0 p1 p2 p3 p4)), .second, .val (.double (v0_58 p0 p1 p2 p3 p4)), .second, .val (.double (v0_69 p0 p1 p2 p3 p4)), .second, .val (.double (v0_80 p0 p1 p2 p3 p4)), .second, .val (.ref b1), .unset, .unset, .unset, .unset]) rfl ?_
    show Steps p.tables e below (T2.setTop (mkF m 99 #[.val (.int p0), .val (.int p1), .val (.int p2), .val (.int p3), .val (.int p4), .val (.long (v0_7 p0 p1 p2 p3 p4)), .second, .val (.long (v0_16 p0 p1 p2 p3 p4)), .second, .val (.int (j0_22_s0 p0 p1 p2 p3 p4)), .val (.double (j0_34_s0 p0 p1 p2 p3 p4)), .second, .val (.double (v0_51 p0 p1 p2 p3 p4)), .second, .val (.double (v0_58 p0 p1 p2 p3 p4)), .second, .val (.double (v0_69 p0 p1 p2 p3 p4)), .second, .val (.double (v0_80 p0 p1 p2 p3 p4)), .second, .val (.ref b1), .unset, .unset, .unset, .unset] [])) _
    refine XS.aload X2.here hx rfl (hb hby at_99) rfl rfl ?_
    show Steps p.tables e below (T2.setTop (mkF m 101 #[.val (.int p0), .val (.int p1), .val (.int p2), .val (.int p3), .val (.int p4), .val (.long (v0_7 p0 p1 p2 p3 p4)), .second, .val (.long (v0_16 p0 p1 p2 p3 p4)), .second, .val (.int (j0_22_s0 p0 p1 p2 p3 p4)), .val (.double (j0_34_s0 p0 p1 p2 p3 p4)), .second, .val (.double (v0_51 p0 p1 p2 p3 p4)), .second, .val (.double (v0_58 p0 p1 p2 p3 p4)), .second, .val (.double (v0_69 p0 p1 p2 p3 p4)), .second, .val (.double (v0_80 p0 p1 p2 p3 p4)), .second, .val (.ref b1), .unset, .unset, .unset, .unset] [(.ref b1)])) _
    refine st3.trans ?_
    show Steps p.tables e below (T3.setTop (mkF m 104 #[.val (.int p0), .val (.int p1), .val (.int p2), .val (.int p3), .val (.int p4), .val (.long (v0_7 p0 p1 p2 p3 p4)), .second, .val (.long (v0_16 p0 p1 p2 p3 p4)), .second, .val (.int (j0_22_s0 p0 p1 p2 p3 p4)), .val (.double (j0_34_s0 p0 p1 p2 p3 p4)), .second, .val (.double (v0_51 p0 p1 p2 p3 p4)), .second, .val (.double (v0_58 p0 p1 p2 p3 p4)), .second, .val (.double (v0_69 p0 p1 p2 p3 p4)), .second, .val (.double (v0_80 p0 p1 p2 p3 p4)), .second, .val (.ref b1), .unset, .unset, .unset, .unset] [(.double (r5 (v0_69 p0 p1 p2 p3 p4) (v0_51 p0 p1 p2 p3 p4) (v0_80 p0 p1 p2 p3 p4) (v0_58 p0 p1 p2 p3 p4)))])) _
    refine XS.dstore X3.here hx rfl (hb hby at_104) rfl (l' := #[.val (.int p0), .val (.int p1), .val (.int p2), .val (.int p3), .val (.int p4), .val (.long (v0_7 p0 p1 p2 p3 p4)), .second, .val (.long (v0_16 p0 p1 p2 p3 p4)), .second, .val (.int (j0_22_s0 p0 p1 p2 p3 p4)), .val (.double (j0_34_s0 p0 p1 p2 p3 p4)), .second, .val (.double (v0_51 p0 p1 p2 p3 p4)), .second, .val (.double (v0_58 p0 p1 p2 p3 p4)), .second, .val (.double (v0_69 p0 p1 p2 p3 p4)), .second, .val (.double (v0_80 p0 p1 p2 p3 p4)), .second, .val (.ref b1), .val (.double (v0_104 p0 p1 p2 p3 p4)), .second, .unset, .unset]) rfl ?_
    show Steps p.tables e below (T3.setTop (mkF m 106 #[.val (.int p0), .val (.int p1), .val (.int p2), .val (.int p3), .val (.int p4), .val (.long (v0_7 p0 p1 p2 p3 p4)), .second, .val (.long (v0_16 p0 p1 p2 p3 p4)), .second, .val (.int (j0_22_s0 p0 p1 p2 p3 p4)), .val (.double (j0_34_s0 p0 p1 p2 p3 p4)), .second, .val (.double (v0_51 p0 p1 p2 p3 p4)), .second, .val (.double (v0_58 p0 p1 p2 p3 p4)), .second, .val (.double (v0_69 p0 p1 p2 p3 p4)), .second, .val (.double (v0_80 p0 p1 p2 p3 p4)), .second, .val (.ref b1), .val (.double (v0_104 p0 p1 p2 p3 p4)), .second, .unset, .unset] [])) _
    refine XS.lload X3.here hx rfl (hb hby at_106) rfl ?_
    show Steps p.tables e below (T3.setTop (mkF m 108 #[.val (.int p0), .val (.int p1), .val (.int p2), .val (.int p3), .val (.int p4), .val (.long (v0_7 p0 p1 p2 p3 p4)), .second, .val (.long (v0_16 p0 p1 p2 p3 p4)), .second, .val (.int (j0_22_s0 p0 p1 p2 p3 p4)), .val (.double (j0_34_s0 p0 p1 p2 p3 p4)), .second, .val (.double (v0_51 p0 p1 p2 p3 p4)), .second, .val (.double (v0_58 p0 p1 p2 p3 p4)), .second, .val (.double (v0_69 p0 p1 p2 p3 p4)), .second, .val (.double (v0_80 p0 p1 p2 p3 p4)), .second, .val (.ref b1), .val (.double (v0_104 p0 p1 p2 p3 p4)), .second, .unset, .unset] [(.long (v0_7 p0 p1 p2 p3 p4))])) _
    refine XS.lload X3.here hx rfl (hb hby at_108) rfl ?_
    show Steps p.tables e below (T3.setTop (mkF m 110 #[.val (.int p0), .val (.int p1), .val (.int p2), .val (.int p3), .val (.int p4), .val (.long (v0_7 p0 p1 p2 p3 p4)), .second, .val (.long (v0_16 p0 p1 p2 p3 p4)), .second, .val (.int (j0_22_s0 p0 p1 p2 p3 p4)), .val (.double (j0_34_s0 p0 p1 p2 p3 p4)), .second, .val (.double (v0_51 p0 p1 p2 p3 p4)), .second, .val (.double (v0_58 p0 p1 p2 p3 p4)), .second, .val (.double (v0_69 p0 p1 p2 p3 p4)), .second, .val (.double (v0_80 p0 p1 p2 p3 p4)), .second, .val (.ref b1), .val (.double (v0_104 p0 p1 p2 p3 p4)), .second, .unset, .unset] [(.long (v0_16 p0 p1 p2 p3 p4)), (.long (v0_7 p0 p1 p2 p3 p4))])) _
    refine XS.lmul X3.here hx rfl (hb hby at_110) rfl ?_
    show Steps p.tables e below (T3.setTop (mkF m 111 #[.val (.int p0), .val (.int p1), .val (.int p2), .val (.int p3), .val (.int p4), .val (.long (v0_7 p0 p1 p2 p3 p4)), .second, .val (.long (v0_16 p0 p1 p2 p3 p4)), .second, .val (.int (j0_22_s0 p0 p1 p2 p3 p4)), .val (.double (j0_34_s0 p0 p1 p2 p3 p4)), .second, .val (.double (v0_51 p0 p1 p2 p3 p4)), .second, .val (.double (v0_58 p0 p1 p2 p3 p4)), .second, .val (.double (v0_69 p0 p1 p2 p3 p4)), .second, .val (.double (v0_80 p0 p1 p2 p3 p4)), .second, .val (.ref b1), .val (.double (v0_104 p0 p1 p2 p3 p4)), .second, .unset, .unset] [(.long ((v0_7 p0 p1 p2 p3 p4) * (v0_16 p0 p1 p2 p3 p4)))])) _
    refine XS.l2dS X3.here hx rfl (hb hby at_111) rfl rfl ?_
    show Steps p.tables e below (T3.setTop (mkF m 112 #[.val (.int p0), .val (.int p1), .val (.int p2), .val (.int p3), .val (.int p4), .val (.long (v0_7 p0 p1 p2 p3 p4)), .second, .val (.long (v0_16 p0 p1 p2 p3 p4)), .second, .val (.int (j0_22_s0 p0 p1 p2 p3 p4)), .val (.double (j0_34_s0 p0 p1 p2 p3 p4)), .second, .val (.double (v0_51 p0 p1 p2 p3 p4)), .second, .val (.double (v0_58 p0 p1 p2 p3 p4)), .second, .val (.double (v0_69 p0 p1 p2 p3 p4)), .second, .val (.double (v0_80 p0 p1 p2 p3 p4)), .second, .val (.ref b1), .val (.double (v0_104 p0 p1 p2 p3 p4)), .second, .unset, .unset] [(.double (FP.l2d ((v0_7 p0 p1 p2 p3 p4) * (v0_16 p0 p1 p2 p3 p4))))])) _
    refine XS.dload X3.here hx rfl (hb hby at_112) rfl ?_
    show Steps p.tables e below (T3.setTop (mkF m 114 #[.val (.int p0), .val (.int p1), .val (.int p2), .val (.int p3), .val (.int p4), .val (.long (v0_7 p0 p1 p2 p3 p4)), .second, .val (.long (v0_16 p0 p1 p2 p3 p4)), .second, .val (.int (j0_22_s0 p0 p1 p2 p3 p4)), .val (.double (j0_34_s0 p0 p1 p2 p3 p4)), .second, .val (.double (v0_51 p0 p1 p2 p3 p4)), .second, .val (.double (v0_58 p0 p1 p2 p3 p4)), .second, .val (.double (v0_69 p0 p1 p2 p3 p4)), .second, .val (.double (v0_80 p0 p1 p2 p3 p4)), .second, .val (.ref b1), .val (.double (v0_104 p0 p1 p2 p3 p4)), .second, .unset, .unset] [(.double (j0_34_s0 p0 p1 p2 p3 p4)), (.double (FP.l2d ((v0_7 p0 p1 p2 p3 p4) * (v0_16 p0 p1 p2 p3 p4))))])) _
    refine XS.dmulS X3.here hx rfl (hb hby at_114) rfl hn114 rfl ?_
    show Steps p.tables e below (T3.setTop (mkF m 115 #[.val (.int p0), .val (.int p1), .val (.int p2), .val (.int p3), .val (.int p4), .val (.long (v0_7 p0 p1 p2 p3 p4)), .second, .val (.long (v0_16 p0 p1 p2 p3 p4)), .second, .val (.int (j0_22_s0 p0 p1 p2 p3 p4)), .val (.double (j0_34_s0 p0 p1 p2 p3 p4)), .second, .val (.double (v0_51 p0 p1 p2 p3 p4)), .second, .val (.double (v0_58 p0 p1 p2 p3 p4)), .second, .val (.double (v0_69 p0 p1 p2 p3 p4)), .second, .val (.double (v0_80 p0 p1 p2 p3 p4)), .second, .val (.ref b1), .val (.double (v0_104 p0 p1 p2 p3 p4)), .second, .unset, .unset] [(.double (FP.dmul (FP.l2d ((v0_7 p0 p1 p2 p3 p4) * (v0_16 p0 p1 p2 p3 p4))) (j0_34_s0 p0 p1 p2 p3 p4)))])) _
    refine XS.dload X3.here hx rfl (hb hby at_115) rfl ?_
    show Steps p.tables e below (T3.setTop (mkF m 117 #[.val (.int p0), .val (.int p1), .val (.int p2), .val (.int p3), .val (.int p4), .val (.long (v0_7 p0 p1 p2 p3 p4)), .second, .val (.long (v0_16 p0 p1 p2 p3 p4)), .second, .val (.int (j0_22_s0 p0 p1 p2 p3 p4)), .val (.double (j0_34_s0 p0 p1 p2 p3 p4)), .second, .val (.double (v0_51 p0 p1 p2 p3 p4)), .second, .val (.double (v0_58 p0 p1 p2 p3 p4)), .second, .val (.double (v0_69 p0 p1 p2 p3 p4)), .second, .val (.double (v0_80 p0 p1 p2 p3 p4)), .second, .val (.ref b1), .val (.double (v0_104 p0 p1 p2 p3 p4)), .second, .unset, .unset] [(.double (j0_34_s0 p0 p1 p2 p3 p4)), (.double (FP.dmul (FP.l2d ((v0_7 p0 p1 p2 p3 p4) * (v0_16 p0 p1 p2 p3 p4))) (j0_34_s0 p0 p1 p2 p3 p4)))])) _
    refine XS.dmulS X3.here hx rfl (hb hby at_117) rfl hn117 rfl ?_
    show Steps p.tables e below (T3.setTop (mkF m 118 #[.val (.int p0), .val (.int p1), .val (.int p2), .val (.int p3), .val (.int p4), .val (.long (v0_7 p0 p1 p2 p3 p4)), .second, .val (.long (v0_16 p0 p1 p2 p3 p4)), .second, .val (.int (j0_22_s0 p0 p1 p2 p3 p4)), .val (.double (j0_34_s0 p0 p1 p2 p3 p4)), .second, .val (.double (v0_51 p0 p1 p2 p3 p4)), .second, .val (.double (v0_58 p0 p1 p2 p3 p4)), .second, .val (.double (v0_69 p0 p1 p2 p3 p4)), .second, .val (.double (v0_80 p0 p1 p2 p3 p4)), .second, .val (.ref b1), .val (.double (v0_104 p0 p1 p2 p3 p4)), .second, .unset, .unset] [(.double (FP.dmul (FP.dmul (FP.l2d ((v0_7 p0 p1 p2 p3 p4) * (v0_16 p0 p1 p2 p3 p4))) (j0_34_s0 p0 p1 p2 p3 p4)) (j0_34_s0 p0 p1 p2 p3 p4)))])) _
    refine XS.dstore X3.here hx rfl (hb hby at_118) rfl (l' := #[.val (.int p0), .val (.int p1), .val (.int p2), .val (.int p3), .val (.int p4), .val (.long (v0_7 p0 p1 p2 p3 p4)), .second, .val (.long (v0_16 p0 p1 p2 p3 p4)), .second, .val (.int (j0_22_s0 p0 p1 p2 p3 p4)), .val (.double (j0_34_s0 p0 p1 p2 p3 p4)), .second, .val (.double (v0_51 p0 p1 p2 p3 p4)), .second, .val (.double (v0_58 p0 p1 p2 p3 p4)), .second, .val (.double (v0_69 p0 p1 p2 p3 p4)), .second, .val (.double (v0_80 p0 p1 p2 p3 p4)), .second, .val (.ref b1), .val (.double (v0_104 p0 p1 p2 p3 p4)), .second, .val (.double (v0_118 p0 p1 p2 p3 p4)), .second]) rfl ?_
    show Steps p.tables e below (T3.setTop (mkF m 120 #[.val (.int p0), .val (.int p1), .val (.int p2), .val (.int p3), .val (.int p4), .val (.long (v0_7 p0 p1 p2 p3 p4)), .second, .val (.long (v0_16 p0 p1 p2 p3 p4)), .second, .val (.int (j0_22_s0 p0 p1 p2 p3 p4)), .val (.double (j0_34_s0 p0 p1 p2 p3 p4)), .second, .val (.double (v0_51 p0 p1 p2 p3 p4)), .second, .val (.double (v0_58 p0 p1 p2 p3 p4)), .second, .val (.double (v0_69 p0 p1 p2 p3 p4)), .second, .val (.double (v0_80 p0 p1 p2 p3 p4)), .second, .val (.ref b1), .val (.double (v0_104 p0 p1 p2 p3 p4)), .second, .val (.double (v0_118 p0 p1 p2 p3 p4)), .second] [])) _
    refine XS.dload X3.here hx rfl (hb hby at_120) rfl ?_
    show Steps p.tables e below (T3.setTop (mkF m 122 #[.val (.int p0), .val (.int p1), .val (.int p2), .val (.int p3), .val (.int p4), .val (.long (v0_7 p0 p1 p2 p3 p4)), .second, .val (.long (v0_16 p0 p1 p2 p3 p4)), .second, .val (.int (j0_22_s0 p0 p1 p2 p3 p4)), .val (.double (j0_34_s0 p0 p1 p2 p3 p4)), .second, .val (.double (v0_51 p0 p1 p2 p3 p4)), .second, .val (.double (v0_58 p0 p1 p2 p3 p4)), .second, .val (.double (v0_69 p0 p1 p2 p3 p4)), .second, .val (.double (v0_80 p0 p1 p2 p3 p4)), .second, .val (.ref b1), .val (.double (v0_104 p0 p1 p2 p3 p4)), .second, .val (.double (v0_118 p0 p1 p2 p3 p4)), .second] [(.double (v0_104 p0 p1 p2 p3 p4))])) _
    refine XS.dload X3.here hx rfl (hb hby at_122) rfl ?_
    show Steps p.tables e below (T3.setTop (mkF m 124 #[.val (.int p0), .val (.int p1), .val (.int p2), .val (.int p3), .val (.int p4), .val (.long (v0_7 p0 p1 p2 p3 p4)), .second, .val (.long (v0_16 p0 p1 p2 p3 p4)), .second, .val (.int (j0_22_s0 p0 p1 p2 p3 p4)), .val (.double (j0_34_s0 p0 p1 p2 p3 p4)), .second, .val (.double (v0_51 p0 p1 p2 p3 p4)), .second, .val (.double (v0_58 p0 p1 p2 p3 p4)), .second, .val (.double (v0_69 p0 p1 p2 p3 p4)), .second, .val (.double (v0_80 p0 p1 p2 p3 p4)), .second, .val (.ref b1), .val (.double (v0_104 p0 p1 p2 p3 p4)), .second, .val (.double (v0_118 p0 p1 p2 p3 p4)), .second] [(.double (v0_118 p0 p1 p2 p3 p4)), (.double (v0_104 p0 p1 p2 p3 p4))])) _
    refine XS.dcmpS X3.here hx rfl (hb hby at_124) rfl rfl ?_
    show Steps p.tables e below (T3.setTop (mkF m 125 #[.val (.int p0), .val (.int p1), .val (.int p2), .val (.int p3), .val (.int p4), .val (.long (v0_7 p0 p1 p2 p3 p4)), .second, .val (.long (v0_16 p0 p1 p2 p3 p4)), .second, .val (.int (j0_22_s0 p0 p1 p2 p3 p4)), .val (.double (j0_34_s0 p0 p1 p2 p3 p4)), .second, .val (.double (v0_51 p0 p1 p2 p3 p4)), .second, .val (.double (v0_58 p0 p1 p2 p3 p4)), .second, .val (.double (v0_69 p0 p1 p2 p3 p4)), .second, .val (.double (v0_80 p0 p1 p2 p3 p4)), .second, .val (.ref b1), .val (.double (v0_104 p0 p1 p2 p3 p4)), .second, .val (.double (v0_118 p0 p1 p2 p3 p4)), .second] [(.int (cmpValue (FP.dcmp (v0_104 p0 p1 p2 p3 p4) (v0_118 p0 p1 p2 p3 p4)) .l))])) _
    suffices kt125 : Steps p.tables e below (T3.setTop (mkF m 140 #[.val (.int p0), .val (.int p1), .val (.int p2), .val (.int p3), .val (.int p4), .val (.long (v0_7 p0 p1 p2 p3 p4)), .second, .val (.long (v0_16 p0 p1 p2 p3 p4)), .second, .val (.int (j0_22_s0 p0 p1 p2 p3 p4)), .val (.double (j0_34_s0 p0 p1 p2 p3 p4)), .second, .val (.double (v0_51 p0 p1 p2 p3 p4)), .second, .val (.double (v0_58 p0 p1 p2 p3 p4)), .second, .val (.double (v0_69 p0 p1 p2 p3 p4)), .second, .val (.double (v0_80 p0 p1 p2 p3 p4)), .second, .val (.ref b1), .val (.double (v0_104 p0 p1 p2 p3 p4)), .second, .val (.double (v0_118 p0 p1 p2 p3 p4)), .second] [(.int (j0_125_s0 p0 p1 p2 p3 p4))])) (T3.setFrames fs) by
      by_cases hc125 : ifCond.holds .ne (cmpValue (FP.dcmp (v0_104 p0 p1 p2 p3 p4) (v0_118 p0 p1 p2 p3 p4)) .l) = true
      · rw [show (j0_125_s0 p0 p1 p2 p3 p4) = (0 : Int32) from if_pos hc125] at kt125
        refine XS.ifYes X3.here hx rfl (pc0 := 125) (pc' := 139) rfl (hb hby at_125) rfl hc125 (by decide) (by decide) ?_
        show Steps p.tables e below (T3.setTop (mkF m 139 #[.val (.int p0), .val (.int p1), .val (.int p2), .val (.int p3), .val (.int p4), .val (.long (v0_7 p0 p1 p2 p3 p4)), .second, .val (.long (v0_16 p0 p1 p2 p3 p4)), .second, .val (.int (j0_22_s0 p0 p1 p2 p3 p4)), .val (.double (j0_34_s0 p0 p1 p2 p3 p4)), .second, .val (.double (v0_51 p0 p1 p2 p3 p4)), .second, .val (.double (v0_58 p0 p1 p2 p3 p4)), .second, .val (.double (v0_69 p0 p1 p2 p3 p4)), .second, .val (.double (v0_80 p0 p1 p2 p3 p4)), .second, .val (.ref b1), .val (.double (v0_104 p0 p1 p2 p3 p4)), .second, .val (.double (v0_118 p0 p1 p2 p3 p4)), .second] [])) _
        refine XS.iconst X3.here hx rfl (hb hby at_139) ?_
        exact kt125
      · rw [show (j0_125_s0 p0 p1 p2 p3 p4) = (j0_132_s0 p0 p1 p2 p3 p4) from if_neg hc125] at kt125
        refine XS.ifNo X3.here hx rfl (hb hby at_125) rfl (eq_false_of_ne_true hc125) ?_
        show Steps p.tables e below (T3.setTop (mkF m 128 #[.val (.int p0), .val (.int p1), .val (.int p2), .val (.int p3), .val (.int p4), .val (.long (v0_7 p0 p1 p2 p3 p4)), .second, .val (.long (v0_16 p0 p1 p2 p3 p4)), .second, .val (.int (j0_22_s0 p0 p1 p2 p3 p4)), .val (.double (j0_34_s0 p0 p1 p2 p3 p4)), .second, .val (.double (v0_51 p0 p1 p2 p3 p4)), .second, .val (.double (v0_58 p0 p1 p2 p3 p4)), .second, .val (.double (v0_69 p0 p1 p2 p3 p4)), .second, .val (.double (v0_80 p0 p1 p2 p3 p4)), .second, .val (.ref b1), .val (.double (v0_104 p0 p1 p2 p3 p4)), .second, .val (.double (v0_118 p0 p1 p2 p3 p4)), .second] [])) _
        refine XS.dload X3.here hx rfl (hb hby at_128) rfl ?_
        show Steps p.tables e below (T3.setTop (mkF m 130 #[.val (.int p0), .val (.int p1), .val (.int p2), .val (.int p3), .val (.int p4), .val (.long (v0_7 p0 p1 p2 p3 p4)), .second, .val (.long (v0_16 p0 p1 p2 p3 p4)), .second, .val (.int (j0_22_s0 p0 p1 p2 p3 p4)), .val (.double (j0_34_s0 p0 p1 p2 p3 p4)), .second, .val (.double (v0_51 p0 p1 p2 p3 p4)), .second, .val (.double (v0_58 p0 p1 p2 p3 p4)), .second, .val (.double (v0_69 p0 p1 p2 p3 p4)), .second, .val (.double (v0_80 p0 p1 p2 p3 p4)), .second, .val (.ref b1), .val (.double (v0_104 p0 p1 p2 p3 p4)), .second, .val (.double (v0_118 p0 p1 p2 p3 p4)), .second] [(.double (v0_104 p0 p1 p2 p3 p4))])) _
        refine XS.dconst0 X3.here hx rfl (hb hby at_130) rfl ?_
        show Steps p.tables e below (T3.setTop (mkF m 131 #[.val (.int p0), .val (.int p1), .val (.int p2), .val (.int p3), .val (.int p4), .val (.long (v0_7 p0 p1 p2 p3 p4)), .second, .val (.long (v0_16 p0 p1 p2 p3 p4)), .second, .val (.int (j0_22_s0 p0 p1 p2 p3 p4)), .val (.double (j0_34_s0 p0 p1 p2 p3 p4)), .second, .val (.double (v0_51 p0 p1 p2 p3 p4)), .second, .val (.double (v0_58 p0 p1 p2 p3 p4)), .second, .val (.double (v0_69 p0 p1 p2 p3 p4)), .second, .val (.double (v0_80 p0 p1 p2 p3 p4)), .second, .val (.ref b1), .val (.double (v0_104 p0 p1 p2 p3 p4)), .second, .val (.double (v0_118 p0 p1 p2 p3 p4)), .second] [(.double FP.dconst0), (.double (v0_104 p0 p1 p2 p3 p4))])) _
        refine XS.dcmpS X3.here hx rfl (hb hby at_131) rfl rfl ?_
        show Steps p.tables e below (T3.setTop (mkF m 132 #[.val (.int p0), .val (.int p1), .val (.int p2), .val (.int p3), .val (.int p4), .val (.long (v0_7 p0 p1 p2 p3 p4)), .second, .val (.long (v0_16 p0 p1 p2 p3 p4)), .second, .val (.int (j0_22_s0 p0 p1 p2 p3 p4)), .val (.double (j0_34_s0 p0 p1 p2 p3 p4)), .second, .val (.double (v0_51 p0 p1 p2 p3 p4)), .second, .val (.double (v0_58 p0 p1 p2 p3 p4)), .second, .val (.double (v0_69 p0 p1 p2 p3 p4)), .second, .val (.double (v0_80 p0 p1 p2 p3 p4)), .second, .val (.ref b1), .val (.double (v0_104 p0 p1 p2 p3 p4)), .second, .val (.double (v0_118 p0 p1 p2 p3 p4)), .second] [(.int (cmpValue (FP.dcmp (v0_104 p0 p1 p2 p3 p4) FP.dconst0) .l))])) _
        suffices kt132 : Steps p.tables e below (T3.setTop (mkF m 140 #[.val (.int p0), .val (.int p1), .val (.int p2), .val (.int p3), .val (.int p4), .val (.long (v0_7 p0 p1 p2 p3 p4)), .second, .val (.long (v0_16 p0 p1 p2 p3 p4)), .second, .val (.int (j0_22_s0 p0 p1 p2 p3 p4)), .val (.double (j0_34_s0 p0 p1 p2 p3 p4)), .second, .val (.double (v0_51 p0 p1 p2 p3 p4)), .second, .val (.double (v0_58 p0 p1 p2 p3 p4)), .second, .val (.double (v0_69 p0 p1 p2 p3 p4)), .second, .val (.double (v0_80 p0 p1 p2 p3 p4)), .second, .val (.ref b1), .val (.double (v0_104 p0 p1 p2 p3 p4)), .second, .val (.double (v0_118 p0 p1 p2 p3 p4)), .second] [(.int (j0_132_s0 p0 p1 p2 p3 p4))])) (T3.setFrames fs) by
          by_cases hc132 : ifCond.holds .le (cmpValue (FP.dcmp (v0_104 p0 p1 p2 p3 p4) FP.dconst0) .l) = true
          · rw [show (j0_132_s0 p0 p1 p2 p3 p4) = (0 : Int32) from if_pos hc132] at kt132
            refine XS.ifYes X3.here hx rfl (pc0 := 132) (pc' := 139) rfl (hb hby at_132) rfl hc132 (by decide) (by decide) ?_
            show Steps p.tables e below (T3.setTop (mkF m 139 #[.val (.int p0), .val (.int p1), .val (.int p2), .val (.int p3), .val (.int p4), .val (.long (v0_7 p0 p1 p2 p3 p4)), .second, .val (.long (v0_16 p0 p1 p2 p3 p4)), .second, .val (.int (j0_22_s0 p0 p1 p2 p3 p4)), .val (.double (j0_34_s0 p0 p1 p2 p3 p4)), .second, .val (.double (v0_51 p0 p1 p2 p3 p4)), .second, .val (.double (v0_58 p0 p1 p2 p3 p4)), .second, .val (.double (v0_69 p0 p1 p2 p3 p4)), .second, .val (.double (v0_80 p0 p1 p2 p3 p4)), .second, .val (.ref b1), .val (.double (v0_104 p0 p1 p2 p3 p4)), .second, .val (.double (v0_118 p0 p1 p2 p3 p4)), .second] [])) _
            refine XS.iconst X3.here hx rfl (hb hby at_139) ?_
            exact kt132
          · rw [show (j0_132_s0 p0 p1 p2 p3 p4) = (1 : Int32) from if_neg hc132] at kt132
            refine XS.ifNo X3.here hx rfl (hb hby at_132) rfl (eq_false_of_ne_true hc132) ?_
            show Steps p.tables e below (T3.setTop (mkF m 135 #[.val (.int p0), .val (.int p1), .val (.int p2), .val (.int p3), .val (.int p4), .val (.long (v0_7 p0 p1 p2 p3 p4)), .second, .val (.long (v0_16 p0 p1 p2 p3 p4)), .second, .val (.int (j0_22_s0 p0 p1 p2 p3 p4)), .val (.double (j0_34_s0 p0 p1 p2 p3 p4)), .second, .val (.double (v0_51 p0 p1 p2 p3 p4)), .second, .val (.double (v0_58 p0 p1 p2 p3 p4)), .second, .val (.double (v0_69 p0 p1 p2 p3 p4)), .second, .val (.double (v0_80 p0 p1 p2 p3 p4)), .second, .val (.ref b1), .val (.double (v0_104 p0 p1 p2 p3 p4)), .second, .val (.double (v0_118 p0 p1 p2 p3 p4)), .second] [])) _
            refine XS.iconst X3.here hx rfl (hb hby at_135) ?_
            show Steps p.tables e below (T3.setTop (mkF m 136 #[.val (.int p0), .val (.int p1), .val (.int p2), .val (.int p3), .val (.int p4), .val (.long (v0_7 p0 p1 p2 p3 p4)), .second, .val (.long (v0_16 p0 p1 p2 p3 p4)), .second, .val (.int (j0_22_s0 p0 p1 p2 p3 p4)), .val (.double (j0_34_s0 p0 p1 p2 p3 p4)), .second, .val (.double (v0_51 p0 p1 p2 p3 p4)), .second, .val (.double (v0_58 p0 p1 p2 p3 p4)), .second, .val (.double (v0_69 p0 p1 p2 p3 p4)), .second, .val (.double (v0_80 p0 p1 p2 p3 p4)), .second, .val (.ref b1), .val (.double (v0_104 p0 p1 p2 p3 p4)), .second, .val (.double (v0_118 p0 p1 p2 p3 p4)), .second] [(.int (1 : Int32))])) _
            refine XS.goto X3.here hx rfl (pc0 := 136) (pc' := 140) rfl (hb hby at_136) (by decide) (by decide) ?_
            exact kt132
        exact kt125
    show Steps p.tables e below (T3.setTop (mkF m 140 #[.val (.int p0), .val (.int p1), .val (.int p2), .val (.int p3), .val (.int p4), .val (.long (v0_7 p0 p1 p2 p3 p4)), .second, .val (.long (v0_16 p0 p1 p2 p3 p4)), .second, .val (.int (j0_22_s0 p0 p1 p2 p3 p4)), .val (.double (j0_34_s0 p0 p1 p2 p3 p4)), .second, .val (.double (v0_51 p0 p1 p2 p3 p4)), .second, .val (.double (v0_58 p0 p1 p2 p3 p4)), .second, .val (.double (v0_69 p0 p1 p2 p3 p4)), .second, .val (.double (v0_80 p0 p1 p2 p3 p4)), .second, .val (.ref b1), .val (.double (v0_104 p0 p1 p2 p3 p4)), .second, .val (.double (v0_118 p0 p1 p2 p3 p4)), .second] [(.int (j0_125_s0 p0 p1 p2 p3 p4))])) _
    rw [hres140]
    exact retN X3 hx (t := .boolean) Bd.returns (by simp) (hb hby at_140) hr
  · show Q0 Z p0 p1 p2 p3 p4 h0 n0 _ T3.heap _
    exact ⟨rfl, N3⟩
set_option maxRecDepth 65536 in
set_option maxHeartbeats 40000000 in
theorem comes_1 {Post : Tables → Env → Array Value → State → Outcome → State → Prop} (hpost : ∀ tb e args s v u, (limb_1_1.after args s (.returned v) u = true ∧ limb_1_2.after args s (.returned v) u = true ∧ True) → FrameEnd s (.returned v) u (Jvm.fieldLocs frame_1_writes args s ++ Jvm.arrayLocs frame_1_arrays args s ++ Jvm.staticLocs frame_1_statics s) 16 128 → Post tb e args s (.returned v) u) :
    ArmFor flags0 classFile x code maxLocals ret World_1 tables_1 room_1 Calls_1 rest_1 Pre_1 Post := by
  intro l hfl _ _ p e ha hc hk s m args below hf hA hF happ hP
  obtain ⟨hcalls, hrest, hpre⟩ := hP
  obtain ⟨-, -, -, hnamed, -, -, -, hat⟩ := (Spec.applies_iff hf).mp happ
  obtain ⟨hg, hn⟩ := and_e (Cond.before_iff.mp (show (Jvm.Cond.and given_1 narrow_1).before args s = true from hpre))
  obtain ⟨k0, r0⟩ := and_e hg
  obtain ⟨a0, r1⟩ := and_e r0
  obtain ⟨a1, r2⟩ := and_e r1
  obtain ⟨a2, r3⟩ := and_e r2
  obtain ⟨a3, r4⟩ := and_e r3
  have a4 := r4
  obtain ⟨w0, w1, w2, w3, w4, rfl⟩ : ∃ w0 w1 w2 w3 w4 : Value, args = #[w0, w1, w2, w3, w4] := by
    have hs : args.size = 5 := by simpa [Cond.value, given_1] using k0
    obtain ⟨L⟩ := args
    match L, hs with
    | [w0, w1, w2, w3, w4], _ => exact ⟨w0, w1, w2, w3, w4, rfl⟩
  have hw := fun d (hd : d ∈ tables_1) => atoms_spec (ws := Jvm.Cond.code x code maxLocals ret :: tables_1) hat d (List.mem_cons_of_mem _ hd)
  obtain ⟨i0, ei0⟩ := is_v a0
  obtain rfl : w0 = (.int i0) := Option.some.inj ei0
  obtain ⟨i1, ei1⟩ := is_v a1
  obtain rfl : w1 = (.int i1) := Option.some.inj ei1
  obtain ⟨i2, ei2⟩ := is_v a2
  obtain rfl : w2 = (.int i2) := Option.some.inj ei2
  obtain ⟨i3, ei3⟩ := is_v a3
  obtain rfl : w3 = (.int i3) := Option.some.inj ei3
  obtain ⟨i4, ei4⟩ := is_v a4
  obtain rfl : w4 = (.int i4) := Option.some.inj ei4
  obtain ⟨n, o, h1, h2, h3, _, L, rfl, ⟨rfl, N⟩, hq⟩ := rm0 l s _ hw tables_1 i0 i1 i2 i3 i4 s.heap s.heap.size (Nat.le_refl _) (own_hn50 i0 i1 i2 i3 i4) (own_hn57 i0 i1 i2 i3 i4) (own_hn68 i0 i1 i2 i3 i4) (own_hn79 i0 i1 i2 i3 i4) (own_hn1_5_94 i0 i1 i2 i3 i4) (own_hc8_94 i0 i1 i2 i3 i4) (own_hn1_12_94 i0 i1 i2 i3 i4) (own_hc15_94 i0 i1 i2 i3 i4) (own_hn1_20_94 i0 i1 i2 i3 i4) (own_hc23_94 i0 i1 i2 i3 i4) (own_hn1_28_94 i0 i1 i2 i3 i4) (own_hc31_94 i0 i1 i2 i3 i4) (own_hc48_94 i0 i1 i2 i3 i4) (own_hc55_94 i0 i1 i2 i3 i4) (own_hn8_101 i0 i1 i2 i3 i4) (own_hn17_101 i0 i1 i2 i3 i4) (own_hn18_101 i0 i1 i2 i3 i4) (own_hn114 i0 i1 i2 i3 i4) (own_hn117 i0 i1 i2 i3 i4) (own_hres140 i0 i1 i2 i3 i4) p e ha hc hk s m _ below hf ((Spec.applies_iff_loose hf).mp happ).1 ⟨rfl, State.Warmed39.refl s, rfl⟩ trivial
  refine ⟨n, _, h1, h2, h3, hpost _ _ _ _ _ _ ⟨Cond.after_iff.mpr rfl, Cond.after_iff.mpr (eq_i res_at (Term.int_eval (1)) rfl), trivial⟩ ⟨hq.1, hq.2.1, (hq.2.2.sift fun y hy => Or.inr (N y hy)).mono (by decide) (by decide)⟩⟩
theorem main_1_1 : Claimed_1_1 := comes_1 fun _ _ _ _ _ _ h hF => ⟨h.1, hF⟩
theorem main_1_2 : Claimed_1_2 := comes_1 fun _ _ _ _ _ _ h hF => ⟨h.2.1, hF⟩
end Jvm.Pilot.@@N@@
namespace Jvm.Pilot.@@N@@
open Jvm Jvm.ClassFile Sem Op Lib Jvm.Free Jvm.Stand Jvm.Pilot.@@N@@.Jvm.D
/-! MADE BY PROGRAM (witnessworld.py) out of the Statement's table words and the real class files: 15 classes; the members and pool entries that the words name. The judged class is class 1, her method 1. -/
namespace start1
open Jvm.ClassFile
def u (s : String) : CpInfo := .utf8 (stringToUtf16 s)
/-- a pool by its gaps: so many unusable entries, then the entry; so many at the end -/
def gap : Nat → List CpInfo → List CpInfo
  | 0, r => r
  | n + 1, r => .unusable :: gap n r
def poolList (es : List (Nat × CpInfo)) (last : Nat) : List CpInfo := es.foldr (fun e r => gap e.1 (e.2 :: r)) (gap last [])
def pool (es : List (Nat × CpInfo)) (last : Nat) : Array CpInfo := ⟨poolList es last⟩
def fileOf (pool : Array CpInfo) (this : Nat) (attrs : Array Attribute := #[]) (ms : Array MethodInfo := #[]) (fl : Nat := 33) (sup : Nat := 0) (ifs : Array Nat := #[]) (fds : Array FieldInfo := #[]) : ClassFile where
  minorVersion := 0
  majorVersion := 65
  constantPool := pool
  accessFlags := fl
  thisClass := this
  superClass := sup
  interfaces := ifs
  fields := fds
  methods := ms
  attributes := attrs
def plain (name : String) (sup : Option ClassId) : Class where
  name := name
  kind := .ordinary
  loader := none
  accessFlags := 33
  super := sup
  interfaces := #[]
  cf := none
  fields := #[]
  methods := #[]
  instanceTypes := #[]
  staticTypes := #[]
  resolved := #[]
  callSites := []
  init := .initialized
  statics := none
  mirror := none

def pool0 : Array CpInfo := pool [(5, u "<init>"), (0, u "()V"), (1, .class_ 10), (1, u "java/lang/Object")] 113

def k0c0 : Code := { maxStack := 0, maxLocals := 1, code := object_method_1_code, exceptionTable := #[], attributes := #[] }
def k0m0 : Method := { name := "<init>", desc := "()V", sig := { parameters := [], returnType := none }, accessFlags := 1, code := some k0c0 }
/-- java/lang/Object -/
def k0 : Class := { plain "java/lang/Object" none with
  accessFlags := 33
  interfaces := #[]
  cf := some (fileOf pool0 8 #[] #[{ accessFlags := 1, nameIndex := 5, descriptorIndex := 6, attributes := #[] }] 33 0 #[] #[])
  fields := #[]
  methods := #[k0m0]
  instanceTypes := #[]
  staticTypes := #[]
  resolved := Array.replicate 124 none
  statics := none }

def pool1 : Array CpInfo := pool [(2, .class_ 4), (1, u "java/lang/Object"), (0, u "<init>"), (0, u "()V"), (0, .integer 67108863), (0, .double 4598175219545276416), (1, .class_ 11), (0, u "com/example/narrow_passage/narrowpassage/measure/MeasurementArea"), (0, .methodref 10 13), (0, .nameAndType 5 14), (0, u "(DDDD)V"), (0, .methodref 10 16), (0, .nameAndType 17 18), (0, u "getSize"), (0, u "()D"), (0, .class_ 20), (0, u "com/example/narrow_passage/narrowpassage/measure/MeasurementAreaGetSizePinLaw"), (2, u "law"), (0, u "(IIIII)Z")] 3

def k1m0 : Method := { name := "<init>", desc := "()V", sig := { parameters := [], returnType := none }, accessFlags := 1, code := none }
def k1c1 : Code := { maxStack := 10, maxLocals := 25, code := code, exceptionTable := #[], attributes := #[] }
def k1m1 : Method := { name := "law", desc := "(IIIII)Z", sig := { parameters := [.int, .int, .int, .int, .int], returnType := some .boolean }, accessFlags := 9, code := some k1c1 }
/-- com/example/narrow_passage/narrowpassage/measure/MeasurementAreaGetSizePinLaw -/
def k1 : Class := { plain "com/example/narrow_passage/narrowpassage/measure/MeasurementAreaGetSizePinLaw" (some 0) with
  accessFlags := 49
  interfaces := #[]
  cf := some (fileOf pool1 19 #[] #[{ accessFlags := 1, nameIndex := 5, descriptorIndex := 6, attributes := #[] }, { accessFlags := 9, nameIndex := 23, descriptorIndex := 24, attributes := #[] }] 49 2 #[] #[])
  fields := #[]
  methods := #[k1m0, k1m1]
  instanceTypes := #[]
  staticTypes := #[]
  resolved := Array.replicate 28 none
  statics := none }

def pool2 : Array CpInfo := pool [(1, .methodref 2 3), (0, .class_ 4), (0, .nameAndType 5 6), (0, u "java/lang/Object"), (0, u "<init>"), (0, u "()V"), (0, .methodref 8 9), (0, .class_ 10), (0, .nameAndType 11 12), (0, u "java/lang/Double"), (0, u "isFinite"), (0, u "(D)Z"), (11, .fieldref 25 26), (0, .class_ 27), (0, .nameAndType 28 29), (0, u "com/example/narrow_passage/narrowpassage/measure/MeasurementArea"), (0, u "x0"), (0, u "D"), (0, .fieldref 25 31), (0, .nameAndType 32 29), (0, u "y0"), (0, .fieldref 25 34), (0, .nameAndType 35 29), (0, u "x1"), (0, .fieldref 25 37), (0, .nameAndType 38 29), (0, u "y1"), (7, u "()D"), (7, u "(DDDD)V"), (3, u "getSize")] 23

def k2c0 : Code := { maxStack := 10, maxLocals := 9, code := prog_11_method_1_code, exceptionTable := #[], attributes := #[] }
def k2m0 : Method := { name := "<init>", desc := "(DDDD)V", sig := { parameters := [.double, .double, .double, .double], returnType := none }, accessFlags := 1, code := some k2c0 }
def k2c1 : Code := { maxStack := 6, maxLocals := 1, code := prog_11_method_2_code, exceptionTable := #[], attributes := #[] }
def k2m1 : Method := { name := "getSize", desc := "()D", sig := { parameters := [], returnType := some .double }, accessFlags := 1, code := some k2c1 }
/-- com/example/narrow_passage/narrowpassage/measure/MeasurementArea -/
def k2 : Class := { plain "com/example/narrow_passage/narrowpassage/measure/MeasurementArea" (some 0) with
  accessFlags := 33
  interfaces := #[]
  cf := some (fileOf pool2 25 #[] #[{ accessFlags := 1, nameIndex := 5, descriptorIndex := 54, attributes := #[] }, { accessFlags := 1, nameIndex := 58, descriptorIndex := 46, attributes := #[] }] 33 2 #[] #[{ accessFlags := 18, nameIndex := 28, descriptorIndex := 29, attributes := #[] }, { accessFlags := 18, nameIndex := 32, descriptorIndex := 29, attributes := #[] }, { accessFlags := 18, nameIndex := 35, descriptorIndex := 29, attributes := #[] }, { accessFlags := 18, nameIndex := 38, descriptorIndex := 29, attributes := #[] }])
  fields := #[{ name := "x0", type := .double, accessFlags := 18, slot := 0, constantValue := 0 }, { name := "y0", type := .double, accessFlags := 18, slot := 1, constantValue := 0 }, { name := "x1", type := .double, accessFlags := 18, slot := 2, constantValue := 0 }, { name := "y1", type := .double, accessFlags := 18, slot := 3, constantValue := 0 }]
  methods := #[k2m0, k2m1]
  instanceTypes := #[.double, .double, .double, .double]
  staticTypes := #[]
  resolved := Array.replicate 82 none
  statics := none }

def pool3 : Array CpInfo := pool [(1, .class_ 2), (0, u "java/io/Serializable"), (0, .class_ 4), (0, u "java/lang/Object")] 2

/-- java/io/Serializable -/
def k3 : Class := { plain "java/io/Serializable" (some 0) with
  accessFlags := 1537
  interfaces := #[]
  cf := some (fileOf pool3 1 #[] #[] 1537 3 #[] #[])
  fields := #[]
  methods := #[]
  instanceTypes := #[]
  staticTypes := #[]
  resolved := Array.replicate 7 none
  statics := none }

def pool4 : Array CpInfo := pool [(2, .class_ 4), (1, u "java/lang/Object"), (0, u "<init>"), (0, u "()V"), (1, .class_ 10), (1, u "java/lang/Number"), (2, .class_ 14), (0, u "java/io/Serializable"), (0, u "serialVersionUID"), (0, u "J")] 20

def k4m0 : Method := { name := "<init>", desc := "()V", sig := { parameters := [], returnType := none }, accessFlags := 1, code := none }
/-- java/lang/Number -/
def k4 : Class := { plain "java/lang/Number" (some 0) with
  accessFlags := 1057
  interfaces := #[3]
  cf := some (fileOf pool4 8 #[] #[{ accessFlags := 1, nameIndex := 5, descriptorIndex := 6, attributes := #[] }] 1057 2 #[13] #[{ accessFlags := 26, nameIndex := 15, descriptorIndex := 16, attributes := #[] }])
  fields := #[{ name := "serialVersionUID", type := .long, accessFlags := 26, slot := 0, constantValue := 0 }]
  methods := #[k4m0]
  instanceTypes := #[]
  staticTypes := #[.long]
  resolved := Array.replicate 37 none
  statics := none }

def pool5 : Array CpInfo := pool [(1, .class_ 2), (0, u "java/lang/Comparable"), (0, .class_ 4), (0, u "java/lang/Object")] 7

/-- java/lang/Comparable -/
def k5 : Class := { plain "java/lang/Comparable" (some 0) with
  accessFlags := 1537
  interfaces := #[]
  cf := some (fileOf pool5 1 #[] #[] 1537 3 #[] #[])
  fields := #[]
  methods := #[]
  instanceTypes := #[]
  staticTypes := #[]
  resolved := Array.replicate 12 none
  statics := none }

def pool6 : Array CpInfo := pool [(1, .class_ 2), (0, u "java/lang/constant/Constable"), (0, .class_ 4), (0, u "java/lang/Object")] 6

/-- java/lang/constant/Constable -/
def k6 : Class := { plain "java/lang/constant/Constable" (some 0) with
  accessFlags := 1537
  interfaces := #[]
  cf := some (fileOf pool6 1 #[] #[] 1537 3 #[] #[])
  fields := #[]
  methods := #[]
  instanceTypes := #[]
  staticTypes := #[]
  resolved := Array.replicate 11 none
  statics := none }

def pool7 : Array CpInfo := pool [(1, .class_ 2), (0, u "java/lang/constant/ConstantDesc"), (0, .class_ 4), (0, u "java/lang/Object")] 32

/-- java/lang/constant/ConstantDesc -/
def k7 : Class := { plain "java/lang/constant/ConstantDesc" (some 0) with
  accessFlags := 1537
  interfaces := #[]
  cf := some (fileOf pool7 1 #[] #[] 1537 3 #[] #[])
  fields := #[]
  methods := #[]
  instanceTypes := #[]
  staticTypes := #[]
  resolved := Array.replicate 37 none
  statics := none }

def pool8 : Array CpInfo := pool [(1, .class_ 2), (0, u "java/lang/Double"), (10, u "isFinite"), (0, u "(D)Z"), (8, .class_ 25), (1, u "java/lang/Math"), (12, .methodref 23 39), (0, .nameAndType 40 41), (0, u "abs"), (0, u "(D)D"), (69, .double 9218868437227405311), (2, .class_ 116), (1, u "java/lang/Number"), (3, u "value"), (0, u "D"), (51, u "TYPE"), (0, u "Ljava/lang/Class;"), (0, .class_ 176), (0, u "java/lang/Comparable"), (0, .class_ 178), (0, u "java/lang/constant/Constable"), (0, .class_ 180), (0, u "java/lang/constant/ConstantDesc"), (0, u "POSITIVE_INFINITY"), (3, u "NEGATIVE_INFINITY"), (2, u "NaN"), (2, u "MAX_VALUE"), (0, u "MIN_NORMAL"), (0, u "MIN_VALUE"), (2, u "SIZE"), (0, u "I"), (1, u "PRECISION"), (1, u "MAX_EXPONENT"), (1, u "MIN_EXPONENT"), (1, u "BYTES"), (3, u "serialVersionUID"), (0, u "J")] 79

def k8c0 : Code := { maxStack := 4, maxLocals := 2, code := jdk_117_method_8_code, exceptionTable := #[], attributes := #[] }
def k8m0 : Method := { name := "isFinite", desc := "(D)Z", sig := { parameters := [.double], returnType := some .boolean }, accessFlags := 9, code := some k8c0 }
/-- java/lang/Double -/
def k8 : Class := { plain "java/lang/Double" (some 4) with
  accessFlags := 49
  interfaces := #[5, 6, 7]
  cf := some (fileOf pool8 1 #[] #[{ accessFlags := 9, nameIndex := 13, descriptorIndex := 14, attributes := #[] }] 49 114 #[175, 177, 179] #[{ accessFlags := 25, nameIndex := 181, descriptorIndex := 121, attributes := #[] }, { accessFlags := 25, nameIndex := 185, descriptorIndex := 121, attributes := #[] }, { accessFlags := 25, nameIndex := 188, descriptorIndex := 121, attributes := #[] }, { accessFlags := 25, nameIndex := 191, descriptorIndex := 121, attributes := #[] }, { accessFlags := 25, nameIndex := 192, descriptorIndex := 121, attributes := #[] }, { accessFlags := 25, nameIndex := 193, descriptorIndex := 121, attributes := #[] }, { accessFlags := 25, nameIndex := 196, descriptorIndex := 197, attributes := #[] }, { accessFlags := 25, nameIndex := 199, descriptorIndex := 197, attributes := #[] }, { accessFlags := 25, nameIndex := 201, descriptorIndex := 197, attributes := #[] }, { accessFlags := 25, nameIndex := 203, descriptorIndex := 197, attributes := #[] }, { accessFlags := 25, nameIndex := 205, descriptorIndex := 197, attributes := #[] }, { accessFlags := 25, nameIndex := 173, descriptorIndex := 174, attributes := #[] }, { accessFlags := 18, nameIndex := 120, descriptorIndex := 121, attributes := #[] }, { accessFlags := 26, nameIndex := 209, descriptorIndex := 210, attributes := #[] }])
  fields := #[{ name := "POSITIVE_INFINITY", type := .double, accessFlags := 25, slot := 0, constantValue := 0 }, { name := "NEGATIVE_INFINITY", type := .double, accessFlags := 25, slot := 1, constantValue := 0 }, { name := "NaN", type := .double, accessFlags := 25, slot := 2, constantValue := 0 }, { name := "MAX_VALUE", type := .double, accessFlags := 25, slot := 3, constantValue := 0 }, { name := "MIN_NORMAL", type := .double, accessFlags := 25, slot := 4, constantValue := 0 }, { name := "MIN_VALUE", type := .double, accessFlags := 25, slot := 5, constantValue := 0 }, { name := "SIZE", type := .int, accessFlags := 25, slot := 6, constantValue := 0 }, { name := "PRECISION", type := .int, accessFlags := 25, slot := 7, constantValue := 0 }, { name := "MAX_EXPONENT", type := .int, accessFlags := 25, slot := 8, constantValue := 0 }, { name := "MIN_EXPONENT", type := .int, accessFlags := 25, slot := 9, constantValue := 0 }, { name := "BYTES", type := .int, accessFlags := 25, slot := 10, constantValue := 0 }, { name := "TYPE", type := (.object "java/lang/Class"), accessFlags := 25, slot := 11, constantValue := 0 }, { name := "value", type := .double, accessFlags := 18, slot := 0, constantValue := 0 }, { name := "serialVersionUID", type := .long, accessFlags := 26, slot := 12, constantValue := 0 }]
  methods := #[k8m0]
  instanceTypes := #[.double]
  staticTypes := #[.double, .double, .double, .double, .double, .double, .int, .int, .int, .int, .int, (.object "java/lang/Class"), .long]
  resolved := Array.replicate 290 none
  statics := none }

def pool9 : Array CpInfo := pool [(1, .class_ 2), (0, u "java/lang/Math"), (1, .class_ 6), (1, u "java/lang/Object"), (0, u "<init>"), (0, u "()V"), (5, u "(D)D"), (83, .class_ 100), (1, u "java/lang/Math$RandomNumberGeneratorHolder"), (23, u "abs"), (47, u "negativeZeroFloatBits"), (0, u "J"), (2, u "negativeZeroDoubleBits"), (68, u "$assertionsDisabled"), (0, u "Z"), (91, u "twoToTheDoubleScaleDown"), (0, u "D"), (4, u "twoToTheDoubleScaleUp"), (9, u "E"), (3, u "PI"), (2, u "TAU"), (2, u "DEGREES_TO_RADIANS"), (0, u "RADIANS_TO_DEGREES")] 94

def k9m0 : Method := { name := "<init>", desc := "()V", sig := { parameters := [], returnType := none }, accessFlags := 2, code := none }
def k9c1 : Code := { maxStack := 4, maxLocals := 2, code := jdk_29_method_64_code, exceptionTable := #[], attributes := #[] }
def k9m1 : Method := { name := "abs", desc := "(D)D", sig := { parameters := [.double], returnType := some .double }, accessFlags := 9, code := some k9c1 }
/-- java/lang/Math -/
def k9 : Class := { plain "java/lang/Math" (some 0) with
  accessFlags := 49
  interfaces := #[]
  cf := some (fileOf pool9 1 #[.nestMembers #[98]] #[{ accessFlags := 2, nameIndex := 7, descriptorIndex := 8, attributes := #[] }, { accessFlags := 9, nameIndex := 124, descriptorIndex := 14, attributes := #[] }] 49 4 #[] #[{ accessFlags := 25, nameIndex := 354, descriptorIndex := 339, attributes := #[] }, { accessFlags := 25, nameIndex := 358, descriptorIndex := 339, attributes := #[] }, { accessFlags := 25, nameIndex := 361, descriptorIndex := 339, attributes := #[] }, { accessFlags := 26, nameIndex := 364, descriptorIndex := 339, attributes := #[] }, { accessFlags := 26, nameIndex := 365, descriptorIndex := 339, attributes := #[] }, { accessFlags := 26, nameIndex := 172, descriptorIndex := 173, attributes := #[] }, { accessFlags := 26, nameIndex := 176, descriptorIndex := 173, attributes := #[] }, { accessFlags := 8, nameIndex := 344, descriptorIndex := 339, attributes := #[] }, { accessFlags := 8, nameIndex := 338, descriptorIndex := 339, attributes := #[] }, { accessFlags := 4120, nameIndex := 245, descriptorIndex := 246, attributes := #[] }])
  fields := #[{ name := "E", type := .double, accessFlags := 25, slot := 0, constantValue := 0 }, { name := "PI", type := .double, accessFlags := 25, slot := 1, constantValue := 0 }, { name := "TAU", type := .double, accessFlags := 25, slot := 2, constantValue := 0 }, { name := "DEGREES_TO_RADIANS", type := .double, accessFlags := 26, slot := 3, constantValue := 0 }, { name := "RADIANS_TO_DEGREES", type := .double, accessFlags := 26, slot := 4, constantValue := 0 }, { name := "negativeZeroFloatBits", type := .long, accessFlags := 26, slot := 5, constantValue := 0 }, { name := "negativeZeroDoubleBits", type := .long, accessFlags := 26, slot := 6, constantValue := 0 }, { name := "twoToTheDoubleScaleUp", type := .double, accessFlags := 8, slot := 7, constantValue := 0 }, { name := "twoToTheDoubleScaleDown", type := .double, accessFlags := 8, slot := 8, constantValue := 0 }, { name := "$assertionsDisabled", type := .boolean, accessFlags := 4120, slot := 9, constantValue := 0 }]
  methods := #[k9m0, k9m1]
  instanceTypes := #[]
  staticTypes := #[.double, .double, .double, .double, .double, .long, .long, .double, .double, .boolean]
  resolved := Array.replicate 460 none
  statics := none }

def pool10 : Array CpInfo := pool [(1, u "java/lang/Cloneable"), (0, .class_ 1), (0, u "java/lang/Object"), (0, .class_ 3)] 3

/-- java/lang/Cloneable -/
def k10 : Class := { plain "java/lang/Cloneable" (some 0) with
  accessFlags := 1537
  interfaces := #[]
  cf := some (fileOf pool10 2 #[] #[] 1537 4 #[] #[])
  fields := #[]
  methods := #[]
  instanceTypes := #[]
  staticTypes := #[]
  resolved := Array.replicate 8 none
  statics := none }

/-- the primitive byte -/
def k11 : Class := { plain "byte" none with kind := .primitive 'B', accessFlags := 0x411 }
/-- [B -/
def k12 : Class := { plain "[B" (some 0) with kind := .array 11 .byte, interfaces := #[10, 3], accessFlags := 1041 }

/-- the primitive int -/
def k13 : Class := { plain "int" none with kind := .primitive 'I', accessFlags := 0x411 }
/-- [I -/
def k14 : Class := { plain "[I" (some 0) with kind := .array 13 .int, interfaces := #[10, 3], accessFlags := 1041 }

def heap : Heap := #[]
def classes : Array Class := #[k0, k1, k2, k3, k4, k5, k6, k7, k8, k9, k10, k11, k12, k13, k14]
def interned : List (Array UInt16 × Addr) := []
def slotsUsed : Nat := 0
def theMethod : MethodId := ⟨1, 1⟩
def args0 : Array Value := #[.int 5, .int 3, .int 2, .int 7, .int 1]
def aboutOver (below : List Frame) : State where
  vm := { classes := classes, interned := interned.toArray }
  heap := heap
  slotsUsed := slotsUsed
  threads := #[{ frames := .invoking theMethod args0 :: below }]
def below0 : List Frame := [.native { method := ⟨0, 0⟩, args := #[] }]
def about1 : State := aboutOver below0
def p0 : Program := .bare "" "" ""
def e0 : Env := launch0.env 0 0 0
theorem w_frames : about1.frames = Frame.invoking theMethod args0 :: below0 := rfl
set_option maxRecDepth 65536 in
theorem w_args : argsFit about1.vm theMethod args0 = true := by decide +kernel
set_option maxRecDepth 65536 in
theorem w_heap : heapFits about1 = true := by decide +kernel
set_option maxRecDepth 65536 in
theorem w_runnable : about1.curStatus? = some .runnable := by decide +kernel
set_option maxRecDepth 65536 in
theorem w_alone : about1.alone = true := by decide +kernel
set_option maxRecDepth 65536 in
theorem w_named : about1.methodNamed? x = some theMethod := by decide +kernel
set_option maxRecDepth 65536 in
theorem w_hears : about1.hears theMethod below0 = true := by decide +kernel
set_option maxRecDepth 65536 in
theorem w_ripe : about1.ripe theMethod args0 below0 = true := by decide +kernel
theorem w_running : about1.status = .running := rfl
set_option maxRecDepth 65536 in
theorem w_room : about1.hasRoom e0.platform room_1 = true :=
  launch0.hasRoom_least _ room_1 (by decide +kernel) (by decide +kernel) (by decide +kernel) (by decide +kernel) (by decide +kernel) (by decide +kernel)
theorem allAtoms_all (ts : List Jvm.Cond) (a : Array Jvm.Value) (st : Jvm.State) : (allAtoms ts).before a st = ts.all (fun c => c.before a st) := by
  induction ts with
  | nil => rfl
  | cons c t ih =>
    show (Jvm.Cond.and c (allAtoms t)).before a st = _
    rw [Jvm.Cond.before_and, ih, List.all_cons]
def words1 : List Jvm.Cond := Jvm.Cond.code x code maxLocals ret :: tables_1
/-- a 'code' word, met by the world's own term for the bytes: nothing is compared byte by byte -/
theorem code_word {y : MethodName} {bytes : ByteArray} {mx : Nat} {rt : Option FieldType} {a : Array Value} {s : State} {m : MethodId} {meth : Method} {c : Code} (h1 : s.methodNamed? y = some m) (h2 : s.vm.method? m = some meth) (h3 : meth.code = some c) (h4 : c.code = bytes)
    (h5 : (c.maxLocals == mx && c.exceptionTable.isEmpty && decide (c.maxStack ≤ mostOperands) && decide (meth.sig.returnType = rt) && !meth.locks && decide (parseMethodDescriptor y.desc = some meth.sig)) = true) : (Jvm.Cond.code y bytes mx rt).before a s = true := by
  simp only [Bool.and_eq_true, beq_iff_eq, Bool.not_eq_true', decide_eq_true_eq] at h5
  obtain ⟨⟨⟨⟨⟨g1, g2⟩, g3⟩, g4⟩, g5⟩, g6⟩ := h5
  simp [Cond.before, Cond.holds, Cond.value, h1, h2, h3, h4, g1, g2, g3, g4, g5, g6]
def isCode : Jvm.Cond → Bool
  | .code _ _ _ _ => true
  | _ => false
theorem all_split {L : List Jvm.Cond} {P : Jvm.Cond → Bool} (h1 : L.all (fun c => isCode c || P c) = true) (h2 : ∀ c ∈ L.filter isCode, P c = true) : L.all P = true := by
  refine List.all_eq_true.mpr fun c hc => ?_
  have h := List.all_eq_true.mp h1 c hc
  rcases Bool.eq_false_or_eq_true (isCode c) with hi | hi
  · exact h2 c (List.mem_filter.mpr ⟨hc, hi⟩)
  · simpa [hi] using h
set_option maxRecDepth 65536 in
theorem w_c0 : (Jvm.Cond.code x code maxLocals ret).before args0 about1 = true := code_word (m := ⟨1, 1⟩) (meth := k1m1) (c := k1c1) (by decide +kernel) rfl rfl rfl (by decide +kernel)
set_option maxRecDepth 65536 in
theorem w_c1 : (Jvm.Cond.code ({ cls := "com/example/narrow_passage/narrowpassage/measure/MeasurementArea", name := "<init>", desc := "(DDDD)V" } : Jvm.MethodName) prog_11_method_1_code (9 : Nat) (Option.none : Option Jvm.ClassFile.FieldType)).before args0 about1 = true := code_word (m := ⟨2, 0⟩) (meth := k2m0) (c := k2c0) (by decide +kernel) rfl rfl rfl (by decide +kernel)
set_option maxRecDepth 65536 in
theorem w_c2 : (Jvm.Cond.code ({ cls := "java/lang/Object", name := "<init>", desc := "()V" } : Jvm.MethodName) object_method_1_code (1 : Nat) (Option.none : Option Jvm.ClassFile.FieldType)).before args0 about1 = true := code_word (m := ⟨0, 0⟩) (meth := k0m0) (c := k0c0) (by decide +kernel) rfl rfl rfl (by decide +kernel)
set_option maxRecDepth 65536 in
theorem w_c3 : (Jvm.Cond.code ({ cls := "java/lang/Double", name := "isFinite", desc := "(D)Z" } : Jvm.MethodName) jdk_117_method_8_code (2 : Nat) (Option.some Jvm.ClassFile.FieldType.boolean)).before args0 about1 = true := code_word (m := ⟨8, 0⟩) (meth := k8m0) (c := k8c0) (by decide +kernel) rfl rfl rfl (by decide +kernel)
set_option maxRecDepth 65536 in
theorem w_c4 : (Jvm.Cond.code ({ cls := "java/lang/Math", name := "abs", desc := "(D)D" } : Jvm.MethodName) jdk_29_method_64_code (2 : Nat) (Option.some Jvm.ClassFile.FieldType.double)).before args0 about1 = true := code_word (m := ⟨9, 1⟩) (meth := k9m1) (c := k9c1) (by decide +kernel) rfl rfl rfl (by decide +kernel)
set_option maxRecDepth 65536 in
theorem w_c5 : (Jvm.Cond.code ({ cls := "com/example/narrow_passage/narrowpassage/measure/MeasurementArea", name := "getSize", desc := "()D" } : Jvm.MethodName) prog_11_method_2_code (1 : Nat) (Option.some Jvm.ClassFile.FieldType.double)).before args0 about1 = true := code_word (m := ⟨2, 1⟩) (meth := k2m1) (c := k2c1) (by decide +kernel) rfl rfl rfl (by decide +kernel)
def codes1 : List Jvm.Cond := [Jvm.Cond.code x code maxLocals ret, Jvm.Cond.code ({ cls := "com/example/narrow_passage/narrowpassage/measure/MeasurementArea", name := "<init>", desc := "(DDDD)V" } : Jvm.MethodName) prog_11_method_1_code (9 : Nat) (Option.none : Option Jvm.ClassFile.FieldType), Jvm.Cond.code ({ cls := "java/lang/Object", name := "<init>", desc := "()V" } : Jvm.MethodName) object_method_1_code (1 : Nat) (Option.none : Option Jvm.ClassFile.FieldType), Jvm.Cond.code ({ cls := "java/lang/Double", name := "isFinite", desc := "(D)Z" } : Jvm.MethodName) jdk_117_method_8_code (2 : Nat) (Option.some Jvm.ClassFile.FieldType.boolean), Jvm.Cond.code ({ cls := "java/lang/Math", name := "abs", desc := "(D)D" } : Jvm.MethodName) jdk_29_method_64_code (2 : Nat) (Option.some Jvm.ClassFile.FieldType.double), Jvm.Cond.code ({ cls := "com/example/narrow_passage/narrowpassage/measure/MeasurementArea", name := "getSize", desc := "()D" } : Jvm.MethodName) prog_11_method_2_code (1 : Nat) (Option.some Jvm.ClassFile.FieldType.double)]
set_option maxRecDepth 65536 in
theorem codes_eq : words1.filter isCode = codes1 := rfl
theorem w_codes : ∀ c ∈ words1.filter isCode, c.before args0 about1 = true := by
  rw [codes_eq]
  intro c hc
  simp only [codes1, List.mem_cons, List.not_mem_nil, or_false] at hc
  rcases hc with rfl | rfl | rfl | rfl | rfl | rfl
  · exact w_c0
  · exact w_c1
  · exact w_c2
  · exact w_c3
  · exact w_c4
  · exact w_c5
set_option maxRecDepth 65536 in
theorem w_t1 : (words1.take 24).all (fun c => isCode c || c.before args0 about1) = true := by decide +kernel
set_option maxRecDepth 65536 in
theorem w_t2 : (words1.drop 24).all (fun c => isCode c || c.before args0 about1) = true := by decide +kernel
theorem w_tables : (allAtoms (Jvm.Cond.code x code maxLocals ret :: tables_1)).before args0 about1 = true := by
  rw [allAtoms_all]
  show words1.all (fun c => c.before args0 about1) = true
  refine all_split ?_ w_codes
  rw [← List.take_append_drop 24 words1, List.all_append, w_t1, w_t2]
  rfl
set_option maxRecDepth 65536 in
theorem w_case : (Jvm.Cond.and given_1 narrow_1).before args0 about1 = true := by decide +kernel
theorem w_applies : (headSpec (Jvm.Cond.code x code maxLocals ret :: tables_1) room_1).applies x e0.platform about1 = true :=
  (Spec.applies_iff w_frames).mpr ⟨w_running, w_runnable, w_alone, w_named, w_hears, w_ripe, w_room, w_tables⟩
theorem atStart : AtStart classFile x code maxLocals ret World_1 tables_1 room_1 Calls_1 rest_1 Pre_1 launch0 p0 e0 about1 theMethod args0 below0 :=
  ⟨lists_1, trivial, launch0.admits_env _ _ _, launch0.least_env, fairChoices_fair.cas, fairChoices_fair.clock, w_frames, w_args, w_heap, w_applies, trivial, trivial, w_case⟩
end start1
theorem witness_1 : WitnessClaimed_1 := ⟨start1.p0, start1.e0, start1.about1, start1.theMethod, start1.args0, start1.below0, start1.atStart⟩
end Jvm.Pilot.@@N@@
