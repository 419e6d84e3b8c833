import JvmDerived
import JvmDerived.Pilot.@@N@@Statement
import JvmDerived.Pilot.@@N@@Code
set_option linter.unusedVariables false
set_option linter.unusedSimpArgs false
@@BLOCK:NumsL.lean.txt@@
namespace Jvm.RoadKit
open Sem ClassFile Op Lib Jvm.Stand Jvm.Free Jvm.LawKit
section New
variable {p : Program} {l : Launch} {e : Env} {R : Room} {s : State} {m : MethodId} {args : Array Value} {below : List Frame} {meth : Method} {c : Code} {T : State} {locs : List Loc} {cells slots : Nat}
theorem retI (X : Stand p l e R s m args below meth c T locs cells slots) (hx : p.tables.exec = Jvm.exec) {pc : Nat} {Ls : Array Slot} {z : Int32} {rest : List Value} (hret : meth.sig.returnType = some .int) (hd : decode c.code pc = .ok (.ireturn, 1)) {fs : List Frame}
    (hl : ∀ (f : JFrame) (acts : List Action), f.method = m → f.locked = none → f.entered = [] → (doReturn e (T.setTop f) acts (some (.int z))).1 = T.setFrames fs) : Steps p.tables e below (T.setTop (mkF m pc Ls (.int z :: rest))) (T.setFrames fs) := by
  have hm' : T.vm.method? m = some meth := X.method'
  have hn : narrow .int (.int z) = .int z := rfl
  show Steps p.tables e below (T.setTop { method := m, pc := pc, locals := Ls, stack := _ :: rest, locked := none }) _
  jvm_step X.here [X.here.top, hx, hd, hm', hret, hn]
  first | (intro acts; rw [hl _ acts rfl rfl rfl]) | rw [hl _ _ rfl rfl rfl]
  exact Steps.refl _
theorem retD (X : Stand p l e R s m args below meth c T locs cells slots) (hx : p.tables.exec = Jvm.exec) {pc : Nat} {Ls : Array Slot} {z : UInt64} {rest : List Value} (hret : meth.sig.returnType = some .double) (hd : decode c.code pc = .ok (.dreturn, 1)) {fs : List Frame}
    (hl : ∀ (f : JFrame) (acts : List Action), f.method = m → f.locked = none → f.entered = [] → (doReturn e (T.setTop f) acts (some (.double z))).1 = T.setFrames fs) : Steps p.tables e below (T.setTop (mkF m pc Ls (.double z :: rest))) (T.setFrames fs) := by
  have hm' : T.vm.method? m = some meth := X.method'
  have hn : narrow .double (.double z) = .double z := rfl
  show Steps p.tables e below (T.setTop { method := m, pc := pc, locals := Ls, stack := _ :: rest, locked := none }) _
  jvm_step X.here [X.here.top, hx, hd, hm', hret, hn]
  first | (intro acts; rw [hl _ acts rfl rfl rfl]) | rw [hl _ _ rfl rfl rfl]
  exact Steps.refl _
end New
end Jvm.RoadKit
namespace Jvm.OwnFP
open Sem ClassFile Op Lib
theorem rem32_eq (x y : Int32) : x - x / y * y = x % y := Int32.toInt_inj.mp (by
  have a := (x % y).toInt_lt; have b := (x % y).le_toInt
  rw [Int32.toInt_mod] at a b ⊢
  rw [Int32.toInt_sub, Int32.toInt_mul, Int32.toInt_div, Int.bmod_mul_bmod, Int.sub_bmod_bmod, Int.mul_comm, ← Int.tmod_def]
  exact Jvm.Kit.bmod32 b a)
theorem cat1R {w : Value} (h : w.isRef = true) : w.category = 1 := by
  cases w <;> first | rfl | cases h
theorem rem64_eq (x y : Int64) : x - x / y * y = x % y := Int64.toInt_inj.mp (by rw [Jvm.Kit.i64_rem, Int64.toInt_mod])
theorem iremM {tb : Tables} [Ours tb] {e : Env} {below : List Frame} {T target : State} {m : MethodId} {c : Code} {g : JFrame} (h : At T m c below) (hx : tb.exec = Jvm.exec) (hg : g.method = m) {x y : Int32} {rest : List Value} (hd : decode c.code g.pc = .ok (.irem, 1)) (hs : g.stack = .int y :: .int x :: rest) (hy : y ≠ 0)
    (hr : Steps tb e below (T.setTop { g with pc := g.pc + 1, stack := .int (x % y) :: rest }) target) : Steps tb e below (T.setTop g) target := Jvm.Free.XS.irem h hx hg hd hs hy (by rw [rem32_eq]; exact hr)
theorem lremM {tb : Tables} [Ours tb] {e : Env} {below : List Frame} {T target : State} {m : MethodId} {c : Code} {g : JFrame} (h : At T m c below) (hx : tb.exec = Jvm.exec) (hg : g.method = m) {x y : Int64} {rest : List Value} (hd : decode c.code g.pc = .ok (.lrem, 1)) (hs : g.stack = .long y :: .long x :: rest) (hy : y ≠ 0)
    (hr : Steps tb e below (T.setTop { g with pc := g.pc + 1, stack := .long (x % y) :: rest }) target) : Steps tb e below (T.setTop g) target := Jvm.Free.XS.lrem h hx hg hd hs hy (by rw [rem64_eq]; exact hr)
end Jvm.OwnFP
namespace Jvm.OwnFP
open Jvm.FP.Core
/-! doubles by their values in units of 2^-1074: rounding is monotone, numbers of the format round to themselves -/
def zv (a : UInt64) : Int := zval b64 (val64 a)
/-- z (in units) is a number of the format -/
def Rep (z : Int) : Prop := ∃ V : Datum, Jvm.FP.Core.fits b64 V ∧ V ≠ .nan ∧ zval b64 V = z
abbrev O : Int := (one64 : Int)
theorem mmmc (a b c d : Int) : a * b * (c * d) = a * c * (b * d) := by rw [Int.mul_assoc, Int.mul_assoc, Int.mul_left_comm b]
theorem O_pos : 0 < O := by have := one64_pos; show (0 : Int) < (one64 : Int); omega
theorem qmax_b64 : b64.qmax = 971 := by decide +kernel
theorem signed_nat (n : Int) : signed (decide (n < 0)) n.natAbs = n := by
  unfold signed
  by_cases h : n < 0
  · simp only [h, decide_true, if_true]; omega
  · simp only [h, decide_false, Bool.false_eq_true, if_false]; omega
theorem rep_lt {n : Int} (k : Nat) (hn : n.natAbs < 9007199254740992) (hk : k ≤ 2000) : Rep (n * ((2 ^ k : Nat) : Int)) := by
  obtain ⟨c', q', h1, h2⟩ := round_exact good_b64 (decide (n < 0)) (c := n.natAbs) (q := (k : Int) - 1074) (Nat.lt_of_lt_of_le hn (by decide +kernel)) (by rw [qmin_b64]; omega) (by rw [qmax_b64]; omega)
  refine ⟨round b64 (.fin (decide (n < 0)) n.natAbs ((k : Int) - 1074)), round_fits good_b64 _, ?_, ?_⟩
  · rw [h1]; exact Datum.noConfusion
  · rw [h1]
    show signed (decide (n < 0)) (inUnits c' q' b64.qmin) = _
    rw [h2]
    unfold inUnits
    rw [qmin_b64, signed_mul, signed_nat, show ((k : Int) - 1074 - -1074).toNat = k by omega]
theorem rep_le {n : Int} (k : Nat) (hn : n.natAbs ≤ 9007199254740992) (hk : k ≤ 1999) : Rep (n * ((2 ^ k : Nat) : Int)) := by
  by_cases h : n.natAbs < 9007199254740992
  · exact rep_lt k h (by omega)
  · have h2 : n = 9007199254740992 ∨ n = -9007199254740992 := by omega
    have e : ∀ m : Int, (m * 2) * ((2 ^ k : Nat) : Int) = m * ((2 ^ (k + 1) : Nat) : Int) := fun m => by
      rw [Nat.pow_succ, Int.natCast_mul, Int.mul_assoc, Int.mul_comm 2]; rfl
    rcases h2 with rfl | rfl
    · rw [show (9007199254740992 : Int) = 4503599627370496 * 2 by decide, e]; exact rep_lt (k + 1) (by decide) (by omega)
    · rw [show (-9007199254740992 : Int) = -4503599627370496 * 2 by decide, e]; exact rep_lt (k + 1) (by decide) (by omega)
theorem pow_split (k j : Nat) : ((2 ^ (k + j) : Nat) : Int) = ((2 ^ k : Nat) : Int) * ((2 ^ j : Nat) : Int) := by rw [Nat.pow_add, Int.natCast_mul]
theorem pow_O (j : Nat) (hj : j ≤ 1074) : O = ((2 ^ j : Nat) : Int) * ((2 ^ (1074 - j) : Nat) : Int) := by
  rw [← pow_split, show j + (1074 - j) = 1074 by omega]; rfl
/-- a whole number -/
theorem rep_int {n : Int} (hn : n.natAbs ≤ 9007199254740992) : Rep (n * O) := by
  have := rep_le (n := n) 1074 hn (by decide)
  exact this
/-- n halves .. : n / 2^j -/
theorem rep_frac {n : Int} (j : Nat) (hj : j ≤ 1074) {z : Int} (hn : n.natAbs ≤ 9007199254740992) (h : z * ((2 ^ j : Nat) : Int) = n * O) : Rep z := by
  have h1 := rep_le (n := n) (1074 - j) hn (by omega)
  have hp : (0 : Int) < ((2 ^ j : Nat) : Int) := Int.natCast_pos.mpr (Nat.two_pow_pos j)
  have e : z = n * ((2 ^ (1074 - j) : Nat) : Int) := by
    refine Int.eq_of_mul_eq_mul_right (Int.ne_of_gt hp) ?_
    rw [h, pow_O j hj, Int.mul_assoc, Int.mul_comm ((2 ^ (1074 - j) : Nat) : Int)]
  rw [e]; exact h1
theorem Rep.neg {z : Int} (h : Rep z) : Rep (-z) := by
  obtain ⟨V, h1, h2, rfl⟩ := h
  exact ⟨negate V, negate_fits h1, negate_ne_nan h2, zval_negate b64 V⟩
theorem rep_zv {a : UInt64} (h : val64 a ≠ .nan) : Rep (zv a) := ⟨val64 a, val64_fits a, h, rfl⟩
theorem fin_of {a : UInt64} (h : DFin a) : ∃ s c q, val64 a = .fin s c q ∧ Jvm.FP.Core.fits b64 (.fin s c q) := by
  obtain ⟨s, c, q, h⟩ := h
  exact ⟨s, c, q, h, h ▸ val64_fits a⟩
/-! whole numbers -/
theorem l2d_le {n : Int64} {z : Int} (hz : Rep z) (h : n.toInt * O ≤ z) : zv (Jvm.FP.l2d n) ≤ z := by
  obtain ⟨V, fV, nV, rfl⟩ := hz
  show zval b64 (val64 (l2d n)) ≤ _
  rw [val64_l2d]
  refine zval_round_le good_b64 fV nV (e0 := b64.qmin) (Int.le_refl _) (by decide +kernel) ?_
  rw [ofInt_units b64, pow_qmin64, Int.sub_self]
  show _ ≤ _ * ((1 : Nat) : Int)
  rw [show ((1 : Nat) : Int) = 1 from rfl, Int.mul_one]; exact h
theorem l2d_ge {n : Int64} {z : Int} (hz : Rep z) (h : z ≤ n.toInt * O) : z ≤ zv (Jvm.FP.l2d n) := by
  obtain ⟨V, fV, nV, rfl⟩ := hz
  show _ ≤ zval b64 (val64 (l2d n))
  rw [val64_l2d]
  refine zval_round_ge good_b64 fV nV (e0 := b64.qmin) (Int.le_refl _) (by decide +kernel) ?_
  rw [ofInt_units b64, pow_qmin64, Int.sub_self]
  show _ * ((1 : Nat) : Int) ≤ _
  rw [show ((1 : Nat) : Int) = 1 from rfl, Int.mul_one]; exact h
theorem l2d_eq {n : Int64} (h : n.toInt.natAbs ≤ 9007199254740992) : zv (Jvm.FP.l2d n) = n.toInt * O :=
  Int.le_antisymm (l2d_le (rep_int h) (Int.le_refl _)) (l2d_ge (rep_int h) (Int.le_refl _))
theorem i2d_eq (n : Int32) : zv (Jvm.FP.i2d n) = n.toInt * O := DInt_zval (i2d_int n)
theorem l2dF (n : Int64) : DFin (Jvm.FP.l2d n) := l2d_fin n
theorem i2dF (n : Int32) : DFin (Jvm.FP.i2d n) := i2d_fin n
/-! products -/
theorem mul_le {a b : UInt64} {z : Int} (ha : DFin a) (hb : DFin b) (hz : Rep z) (h : zv a * zv b ≤ z * O) : zv (Jvm.FP.dmul a b) ≤ z := by
  obtain ⟨V, fV, nV, rfl⟩ := hz
  obtain ⟨s, c, q, ea, fa⟩ := fin_of ha
  obtain ⟨t, d, r, eb, fb⟩ := fin_of hb
  unfold zv at h ⊢
  rw [ea, eb] at h
  show zval b64 (val64 (dmul a b)) ≤ _
  rw [val64_dmul, ea, eb]
  obtain ⟨h1, h2, h3⟩ := product_units fa fb
  rw [h1]
  refine zval_round_le good_b64 fV nV (e0 := 2 * b64.qmin) (by rw [qmin_b64]; decide) h2 ?_
  rw [h3, signed_xor, show (b64.qmin - 2 * b64.qmin).toNat = (-b64.qmin).toNat by omega, pow_qmin64]
  exact h
theorem mul_ge {a b : UInt64} {z : Int} (ha : DFin a) (hb : DFin b) (hz : Rep z) (h : z * O ≤ zv a * zv b) : z ≤ zv (Jvm.FP.dmul a b) := by
  obtain ⟨V, fV, nV, rfl⟩ := hz
  obtain ⟨s, c, q, ea, fa⟩ := fin_of ha
  obtain ⟨t, d, r, eb, fb⟩ := fin_of hb
  unfold zv at h ⊢
  rw [ea, eb] at h
  show _ ≤ zval b64 (val64 (dmul a b))
  rw [val64_dmul, ea, eb]
  obtain ⟨h1, h2, h3⟩ := product_units fa fb
  rw [h1]
  refine zval_round_ge good_b64 fV nV (e0 := 2 * b64.qmin) (by rw [qmin_b64]; decide) h2 ?_
  rw [h3, signed_xor, show (b64.qmin - 2 * b64.qmin).toNat = (-b64.qmin).toNat by omega, pow_qmin64]
  exact h
theorem mul_eq {a b : UInt64} {z : Int} (ha : DFin a) (hb : DFin b) (hz : Rep z) (h : zv a * zv b = z * O) : zv (Jvm.FP.dmul a b) = z :=
  Int.le_antisymm (mul_le ha hb hz (Int.le_of_eq h)) (mul_ge ha hb hz (Int.le_of_eq h.symm))
/-! sums -/
theorem add_le {a b : UInt64} {z : Int} (ha : DFin a) (hb : DFin b) (hz : Rep z) (h : zv a + zv b ≤ z) : zv (Jvm.FP.dadd a b) ≤ z := by
  obtain ⟨V, fV, nV, rfl⟩ := hz
  show zval b64 (val64 (dadd a b)) ≤ _
  rw [val64_dadd]
  exact sum_le good_b64 ha hb (val64_fits a) (val64_fits b) fV nV h
theorem add_ge {a b : UInt64} {z : Int} (ha : DFin a) (hb : DFin b) (hz : Rep z) (h : z ≤ zv a + zv b) : z ≤ zv (Jvm.FP.dadd a b) := by
  obtain ⟨V, fV, nV, rfl⟩ := hz
  show _ ≤ zval b64 (val64 (dadd a b))
  rw [val64_dadd]
  exact sum_ge good_b64 ha hb (val64_fits a) (val64_fits b) fV nV h
theorem add_eq {a b : UInt64} {z : Int} (ha : DFin a) (hb : DFin b) (hz : Rep z) (h : zv a + zv b = z) : zv (Jvm.FP.dadd a b) = z :=
  Int.le_antisymm (add_le ha hb hz (Int.le_of_eq h)) (add_ge ha hb hz (Int.le_of_eq h.symm))
theorem fin_negate {b : UInt64} (hb : DFin b) : ∃ s c q, negate (val64 b) = .fin s c q := by
  obtain ⟨s, c, q, h⟩ := hb
  rw [h]; exact ⟨_, _, _, rfl⟩
theorem sub_le {a b : UInt64} {z : Int} (ha : DFin a) (hb : DFin b) (hz : Rep z) (h : zv a - zv b ≤ z) : zv (Jvm.FP.dsub a b) ≤ z := by
  obtain ⟨V, fV, nV, rfl⟩ := hz
  show zval b64 (val64 (dsub a b)) ≤ _
  rw [val64_dsub]
  refine sum_le good_b64 ha (fin_negate hb) (val64_fits a) (negate_fits (val64_fits b)) fV nV ?_
  rw [zval_negate]; unfold zv at h; omega
theorem sub_ge {a b : UInt64} {z : Int} (ha : DFin a) (hb : DFin b) (hz : Rep z) (h : z ≤ zv a - zv b) : z ≤ zv (Jvm.FP.dsub a b) := by
  obtain ⟨V, fV, nV, rfl⟩ := hz
  show _ ≤ zval b64 (val64 (dsub a b))
  rw [val64_dsub]
  refine sum_ge good_b64 ha (fin_negate hb) (val64_fits a) (negate_fits (val64_fits b)) fV nV ?_
  rw [zval_negate]; unfold zv at h; omega
theorem sub_eq {a b : UInt64} {z : Int} (ha : DFin a) (hb : DFin b) (hz : Rep z) (h : zv a - zv b = z) : zv (Jvm.FP.dsub a b) = z :=
  Int.le_antisymm (sub_le ha hb hz (Int.le_of_eq h)) (sub_ge ha hb hz (Int.le_of_eq h.symm))
/-! quotients -/
theorem ratio_le {s : Bool} {A B : Nat} {e e0 : Int} {V : Datum} (hB : 0 < B) (hV : Jvm.FP.Core.fits b64 V) (hn : V ≠ .nan) (h0 : e0 ≤ b64.qmin) (h0e : e0 ≤ e)
    (h : signed s (inUnits A e e0) ≤ zval b64 V * ((2 ^ (b64.qmin - e0).toNat * B : Nat) : Int)) : zval b64 (roundRatio b64 s A B e) ≤ zval b64 V := by
  have hle := zmag_roundRatio_le good_b64 (s := s) (A := A) hB hV hn h0 h0e
  have hge := zmag_roundRatio_ge good_b64 (s := s) (A := A) hB hV h0 h0e
  have hP : 0 < 2 ^ (b64.qmin - e0).toNat * B := Nat.mul_pos (Nat.two_pow_pos _) hB
  rw [Nat.mul_assoc] at hle hge
  unfold zval at h ⊢
  rw [sgn_roundRatio]
  rw [← signed_mul] at h
  have hz : zmag b64 V * (2 ^ (b64.qmin - e0).toNat * B) = 0 → zmag b64 V = 0 := by
    intro h
    rcases Nat.mul_eq_zero.mp h with h | h <;> omega
  generalize zmag b64 V * (2 ^ (b64.qmin - e0).toNat * B) = vP at *
  generalize sgn V = t at *
  cases s <;> cases t <;> simp only [signed, if_true, Bool.false_eq_true, if_false] at h ⊢
  · have := hle (by omega); omega
  · have := hle (by omega); have := hz (by omega); omega
  · omega
  · have := hge (by omega); omega
theorem signed_flip (s : Bool) (m : Nat) : signed (!s) m = -signed s m := by cases s <;> simp [signed]
theorem ratio_ge {s : Bool} {A B : Nat} {e e0 : Int} {V : Datum} (hB : 0 < B) (hV : Jvm.FP.Core.fits b64 V) (hn : V ≠ .nan) (h0 : e0 ≤ b64.qmin) (h0e : e0 ≤ e)
    (h : zval b64 V * ((2 ^ (b64.qmin - e0).toNat * B : Nat) : Int) ≤ signed s (inUnits A e e0)) : zval b64 V ≤ zval b64 (roundRatio b64 s A B e) := by
  have h1 := ratio_le (s := !s) (A := A) (e := e) (V := negate V) hB (negate_fits hV) (negate_ne_nan hn) h0 h0e (by
    rw [zval_negate, Int.neg_mul, signed_flip]; omega)
  rw [zval_negate, ← negate_roundRatio, zval_negate] at h1
  omega
theorem zval_fin (s : Bool) (c : Nat) (q : Int) : zval b64 (.fin s c q) = signed s c * ((2 ^ (q - b64.qmin).toNat : Nat) : Int) := by
  show signed s (inUnits c q b64.qmin) = _
  unfold inUnits; rw [signed_mul]
theorem pow_mul_eq {a b c d : Nat} (h : a + b = c + d) : (2 ^ a * 2 ^ b : Nat) = 2 ^ c * 2 ^ d := by rw [← Nat.pow_add, ← Nat.pow_add, h]
/-- how c·2^q / (d·2^r) ≤ z reads in units -/
theorem div_units {s : Bool} {c d : Nat} {q r : Int} (hq : b64.qmin ≤ q) (hr : b64.qmin ≤ r) :
    ∃ (x y : Nat), (signed s (inUnits c (q - r) (min b64.qmin (q - r)))) * ((2 ^ x : Nat) : Int) = (signed s c * ((2 ^ (q - b64.qmin).toNat : Nat) : Int)) * O * ((2 ^ y : Nat) : Int) ∧
      ∀ z : Int, (z * ((2 ^ (b64.qmin - min b64.qmin (q - r)).toNat * d : Nat) : Int)) * ((2 ^ x : Nat) : Int) = z * ((d : Int) * ((2 ^ (r - b64.qmin).toNat : Nat) : Int)) * ((2 ^ y : Nat) : Int) := by
  have hO : O = ((2 ^ (-b64.qmin).toNat : Nat) : Int) := by rw [pow_qmin64]
  have hqm : b64.qmin ≤ 0 := by rw [qmin_b64]; decide
  refine ⟨(r - 2 * b64.qmin + min b64.qmin (q - r)).toNat, (-(r - 2 * b64.qmin + min b64.qmin (q - r))).toNat, ?_, fun z => ?_⟩
  · unfold inUnits
    rw [signed_mul, hO]
    have e : (q - r - min b64.qmin (q - r)).toNat + (r - 2 * b64.qmin + min b64.qmin (q - r)).toNat = ((q - b64.qmin).toNat + (-b64.qmin).toNat) + (-(r - 2 * b64.qmin + min b64.qmin (q - r))).toNat := by omega
    have e2 := pow_mul_eq e
    rw [Nat.pow_add _ (q - b64.qmin).toNat] at e2
    have e3 : (((2 ^ (q - r - min b64.qmin (q - r)).toNat : Nat) : Int)) * ((2 ^ (r - 2 * b64.qmin + min b64.qmin (q - r)).toNat : Nat) : Int) = ((2 ^ (q - b64.qmin).toNat : Nat) : Int) * ((2 ^ (-b64.qmin).toNat : Nat) : Int) * ((2 ^ (-(r - 2 * b64.qmin + min b64.qmin (q - r))).toNat : Nat) : Int) := by
      rw [← Int.natCast_mul, ← Int.natCast_mul, ← Int.natCast_mul, e2]
    rw [Int.mul_assoc, e3]; simp only [Int.mul_assoc]
  · have e : (b64.qmin - min b64.qmin (q - r)).toNat + (r - 2 * b64.qmin + min b64.qmin (q - r)).toNat = (r - b64.qmin).toNat + (-(r - 2 * b64.qmin + min b64.qmin (q - r))).toNat := by omega
    have e2 := pow_mul_eq e
    have e3 : ((2 ^ (b64.qmin - min b64.qmin (q - r)).toNat * d : Nat) : Int) * ((2 ^ (r - 2 * b64.qmin + min b64.qmin (q - r)).toNat : Nat) : Int) = ((d : Int) * ((2 ^ (r - b64.qmin).toNat : Nat) : Int)) * ((2 ^ (-(r - 2 * b64.qmin + min b64.qmin (q - r))).toNat : Nat) : Int) := by
      rw [← Int.natCast_mul, ← Int.natCast_mul, ← Int.natCast_mul, Nat.mul_right_comm, e2, Nat.mul_comm d, Nat.mul_right_comm]
    rw [Int.mul_assoc, e3]; simp only [Int.mul_assoc]
theorem pos_fin {s : Bool} {c : Nat} {q : Int} (h : 0 < signed s c * ((2 ^ (q - b64.qmin).toNat : Nat) : Int)) : s = false ∧ 0 < c := by
  have hp : (0 : Int) < ((2 ^ (q - b64.qmin).toNat : Nat) : Int) := Int.natCast_pos.mpr (Nat.two_pow_pos _)
  have h1 : 0 < signed s c := by
    refine Int.lt_of_not_ge fun hle => ?_
    have := Int.mul_le_mul_of_nonneg_right hle (Int.le_of_lt hp)
    omega
  cases s
  · exact ⟨rfl, by simp only [signed, Bool.false_eq_true, if_false] at h1; omega⟩
  · simp only [signed, if_true] at h1; omega
theorem div_parts {a b : UInt64} (ha : DFin a) (hb : DFin b) (hp : 0 < zv b) : ∃ s c q d r, val64 (Jvm.FP.ddiv a b) = roundRatio b64 s c d (q - r) ∧ 0 < d ∧ b64.qmin ≤ q ∧ b64.qmin ≤ r ∧
    zv a = signed s c * ((2 ^ (q - b64.qmin).toNat : Nat) : Int) ∧ zv b = (d : Int) * ((2 ^ (r - b64.qmin).toNat : Nat) : Int) := by
  obtain ⟨s, c, q, ea, fa⟩ := fin_of ha
  obtain ⟨t, d, r, eb, fb⟩ := fin_of hb
  unfold zv at hp ⊢
  rw [eb, zval_fin] at hp
  obtain ⟨rfl, hd⟩ := pos_fin hp
  refine ⟨s, c, q, d, r, ?_, hd, fa.2.1, fb.2.1, ?_, ?_⟩
  · show val64 (ddiv a b) = _
    rw [val64_ddiv, ea, eb]
    show (if d = 0 then _ else roundRatio b64 (s != false) c d (q - r)) = _
    rw [if_neg (by omega)]
    cases s <;> rfl
  · rw [ea, zval_fin]
  · rw [eb, zval_fin]; rfl
theorem div_le {a b : UInt64} {z : Int} (ha : DFin a) (hb : DFin b) (hp : 0 < zv b) (hz : Rep z) (h : zv a * O ≤ z * zv b) : zv (Jvm.FP.ddiv a b) ≤ z := by
  obtain ⟨s, c, q, d, r, e1, hd, hq, hr, e2, e3⟩ := div_parts ha hb hp
  obtain ⟨V, fV, nV, rfl⟩ := hz
  unfold zv at h ⊢
  rw [e1]
  refine ratio_le hd fV nV (e0 := min b64.qmin (q - r)) (by omega) (by omega) ?_
  obtain ⟨x, y, u1, u2⟩ := div_units (s := s) (c := c) (d := d) hq hr
  refine Int.le_of_mul_le_mul_right (a := ((2 ^ x : Nat) : Int)) ?_ (Int.natCast_pos.mpr (Nat.two_pow_pos x))
  rw [u1, u2]
  refine Int.mul_le_mul_of_nonneg_right ?_ (Int.natCast_nonneg _)
  rw [← e2, ← e3]; exact h
theorem div_ge {a b : UInt64} {z : Int} (ha : DFin a) (hb : DFin b) (hp : 0 < zv b) (hz : Rep z) (h : z * zv b ≤ zv a * O) : z ≤ zv (Jvm.FP.ddiv a b) := by
  obtain ⟨s, c, q, d, r, e1, hd, hq, hr, e2, e3⟩ := div_parts ha hb hp
  obtain ⟨V, fV, nV, rfl⟩ := hz
  unfold zv at h ⊢
  rw [e1]
  refine ratio_ge hd fV nV (e0 := min b64.qmin (q - r)) (by omega) (by omega) ?_
  obtain ⟨x, y, u1, u2⟩ := div_units (s := s) (c := c) (d := d) hq hr
  refine Int.le_of_mul_le_mul_right (a := ((2 ^ x : Nat) : Int)) ?_ (Int.natCast_pos.mpr (Nat.two_pow_pos x))
  rw [u1, u2]
  refine Int.mul_le_mul_of_nonneg_right ?_ (Int.natCast_nonneg _)
  rw [← e2, ← e3]; exact h
theorem div_eq {a b : UInt64} {z : Int} (ha : DFin a) (hb : DFin b) (hp : 0 < zv b) (hz : Rep z) (h : zv a * O = z * zv b) : zv (Jvm.FP.ddiv a b) = z :=
  Int.le_antisymm (div_le ha hb hp hz (Int.le_of_eq h)) (div_ge ha hb hp hz (Int.le_of_eq h.symm))
/-! no NaNs, finite results -/
theorem nn_fin {a : UInt64} (h : DFin a) : Jvm.Free.Fl.NoNaN64 a := Jvm.Free.Fl.val64_no.mpr h.ne_nan
theorem nn_mul {a b : UInt64} (ha : DFin a) (hb : DFin b) : Jvm.Free.Fl.NoNaN64 (Jvm.FP.dmul a b) := Jvm.Free.Fl.noNaN64_no.mpr (dmul_out ha hb)
theorem nn_add {a b : UInt64} (ha : DFin a) (hb : DFin b) : Jvm.Free.Fl.NoNaN64 (Jvm.FP.dadd a b) := Jvm.Free.Fl.noNaN64_no.mpr (dadd_out ha.notNaN hb)
theorem nn_sub {a b : UInt64} (ha : DFin a) (hb : DFin b) : Jvm.Free.Fl.NoNaN64 (Jvm.FP.dsub a b) := Jvm.Free.Fl.noNaN64_no.mpr (dsub_out ha.notNaN hb)
theorem zv_zero {a : UInt64} (h : DZero a) : zv a = 0 := h.zval
theorem nn_div {a b : UInt64} (ha : DFin a) (hb : DFin b) (hz : zv b ≠ 0) : Jvm.Free.Fl.NoNaN64 (Jvm.FP.ddiv a b) := Jvm.Free.Fl.noNaN64_no.mpr (ddiv_out ha.notNaN hb fun q => hz (zv_zero q))
theorem nn_ne {a : UInt64} (h : Jvm.Free.Fl.NoNaN64 a) : val64 a ≠ .nan := Jvm.Free.Fl.val64_no.mp h
theorem top_big : 18446744073709551616 * one64 < b64.tails * 2 ^ (b64.exps - 2) := by decide +kernel
theorem zmag_zv (a : UInt64) : ((zmag b64 (val64 a) : Nat) : Int) = zv a ∨ ((zmag b64 (val64 a) : Nat) : Int) = -zv a := by
  unfold zv zval
  cases sgn (val64 a) <;> simp [signed]
theorem fin_of_zv {a : UInt64} (h : Jvm.Free.Fl.NoNaN64 a) (h1 : -(18446744073709551616 * O) ≤ zv a) (h2 : zv a ≤ 18446744073709551616 * O) : DFin a := by
  have hn := nn_ne h
  cases e : val64 a with
  | nan => exact absurd e hn
  | fin s c q => exact ⟨s, c, q, e⟩
  | inf s =>
    exfalso
    have hz : zmag b64 (val64 a) = b64.tails * 2 ^ (b64.exps - 2) := by rw [e]; rfl
    have ht := top_big
    have hc := zmag_zv a
    rw [hz] at hc
    generalize b64.tails * 2 ^ (b64.exps - 2) = T at *
    unfold O at h1 h2
    rcases hc with hc | hc <;> omega
/-! comparisons -/
theorem cmp_zv {a b : UInt64} (ha : Jvm.Free.Fl.NoNaN64 a) (hb : Jvm.Free.Fl.NoNaN64 b) : Jvm.FP.dcmp a b = some (compare (zv a) (zv b)) := dcmp_zval (nn_ne ha) (nn_ne hb)
theorem compare_if (x y : Int) : compare x y = if x < y then .lt else if x = y then .eq else .gt := rfl
open Jvm.Op in
theorem if_lt {a b : UInt64} (ha : Jvm.Free.Fl.NoNaN64 a) (hb : Jvm.Free.Fl.NoNaN64 b) (o : Jvm.ClassFile.CmpOp) : ifCond.holds .lt (cmpValue (Jvm.FP.dcmp a b) o) = decide (zv a < zv b) := by
  rw [cmp_zv ha hb, compare_if]; by_cases h1 : zv a < zv b
  · simp only [h1, if_true]; cases o <;> decide
  · by_cases h2 : zv a = zv b
    · simp only [h1, h2, Int.lt_irrefl, if_true, if_false]; cases o <;> decide
    · simp only [h1, h2, if_false]; cases o <;> decide
open Jvm.Op in
theorem if_ge {a b : UInt64} (ha : Jvm.Free.Fl.NoNaN64 a) (hb : Jvm.Free.Fl.NoNaN64 b) (o : Jvm.ClassFile.CmpOp) : ifCond.holds .ge (cmpValue (Jvm.FP.dcmp a b) o) = decide (zv b ≤ zv a) := by
  rw [cmp_zv ha hb, compare_if]; by_cases h1 : zv a < zv b
  · have : ¬ zv b ≤ zv a := by omega
    simp only [h1, this, if_true]; cases o <;> decide
  · have : zv b ≤ zv a := by omega
    by_cases h2 : zv a = zv b
    · simp only [h1, h2, this, Int.lt_irrefl, Int.le_refl, if_true, if_false]; cases o <;> decide
    · simp only [h1, h2, this, if_false]; cases o <;> decide
open Jvm.Op in
theorem if_gt {a b : UInt64} (ha : Jvm.Free.Fl.NoNaN64 a) (hb : Jvm.Free.Fl.NoNaN64 b) (o : Jvm.ClassFile.CmpOp) : ifCond.holds .gt (cmpValue (Jvm.FP.dcmp a b) o) = decide (zv b < zv a) := by
  rw [cmp_zv ha hb, compare_if]; by_cases h1 : zv a < zv b
  · have : ¬ zv b < zv a := by omega
    simp only [h1, this, if_true]; cases o <;> decide
  · by_cases h2 : zv a = zv b
    · simp only [h1, h2, Int.lt_irrefl, if_true, if_false]; cases o <;> decide
    · have : zv b < zv a := by omega
      simp only [h1, h2, this, if_false]; cases o <;> decide
open Jvm.Op in
theorem if_le {a b : UInt64} (ha : Jvm.Free.Fl.NoNaN64 a) (hb : Jvm.Free.Fl.NoNaN64 b) (o : Jvm.ClassFile.CmpOp) : ifCond.holds .le (cmpValue (Jvm.FP.dcmp a b) o) = decide (zv a ≤ zv b) := by
  rw [cmp_zv ha hb, compare_if]; by_cases h1 : zv a < zv b
  · have : zv a ≤ zv b := by omega
    simp only [h1, this, if_true]; cases o <;> decide
  · by_cases h2 : zv a = zv b
    · simp only [h1, h2, Int.lt_irrefl, Int.le_refl, if_true, if_false]; cases o <;> decide
    · have : ¬ zv a ≤ zv b := by omega
      simp only [h1, h2, this, if_false]; cases o <;> decide
open Jvm.Op in
theorem if_eq {a b : UInt64} (ha : Jvm.Free.Fl.NoNaN64 a) (hb : Jvm.Free.Fl.NoNaN64 b) (o : Jvm.ClassFile.CmpOp) : ifCond.holds .eq (cmpValue (Jvm.FP.dcmp a b) o) = decide (zv a = zv b) := by
  rw [cmp_zv ha hb, compare_if]; by_cases h1 : zv a < zv b
  · have : ¬ zv a = zv b := by omega
    simp only [h1, this, if_true]; cases o <;> decide
  · by_cases h2 : zv a = zv b
    · simp only [h2, Int.lt_irrefl, if_true, if_false]; cases o <;> decide
    · simp only [h1, h2, if_false]; cases o <;> decide
open Jvm.Op in
theorem if_ne {a b : UInt64} (ha : Jvm.Free.Fl.NoNaN64 a) (hb : Jvm.Free.Fl.NoNaN64 b) (o : Jvm.ClassFile.CmpOp) : ifCond.holds .ne (cmpValue (Jvm.FP.dcmp a b) o) = decide (¬ zv a = zv b) := by
  rw [cmp_zv ha hb, compare_if]; by_cases h1 : zv a < zv b
  · have : ¬ zv a = zv b := by omega
    simp only [h1, this, if_true]; cases o <;> decide
  · by_cases h2 : zv a = zv b
    · simp only [h2, Int.lt_irrefl, if_true, if_false]; cases o <;> decide
    · simp only [h1, h2, if_false]; cases o <;> decide
/-! longs and ints compared -/
open Jvm.Op Jvm.RoadKit in
theorem lw (cd : Jvm.ClassFile.Cond) (x y : Int64) : ifCond.holds cd (lcmpW x y) = (match cd with | .lt => decide (x.toInt < y.toInt) | .le => decide (x.toInt ≤ y.toInt) | .gt => decide (y.toInt < x.toInt) | .ge => decide (y.toInt ≤ x.toInt) | .eq => decide (x.toInt = y.toInt) | .ne => decide (¬ x.toInt = y.toInt)) := by
  unfold lcmpW
  simp only [gt_iff_lt, Int64.lt_iff_toInt_lt, ← Int64.toInt_inj]
  by_cases h1 : y.toInt < x.toInt
  · rw [if_pos h1]
    cases cd <;> simp only [h1, show ¬ x.toInt < y.toInt by omega, show ¬ x.toInt ≤ y.toInt by omega, show y.toInt ≤ x.toInt by omega, show ¬ x.toInt = y.toInt by omega] <;> decide
  · rw [if_neg h1]
    by_cases h2 : x.toInt = y.toInt
    · rw [if_pos h2, h2]
      cases cd <;> simp only [Int.lt_irrefl, Int.le_refl] <;> decide
    · rw [if_neg h2]
      cases cd <;> simp only [h1, h2, show x.toInt < y.toInt by omega, show x.toInt ≤ y.toInt by omega, show ¬ y.toInt ≤ x.toInt by omega] <;> decide
theorem i0_iff (x : Int32) : x = 0 ↔ x.toInt = 0 := by rw [← Int32.toInt_inj]; rfl
open Jvm.Op in
theorem iw (cd : Jvm.ClassFile.Cond) (x : Int32) : ifCond.holds cd x = (match cd with | .lt => decide (x.toInt < 0) | .le => decide (x.toInt ≤ 0) | .gt => decide (0 < x.toInt) | .ge => decide (0 ≤ x.toInt) | .eq => decide (x.toInt = 0) | .ne => decide (¬ x.toInt = 0)) := by
  have e0 : (0 : Int32).toInt = 0 := by decide
  cases cd <;> simp only [ifCond.holds, gt_iff_lt, ge_iff_le, Int32.lt_iff_toInt_lt, Int32.le_iff_toInt_le, e0]
  · by_cases h : x = 0
    · subst h; decide
    · have h' : ¬ x.toInt = 0 := fun q => h ((i0_iff x).mpr q)
      simp [h, h']
  · by_cases h : x = 0
    · subst h; decide
    · have h' : ¬ x.toInt = 0 := fun q => h ((i0_iff x).mpr q)
      simp [h, h']
end Jvm.OwnFP
namespace Jvm.OwnFP
open Jvm.FP.Core
/-! a long divided by a power of two -/
def P (k : Nat) : Int := ((2 ^ (1074 - k) : Nat) : Int)
theorem P_pos (k : Nat) : 0 < P k := Int.natCast_pos.mpr (Nat.two_pow_pos _)
theorem P_O {k : Nat} (hk : k ≤ 1074) : ((2 ^ k : Nat) : Int) * P k = O := (pow_O k hk).symm
theorem rep_P {m : Int} (k : Nat) (hm : m.natAbs ≤ 9007199254740992) : Rep (m * P k) := rep_le (1074 - k) hm (by omega)
theorem q_le {x : Int64} {b : UInt64} {k : Nat} (hk : k ≤ 1000) (hF : DFin b) (hb : zv b = ((2 ^ k : Nat) : Int) * O) {m : Int} (hm : m.natAbs ≤ 9007199254740992) (h : x.toInt ≤ m) : zv (Jvm.FP.ddiv (Jvm.FP.l2d x) b) ≤ m * P k := by
  have hO := O_pos
  have h2 : (0 : Int) < ((2 ^ k : Nat) : Int) := Int.natCast_pos.mpr (Nat.two_pow_pos _)
  refine div_le (l2dF x) hF (by rw [hb]; exact Int.mul_pos h2 hO) (rep_P k hm) ?_
  have h1 : zv (Jvm.FP.l2d x) ≤ m * O := l2d_le (rep_int hm) (Int.mul_le_mul_of_nonneg_right h (Int.le_of_lt hO))
  rw [hb, ← Int.mul_assoc]
  refine Int.mul_le_mul_of_nonneg_right ?_ (Int.le_of_lt hO)
  rw [Int.mul_assoc, Int.mul_comm (P k), P_O (by omega)]
  exact h1
theorem q_ge {x : Int64} {b : UInt64} {k : Nat} (hk : k ≤ 1000) (hF : DFin b) (hb : zv b = ((2 ^ k : Nat) : Int) * O) {m : Int} (hm : m.natAbs ≤ 9007199254740992) (h : m ≤ x.toInt) : m * P k ≤ zv (Jvm.FP.ddiv (Jvm.FP.l2d x) b) := by
  have hO := O_pos
  have h2 : (0 : Int) < ((2 ^ k : Nat) : Int) := Int.natCast_pos.mpr (Nat.two_pow_pos _)
  refine div_ge (l2dF x) hF (by rw [hb]; exact Int.mul_pos h2 hO) (rep_P k hm) ?_
  have h1 : m * O ≤ zv (Jvm.FP.l2d x) := l2d_ge (rep_int hm) (Int.mul_le_mul_of_nonneg_right h (Int.le_of_lt hO))
  rw [hb, ← Int.mul_assoc]
  refine Int.mul_le_mul_of_nonneg_right ?_ (Int.le_of_lt hO)
  rw [Int.mul_assoc, Int.mul_comm (P k), P_O (by omega)]
  exact h1
/-- the quotient against a whole number -/
theorem q_cmp {x : Int64} {b : UInt64} {k : Nat} (hk : k ≤ 1000) (hF : DFin b) (hb : zv b = ((2 ^ k : Nat) : Int) * O) {B m : Int} (hm : m = B * ((2 ^ k : Nat) : Int)) (hm1 : m.natAbs < 9007199254740992) :
    (zv (Jvm.FP.ddiv (Jvm.FP.l2d x) b) ≤ B * O ↔ x.toInt ≤ m) ∧ (B * O ≤ zv (Jvm.FP.ddiv (Jvm.FP.l2d x) b) ↔ m ≤ x.toInt) := by
  have e : B * O = m * P k := by rw [hm, Int.mul_assoc, P_O (by omega)]
  have hP := P_pos k
  rw [e]
  refine ⟨⟨fun h => Int.not_lt.mp fun hl => ?_, fun h => q_le hk hF hb (by omega) h⟩, ⟨fun h => Int.not_lt.mp fun hl => ?_, fun h => q_ge hk hF hb (by omega) h⟩⟩
  · have := q_ge hk hF hb (x := x) (m := m + 1) (by omega) (by omega)
    rw [Int.add_mul] at this; omega
  · have := q_le hk hF hb (x := x) (m := m - 1) (by omega) (by omega)
    rw [Int.sub_mul] at this; omega
theorem neg_zv (a : UInt64) : zv (Jvm.FP.dneg a) = -zv a := by
  unfold zv; rw [Jvm.FP.val64_dneg, zval_negate]
theorem nn_neg {a : UInt64} (h : Jvm.Free.Fl.NoNaN64 a) : Jvm.Free.Fl.NoNaN64 (Jvm.FP.dneg a) := by
  refine Jvm.Free.Fl.val64_no.mpr ?_
  rw [Jvm.FP.val64_dneg]; exact negate_ne_nan (nn_ne h)
theorem zv_lit {a : UInt64} (z : Int) (h : zv a = z) : zv a = z := h
theorem zv_d0 : zv Jvm.FP.dconst0 = 0 := by decide +kernel
theorem zv_d1 : zv Jvm.FP.dconst1 = O := by decide +kernel
theorem nn_d0 : Jvm.Free.Fl.NoNaN64 Jvm.FP.dconst0 := by unfold Jvm.Free.Fl.NoNaN64; decide
theorem nn_d1 : Jvm.Free.Fl.NoNaN64 Jvm.FP.dconst1 := by unfold Jvm.Free.Fl.NoNaN64; decide
end Jvm.OwnFP
namespace Jvm.Pilot.@@N@@
open Jvm Jvm.ClassFile Sem Op Lib Jvm.Free Jvm.Stand Jvm.LawKit Jvm.RoadKit Bundle Jvm.Pilot.@@N@@.Jvm.D
def v0_3 (q0 : Int64) (p1 : Int32) : Int32 := (p1 &&& (3 : Int32))
def v0_6 (q0 : Int64) (p1 : Int32) : UInt64 := (FP.l2d q0)
def j0_21_s0 (q0 : Int64) (p1 : Int32) : Int32 := if ifCond.holds .ge (lcmpW q0 (0 : Int64)) = true then (0 : Int32) else (-1 : Int32)
def j0_11_s0 (q0 : Int64) (p1 : Int32) : Int32 := if ifCond.holds .le (lcmpW q0 (0 : Int64)) = true then (j0_21_s0 q0 p1) else (1 : Int32)
def j0_67_l4 (q0 : Int64) (p1 : Int32) : UInt64 := if if_icmp.holds .ne (v0_3 q0 p1) (3 : Int32) = true then (v0_6 q0 p1) else (FP.dmul (v0_6 q0 p1) (9094988921128908188 : UInt64))
def j0_49_l4 (q0 : Int64) (p1 : Int32) : UInt64 := if if_icmp.holds .ne (v0_3 q0 p1) (2 : Int32) = true then (j0_67_l4 q0 p1) else (FP.dneg (v0_6 q0 p1))
def j0_49_l6 (q0 : Int64) (p1 : Int32) : Int32 := if if_icmp.holds .ne (v0_3 q0 p1) (2 : Int32) = true then (j0_11_s0 q0 p1) else (-(j0_11_s0 q0 p1))
def j0_33_l4 (q0 : Int64) (p1 : Int32) : UInt64 := if if_icmp.holds .ne (v0_3 q0 p1) (1 : Int32) = true then (j0_49_l4 q0 p1) else (FP.ddiv (v0_6 q0 p1) (4652218415073722368 : UInt64))
def j0_33_l6 (q0 : Int64) (p1 : Int32) : Int32 := if if_icmp.holds .ne (v0_3 q0 p1) (1 : Int32) = true then (j0_49_l6 q0 p1) else (j0_11_s0 q0 p1)
section Own
open Jvm.OwnFP Jvm.FP.Core
abbrev own_k : UInt64 := 4652218415073722368
abbrev own_h : UInt64 := 9094988921128908188
theorem own_kF : DFin own_k := (fin_bits own_k).mpr (by decide +kernel)
theorem own_hF : DFin own_h := (fin_bits own_h).mpr (by decide +kernel)
theorem own_kZ : zv own_k = ((2 ^ 10 : Nat) : Int) * O := by decide +kernel
theorem own_hZ : O ≤ zv own_h := by decide +kernel
theorem own_n75 (q0 : Int64) (p1 : Int32) : Jvm.Free.Fl.NoNaN64 (FP.dmul (v0_6 q0 p1) (9094988921128908188 : UInt64)) := nn_mul (l2dF q0) own_hF
theorem own_n41 (q0 : Int64) (p1 : Int32) : Jvm.Free.Fl.NoNaN64 (FP.ddiv (v0_6 q0 p1) (4652218415073722368 : UInt64)) :=
  nn_div (l2dF q0) own_kF (by rw [own_kZ]; exact Int.ne_of_gt (Int.mul_pos (by decide) O_pos))
/-- the double r has the sign of x -/
def own_sg (r : UInt64) (x : Int) : Prop := Jvm.Free.Fl.NoNaN64 r ∧ (0 < x → 0 < zv r) ∧ (x < 0 → zv r < 0) ∧ (x = 0 → zv r = 0)
theorem own_rep0 : Rep 0 := by have := rep_le (n := 0) 0 (by decide) (by decide); rw [Int.zero_mul] at this; exact this
theorem own_r0 (q0 : Int64) (p1 : Int32) : own_sg (v0_6 q0 p1) q0.toInt := by
  have hO := O_pos
  refine ⟨nn_fin (l2dF q0), fun h => ?_, fun h => ?_, fun h => ?_⟩
  · have := l2d_ge (n := q0) (z := 1 * O) (rep_int (by decide)) (Int.mul_le_mul_of_nonneg_right (by omega) (Int.le_of_lt hO))
    unfold v0_6; omega
  · have := l2d_le (n := q0) (z := -1 * O) (rep_int (by decide)) (Int.mul_le_mul_of_nonneg_right (by omega) (Int.le_of_lt hO))
    unfold v0_6; omega
  · unfold v0_6; rw [l2d_eq (by omega), h, Int.zero_mul]
theorem own_r1 (q0 : Int64) (p1 : Int32) : own_sg (FP.ddiv (v0_6 q0 p1) own_k) q0.toInt := by
  have hP := P_pos 10
  refine ⟨own_n41 q0 p1, fun h => ?_, fun h => ?_, fun h => ?_⟩
  · have := q_ge (x := q0) (k := 10) (by decide) own_kF own_kZ (m := 1) (by decide) (by omega)
    unfold v0_6; omega
  · have := q_le (x := q0) (k := 10) (by decide) own_kF own_kZ (m := -1) (by decide) (by omega)
    unfold v0_6; omega
  · have h1 := q_ge (x := q0) (k := 10) (by decide) own_kF own_kZ (m := 0) (by decide) (by omega)
    have h2 := q_le (x := q0) (k := 10) (by decide) own_kF own_kZ (m := 0) (by decide) (by omega)
    unfold v0_6; omega
theorem own_r3 (q0 : Int64) (p1 : Int32) : own_sg (FP.dmul (v0_6 q0 p1) own_h) q0.toInt := by
  have hO := O_pos; have hH := own_hZ
  refine ⟨own_n75 q0 p1, fun h => ?_, fun h => ?_, fun h => ?_⟩
  · have h1 := l2d_ge (n := q0) (z := 1 * O) (rep_int (by decide)) (Int.mul_le_mul_of_nonneg_right (by omega) (Int.le_of_lt hO))
    have h2 := mul_ge (z := 1 * O) (l2dF q0) own_hF (rep_int (by decide)) (Int.mul_le_mul h1 hH (Int.le_of_lt hO) (by omega))
    unfold v0_6; omega
  · have h1 := l2d_le (n := q0) (z := -1 * O) (rep_int (by decide)) (Int.mul_le_mul_of_nonneg_right (by omega) (Int.le_of_lt hO))
    have h2 := mul_le (z := -1 * O) (l2dF q0) own_hF (rep_int (by decide)) (by
      have u1 : zv (FP.l2d q0) * zv own_h ≤ -1 * O * zv own_h := Int.mul_le_mul_of_nonneg_right h1 (by omega)
      have u2 : O * O ≤ O * zv own_h := Int.mul_le_mul_of_nonneg_left hH (Int.le_of_lt hO)
      have u3 : -1 * O * zv own_h = -(O * zv own_h) := by rw [Int.neg_mul, Int.one_mul, Int.neg_mul]
      have u4 : -1 * O * O = -(O * O) := by rw [Int.neg_mul, Int.one_mul, Int.neg_mul]
      rw [u3] at u1; rw [u4]; omega)
    unfold v0_6; omega
  · unfold v0_6
    refine mul_eq (l2dF q0) own_hF own_rep0 ?_
    rw [l2d_eq (by omega), h]; simp only [Int.zero_mul]
theorem own_r2 (q0 : Int64) (p1 : Int32) : own_sg (FP.dneg (v0_6 q0 p1)) (-q0.toInt) := by
  have h := own_r0 q0 p1
  refine ⟨nn_neg h.1, fun g => ?_, fun g => ?_, fun g => ?_⟩ <;> rw [neg_zv]
  · have := h.2.2.1 (by omega); omega
  · have := h.2.1 (by omega); omega
  · have := h.2.2.2 (by omega); omega
theorem own_s11 (q0 : Int64) (p1 : Int32) : (q0.toInt > 0 → (j0_11_s0 q0 p1).toInt = 1) ∧ (q0.toInt < 0 → (j0_11_s0 q0 p1).toInt = -1) ∧ (q0.toInt = 0 → (j0_11_s0 q0 p1).toInt = 0) := by
  unfold j0_11_s0 j0_21_s0
  rw [lw, lw]
  simp only [show (0 : Int64).toInt = 0 by decide]
  refine ⟨fun h => ?_, fun h => ?_, fun h => ?_⟩
  · rw [if_neg (by simp only [decide_eq_true_eq]; omega)]; decide
  · rw [if_pos (by simp only [decide_eq_true_eq]; omega), if_neg (by simp only [decide_eq_true_eq]; omega)]; decide
  · rw [if_pos (by simp only [decide_eq_true_eq]; omega), if_pos (by simp only [decide_eq_true_eq]; omega)]; decide
theorem own_cmb {r : UInt64} {x s : Int} (h : own_sg r x) (hs : (x > 0 → s = 1) ∧ (x < 0 → s = -1) ∧ (x = 0 → s = 0)) : own_sg r s := by
  refine ⟨h.1, fun g => h.2.1 ?_, fun g => h.2.2.1 ?_, fun g => h.2.2.2 ?_⟩ <;> omega
theorem own_main (q0 : Int64) (p1 : Int32) : own_sg (j0_33_l4 q0 p1) (j0_33_l6 q0 p1).toInt := by
  have hs := own_s11 q0 p1
  unfold j0_33_l4 j0_33_l6
  split
  · unfold j0_49_l4 j0_49_l6
    split
    · unfold j0_67_l4
      split
      · exact own_cmb (own_r0 q0 p1) hs
      · exact own_cmb (own_r3 q0 p1) hs
    · have hn : (-(j0_11_s0 q0 p1)).toInt = -(j0_11_s0 q0 p1).toInt := Jvm.Kit.i32_neg (by omega)
      rw [hn]
      exact own_cmb (own_r2 q0 p1) ⟨by omega, by omega, by omega⟩
  · exact own_cmb (own_r1 q0 p1) hs
theorem own_s1 (q0 : Int64) (p1 : Int32) (h : ifCond.holds .le (j0_33_l6 q0 p1) = false) : ifCond.holds .le (cmpValue (FP.dcmp (j0_33_l4 q0 p1) FP.dconst0) .l) = false := by
  have m := own_main q0 p1
  rw [iw] at h; simp only [decide_eq_false_iff_not] at h
  have := m.2.1 (by omega)
  rw [if_le m.1 nn_d0 .l, zv_d0]; exact decide_eq_false (by omega)
theorem own_v1 (q0 : Int64) (p1 : Int32) (h : ifCond.holds .ge (j0_33_l6 q0 p1) = false) : ifCond.holds .le (cmpValue (FP.dcmp (j0_33_l4 q0 p1) FP.dconst0) .l) = true := by
  have m := own_main q0 p1
  rw [iw] at h; simp only [decide_eq_false_iff_not] at h
  have := m.2.2.1 (by omega)
  rw [if_le m.1 nn_d0 .l, zv_d0]; exact decide_eq_true (by omega)
theorem own_v2 (q0 : Int64) (p1 : Int32) (h : ifCond.holds .ge (j0_33_l6 q0 p1) = false) : ifCond.holds .ge (cmpValue (FP.dcmp (j0_33_l4 q0 p1) FP.dconst0) .g) = false := by
  have m := own_main q0 p1
  rw [iw] at h; simp only [decide_eq_false_iff_not] at h
  have := m.2.2.1 (by omega)
  rw [if_ge m.1 nn_d0 .g, zv_d0]; exact decide_eq_false (by omega)
theorem own_u1 (q0 : Int64) (p1 : Int32) (h1 : ifCond.holds .le (j0_33_l6 q0 p1) = true) (h2 : ifCond.holds .ge (j0_33_l6 q0 p1) = true) : ifCond.holds .le (cmpValue (FP.dcmp (j0_33_l4 q0 p1) FP.dconst0) .l) = true := by
  have m := own_main q0 p1
  rw [iw] at h1 h2; simp only [decide_eq_true_eq] at h1 h2
  have := m.2.2.2 (by omega)
  rw [if_le m.1 nn_d0 .l, zv_d0]; exact decide_eq_true (by omega)
theorem own_u2 (q0 : Int64) (p1 : Int32) (h1 : ifCond.holds .le (j0_33_l6 q0 p1) = true) (h2 : ifCond.holds .ge (j0_33_l6 q0 p1) = true) : ifCond.holds .ge (cmpValue (FP.dcmp (j0_33_l4 q0 p1) FP.dconst0) .g) = true := by
  have m := own_main q0 p1
  rw [iw] at h1 h2; simp only [decide_eq_true_eq] at h1 h2
  have := m.2.2.2 (by omega)
  rw [if_ge m.1 nn_d0 .g, zv_d0]; exact decide_eq_true (by omega)
end Own
theorem d1_0 : decode prog_41_method_4_code 0 = .ok (.dload_n 0, 1) := by decide +kernel
theorem d1_1 : decode prog_41_method_4_code 1 = .ok (.dconst 0, 1) := by decide +kernel
theorem d1_2 : decode prog_41_method_4_code 2 = .ok (.dcmp .l, 1) := by decide +kernel
theorem d1_3 : decode prog_41_method_4_code 3 = .ok (.ifCond .le 7, 3) := by decide +kernel
theorem d1_6 : decode prog_41_method_4_code 6 = .ok (.getstatic 3, 3) := by decide +kernel
theorem d1_9 : decode prog_41_method_4_code 9 = .ok (.areturn, 1) := by decide +kernel
theorem pn_1 : plainName "com/example/mutaprop/mutaprop/stl/Verdict" = true := by first | (simp [plainName, overriddenIn]; done) | decide +kernel
theorem pd_0 : parseMethodDescriptor "(D)Lcom/example/mutaprop/mutaprop/stl/Verdict;" = some ⟨[.double], some (.object "com/example/mutaprop/mutaprop/stl/Verdict")⟩ := by decide +kernel
theorem ef_1s (m : MethodId) (d0 : UInt64) : entryFrame m #[(.double d0)] 2 = mkF m 0 #[.val (.double d0), .second] [] := by first | (simp [entryFrame, mkF, argsToLocals, Value.category]; done) | rfl
def Q1s (Z : State) (d0 : UInt64) (w_SATISFIED : Value) (h0 : Heap) (n0 : Nat) (v : Option Value) (h : Heap) (L : List Loc) : Prop := v = some w_SATISFIED ∧ Fr n0 L ∧ h = h0
set_option maxRecDepth 65536 in
set_option maxHeartbeats 40000000 in
theorem rm1s (l : Launch) (Z : State) (aw : Array Value) (hw : ∀ d ∈ tables_1, d.before aw Z = true) (ws : List Jvm.Cond) (d0 : UInt64) (w_SATISFIED : Value) (h0 : Heap) (n0 : Nat) (Z0 : n0 ≤ h0.size) (hc3 : ifCond.holds .le (cmpValue (FP.dcmp d0 FP.dconst0) .l) = false) (F_SATISFIED_st : Sta Z h0 "com/example/mutaprop/mutaprop/stl/Verdict" "SATISFIED" "Lcom/example/mutaprop/mutaprop/stl/Verdict;" w_SATISFIED) (r_w_SATISFIED : w_SATISFIED.isRef = true) :
    MetFree l (⟨"com/example/mutaprop/mutaprop/stl/Verdict", "of", "(D)Lcom/example/mutaprop/mutaprop/stl/Verdict;"⟩ : MethodName) (head1 (Jvm.Cond.code (⟨"com/example/mutaprop/mutaprop/stl/Verdict", "of", "(D)Lcom/example/mutaprop/mutaprop/stl/Verdict;"⟩ : MethodName) prog_41_method_4_code 2 (some (.object "com/example/mutaprop/mutaprop/stl/Verdict")) :: ws) ({ frames := 0, cells := 0, slots := 0, locals := 0 } : Room)) (fun a U => a = #[(.double d0)] ∧ Z.Warmed39 U.vm ∧ U.heap = h0) (fun _ _ _ _ _ => True) (fun _ U o U' => ∃ v L, o = .returned v ∧ Q1s Z d0 w_SATISFIED h0 n0 v U'.heap L ∧ FrameEnd U o U' L ({ frames := 0, cells := 0, slots := 0, locals := 0 } : Room).cells ({ frames := 0, cells := 0, slots := 0, locals := 0 } : Room).slots) := by
  refine MetFree.of_bodySF (plainFor_of_name pn_1) hisR ?_
  intro p e s m args below meth c s₁ Bd hml0 hP hK
  obtain ⟨rfl, hZ, hh⟩ := hP
  have hx := Bd.exec
  have hby := Bd.bytes
  have hml : c.maxLocals = 2 := hml0
  have hown : s.vm.findClass "com/example/mutaprop/mutaprop/stl/Verdict" = some m.cls := findClass_of_methodNamed Bd.named
  have hnm := (name_of_methodNamed Bd.named Bd.method).1
  have X0 : Stand p l e ({ frames := 0, cells := 0, slots := 0, locals := 0 } : Room) s m #[(.double d0)] below meth c s₁ [] 0 0 := Stand.of_body Bd
  have e0 : s₁.heap = h0 := by rw [← hh, Bd.state]; rfl
  have N0 := Fr.nil n0
  have pre0 : ∀ t, Steps p.tables e below (s₁.setTop (mkF m 0 #[.val (.double d0), .second] [])) t → Steps p.tables e below (s₁.setTop (entryFrame m #[(.double d0)] 2)) t := fun t k => castTop (ef_1s m d0) k
  obtain ⟨T1, X1, e1, st1⟩ := getS2 X0 hx hZ hown (host := "") (Or.inl (hw _ (List.mem_of_getElem? (i := 10) rfl))) Via.refl e0 F_SATISFIED_st (g := (mkF m 6 #[.val (.double d0), .second] [])) rfl (hb hby d1_6)
  obtain ⟨fs, hr, hrun, hended, hW, hsame⟩ := X1.leave (v := some w_SATISFIED) (fun h => by rw [Bd.returns] at h; cases h)
  refine ⟨_, _, pre0 _ ?_, hrun, hended, _, _, rfl, ?_, ⟨_, rfl⟩, hW, hsame.mono (by decide) (by decide)⟩
  · show Steps p.tables e below (s₁.setTop (mkF m 0 #[.val (.double d0), .second] [])) _
    refine XS.dloadN X0.here hx rfl (hb hby d1_0) rfl ?_
    show Steps p.tables e below (s₁.setTop (mkF m 1 #[.val (.double d0), .second] [(.double d0)])) _
    refine XS.dconst0 X0.here hx rfl (hb hby d1_1) rfl ?_
    show Steps p.tables e below (s₁.setTop (mkF m 2 #[.val (.double d0), .second] [(.double FP.dconst0), (.double d0)])) _
    refine XS.dcmpS X0.here hx rfl (hb hby d1_2) rfl rfl ?_
    show Steps p.tables e below (s₁.setTop (mkF m 3 #[.val (.double d0), .second] [(.int (cmpValue (FP.dcmp d0 FP.dconst0) .l))])) _
    refine XS.ifNo X0.here hx rfl (hb hby d1_3) rfl hc3 ?_
    show Steps p.tables e below (s₁.setTop (mkF m 6 #[.val (.double d0), .second] [])) _
    refine st1 _ ?_
    show Steps p.tables e below (T1.setTop (mkF m 9 #[.val (.double d0), .second] [w_SATISFIED])) _
    exact X1.areturnOut hx (w := w_SATISFIED) r_w_SATISFIED Bd.returns rfl (hb hby d1_9) hr
  · show Q1s Z d0 w_SATISFIED h0 n0 _ T1.heap _
    rw [e1]
    exact ⟨rfl, N0, rfl⟩
theorem d1_10 : decode prog_41_method_4_code 10 = .ok (.dload_n 0, 1) := by decide +kernel
theorem d1_11 : decode prog_41_method_4_code 11 = .ok (.dconst 0, 1) := by decide +kernel
theorem d1_12 : decode prog_41_method_4_code 12 = .ok (.dcmp .g, 1) := by decide +kernel
theorem d1_13 : decode prog_41_method_4_code 13 = .ok (.ifCond .ge 7, 3) := by decide +kernel
theorem d1_16 : decode prog_41_method_4_code 16 = .ok (.getstatic 7, 3) := by decide +kernel
theorem d1_19 : decode prog_41_method_4_code 19 = .ok (.areturn, 1) := by decide +kernel
theorem ef_1v (m : MethodId) (d0 : UInt64) : entryFrame m #[(.double d0)] 2 = mkF m 0 #[.val (.double d0), .second] [] := by first | (simp [entryFrame, mkF, argsToLocals, Value.category]; done) | rfl
def Q1v (Z : State) (d0 : UInt64) (w_VIOLATED : Value) (h0 : Heap) (n0 : Nat) (v : Option Value) (h : Heap) (L : List Loc) : Prop := v = some w_VIOLATED ∧ Fr n0 L ∧ h = h0
set_option maxRecDepth 65536 in
set_option maxHeartbeats 40000000 in
theorem rm1v (l : Launch) (Z : State) (aw : Array Value) (hw : ∀ d ∈ tables_1, d.before aw Z = true) (ws : List Jvm.Cond) (d0 : UInt64) (w_VIOLATED : Value) (h0 : Heap) (n0 : Nat) (Z0 : n0 ≤ h0.size) (hc3 : ifCond.holds .le (cmpValue (FP.dcmp d0 FP.dconst0) .l) = true) (hc13 : ifCond.holds .ge (cmpValue (FP.dcmp d0 FP.dconst0) .g) = false) (F_VIOLATED_st : Sta Z h0 "com/example/mutaprop/mutaprop/stl/Verdict" "VIOLATED" "Lcom/example/mutaprop/mutaprop/stl/Verdict;" w_VIOLATED) (r_w_VIOLATED : w_VIOLATED.isRef = true) :
    MetFree l (⟨"com/example/mutaprop/mutaprop/stl/Verdict", "of", "(D)Lcom/example/mutaprop/mutaprop/stl/Verdict;"⟩ : MethodName) (head1 (Jvm.Cond.code (⟨"com/example/mutaprop/mutaprop/stl/Verdict", "of", "(D)Lcom/example/mutaprop/mutaprop/stl/Verdict;"⟩ : MethodName) prog_41_method_4_code 2 (some (.object "com/example/mutaprop/mutaprop/stl/Verdict")) :: ws) ({ frames := 0, cells := 0, slots := 0, locals := 0 } : Room)) (fun a U => a = #[(.double d0)] ∧ Z.Warmed39 U.vm ∧ U.heap = h0) (fun _ _ _ _ _ => True) (fun _ U o U' => ∃ v L, o = .returned v ∧ Q1v Z d0 w_VIOLATED h0 n0 v U'.heap L ∧ FrameEnd U o U' L ({ frames := 0, cells := 0, slots := 0, locals := 0 } : Room).cells ({ frames := 0, cells := 0, slots := 0, locals := 0 } : Room).slots) := by
  refine MetFree.of_bodySF (plainFor_of_name pn_1) hisR ?_
  intro p e s m args below meth c s₁ Bd hml0 hP hK
  obtain ⟨rfl, hZ, hh⟩ := hP
  have hx := Bd.exec
  have hby := Bd.bytes
  have hml : c.maxLocals = 2 := hml0
  have hown : s.vm.findClass "com/example/mutaprop/mutaprop/stl/Verdict" = some m.cls := findClass_of_methodNamed Bd.named
  have hnm := (name_of_methodNamed Bd.named Bd.method).1
  have X0 : Stand p l e ({ frames := 0, cells := 0, slots := 0, locals := 0 } : Room) s m #[(.double d0)] below meth c s₁ [] 0 0 := Stand.of_body Bd
  have e0 : s₁.heap = h0 := by rw [← hh, Bd.state]; rfl
  have N0 := Fr.nil n0
  have pre0 : ∀ t, Steps p.tables e below (s₁.setTop (mkF m 0 #[.val (.double d0), .second] [])) t → Steps p.tables e below (s₁.setTop (entryFrame m #[(.double d0)] 2)) t := fun t k => castTop (ef_1v m d0) k
  obtain ⟨T1, X1, e1, st1⟩ := getS2 X0 hx hZ hown (host := "") (Or.inl (hw _ (List.mem_of_getElem? (i := 6) rfl))) Via.refl e0 F_VIOLATED_st (g := (mkF m 16 #[.val (.double d0), .second] [])) rfl (hb hby d1_16)
  obtain ⟨fs, hr, hrun, hended, hW, hsame⟩ := X1.leave (v := some w_VIOLATED) (fun h => by rw [Bd.returns] at h; cases h)
  refine ⟨_, _, pre0 _ ?_, hrun, hended, _, _, rfl, ?_, ⟨_, rfl⟩, hW, hsame.mono (by decide) (by decide)⟩
  · show Steps p.tables e below (s₁.setTop (mkF m 0 #[.val (.double d0), .second] [])) _
    refine XS.dloadN X0.here hx rfl (hb hby d1_0) rfl ?_
    show Steps p.tables e below (s₁.setTop (mkF m 1 #[.val (.double d0), .second] [(.double d0)])) _
    refine XS.dconst0 X0.here hx rfl (hb hby d1_1) rfl ?_
    show Steps p.tables e below (s₁.setTop (mkF m 2 #[.val (.double d0), .second] [(.double FP.dconst0), (.double d0)])) _
    refine XS.dcmpS X0.here hx rfl (hb hby d1_2) rfl rfl ?_
    show Steps p.tables e below (s₁.setTop (mkF m 3 #[.val (.double d0), .second] [(.int (cmpValue (FP.dcmp d0 FP.dconst0) .l))])) _
    refine XS.ifYes X0.here hx rfl (pc0 := 3) (pc' := 10) rfl (hb hby d1_3) rfl hc3 (by decide) (by decide) ?_
    show Steps p.tables e below (s₁.setTop (mkF m 10 #[.val (.double d0), .second] [])) _
    refine XS.dloadN X0.here hx rfl (hb hby d1_10) rfl ?_
    show Steps p.tables e below (s₁.setTop (mkF m 11 #[.val (.double d0), .second] [(.double d0)])) _
    refine XS.dconst0 X0.here hx rfl (hb hby d1_11) rfl ?_
    show Steps p.tables e below (s₁.setTop (mkF m 12 #[.val (.double d0), .second] [(.double FP.dconst0), (.double d0)])) _
    refine XS.dcmpS X0.here hx rfl (hb hby d1_12) rfl rfl ?_
    show Steps p.tables e below (s₁.setTop (mkF m 13 #[.val (.double d0), .second] [(.int (cmpValue (FP.dcmp d0 FP.dconst0) .g))])) _
    refine XS.ifNo X0.here hx rfl (hb hby d1_13) rfl hc13 ?_
    show Steps p.tables e below (s₁.setTop (mkF m 16 #[.val (.double d0), .second] [])) _
    refine st1 _ ?_
    show Steps p.tables e below (T1.setTop (mkF m 19 #[.val (.double d0), .second] [w_VIOLATED])) _
    exact X1.areturnOut hx (w := w_VIOLATED) r_w_VIOLATED Bd.returns rfl (hb hby d1_19) hr
  · show Q1v Z d0 w_VIOLATED h0 n0 _ T1.heap _
    rw [e1]
    exact ⟨rfl, N0, rfl⟩
theorem d1_20 : decode prog_41_method_4_code 20 = .ok (.getstatic 10, 3) := by decide +kernel
theorem d1_23 : decode prog_41_method_4_code 23 = .ok (.areturn, 1) := by decide +kernel
theorem ef_1u (m : MethodId) (d0 : UInt64) : entryFrame m #[(.double d0)] 2 = mkF m 0 #[.val (.double d0), .second] [] := by first | (simp [entryFrame, mkF, argsToLocals, Value.category]; done) | rfl
def Q1u (Z : State) (d0 : UInt64) (w_UNDECIDED : Value) (h0 : Heap) (n0 : Nat) (v : Option Value) (h : Heap) (L : List Loc) : Prop := v = some w_UNDECIDED ∧ Fr n0 L ∧ h = h0
set_option maxRecDepth 65536 in
set_option maxHeartbeats 40000000 in
theorem rm1u (l : Launch) (Z : State) (aw : Array Value) (hw : ∀ d ∈ tables_1, d.before aw Z = true) (ws : List Jvm.Cond) (d0 : UInt64) (w_UNDECIDED : Value) (h0 : Heap) (n0 : Nat) (Z0 : n0 ≤ h0.size) (hc3 : ifCond.holds .le (cmpValue (FP.dcmp d0 FP.dconst0) .l) = true) (hc13 : ifCond.holds .ge (cmpValue (FP.dcmp d0 FP.dconst0) .g) = true) (F_UNDECIDED_st : Sta Z h0 "com/example/mutaprop/mutaprop/stl/Verdict" "UNDECIDED" "Lcom/example/mutaprop/mutaprop/stl/Verdict;" w_UNDECIDED) (r_w_UNDECIDED : w_UNDECIDED.isRef = true) :
    MetFree l (⟨"com/example/mutaprop/mutaprop/stl/Verdict", "of", "(D)Lcom/example/mutaprop/mutaprop/stl/Verdict;"⟩ : MethodName) (head1 (Jvm.Cond.code (⟨"com/example/mutaprop/mutaprop/stl/Verdict", "of", "(D)Lcom/example/mutaprop/mutaprop/stl/Verdict;"⟩ : MethodName) prog_41_method_4_code 2 (some (.object "com/example/mutaprop/mutaprop/stl/Verdict")) :: ws) ({ frames := 0, cells := 0, slots := 0, locals := 0 } : Room)) (fun a U => a = #[(.double d0)] ∧ Z.Warmed39 U.vm ∧ U.heap = h0) (fun _ _ _ _ _ => True) (fun _ U o U' => ∃ v L, o = .returned v ∧ Q1u Z d0 w_UNDECIDED h0 n0 v U'.heap L ∧ FrameEnd U o U' L ({ frames := 0, cells := 0, slots := 0, locals := 0 } : Room).cells ({ frames := 0, cells := 0, slots := 0, locals := 0 } : Room).slots) := by
  refine MetFree.of_bodySF (plainFor_of_name pn_1) hisR ?_
  intro p e s m args below meth c s₁ Bd hml0 hP hK
  obtain ⟨rfl, hZ, hh⟩ := hP
  have hx := Bd.exec
  have hby := Bd.bytes
  have hml : c.maxLocals = 2 := hml0
  have hown : s.vm.findClass "com/example/mutaprop/mutaprop/stl/Verdict" = some m.cls := findClass_of_methodNamed Bd.named
  have hnm := (name_of_methodNamed Bd.named Bd.method).1
  have X0 : Stand p l e ({ frames := 0, cells := 0, slots := 0, locals := 0 } : Room) s m #[(.double d0)] below meth c s₁ [] 0 0 := Stand.of_body Bd
  have e0 : s₁.heap = h0 := by rw [← hh, Bd.state]; rfl
  have N0 := Fr.nil n0
  have pre0 : ∀ t, Steps p.tables e below (s₁.setTop (mkF m 0 #[.val (.double d0), .second] [])) t → Steps p.tables e below (s₁.setTop (entryFrame m #[(.double d0)] 2)) t := fun t k => castTop (ef_1u m d0) k
  obtain ⟨T1, X1, e1, st1⟩ := getS2 X0 hx hZ hown (host := "") (Or.inl (hw _ (List.mem_of_getElem? (i := 13) rfl))) Via.refl e0 F_UNDECIDED_st (g := (mkF m 20 #[.val (.double d0), .second] [])) rfl (hb hby d1_20)
  obtain ⟨fs, hr, hrun, hended, hW, hsame⟩ := X1.leave (v := some w_UNDECIDED) (fun h => by rw [Bd.returns] at h; cases h)
  refine ⟨_, _, pre0 _ ?_, hrun, hended, _, _, rfl, ?_, ⟨_, rfl⟩, hW, hsame.mono (by decide) (by decide)⟩
  · show Steps p.tables e below (s₁.setTop (mkF m 0 #[.val (.double d0), .second] [])) _
    refine XS.dloadN X0.here hx rfl (hb hby d1_0) rfl ?_
    show Steps p.tables e below (s₁.setTop (mkF m 1 #[.val (.double d0), .second] [(.double d0)])) _
    refine XS.dconst0 X0.here hx rfl (hb hby d1_1) rfl ?_
    show Steps p.tables e below (s₁.setTop (mkF m 2 #[.val (.double d0), .second] [(.double FP.dconst0), (.double d0)])) _
    refine XS.dcmpS X0.here hx rfl (hb hby d1_2) rfl rfl ?_
    show Steps p.tables e below (s₁.setTop (mkF m 3 #[.val (.double d0), .second] [(.int (cmpValue (FP.dcmp d0 FP.dconst0) .l))])) _
    refine XS.ifYes X0.here hx rfl (pc0 := 3) (pc' := 10) rfl (hb hby d1_3) rfl hc3 (by decide) (by decide) ?_
    show Steps p.tables e below (s₁.setTop (mkF m 10 #[.val (.double d0), .second] [])) _
    refine XS.dloadN X0.here hx rfl (hb hby d1_10) rfl ?_
    show Steps p.tables e below (s₁.setTop (mkF m 11 #[.val (.double d0), .second] [(.double d0)])) _
    refine XS.dconst0 X0.here hx rfl (hb hby d1_11) rfl ?_
    show Steps p.tables e below (s₁.setTop (mkF m 12 #[.val (.double d0), .second] [(.double FP.dconst0), (.double d0)])) _
    refine XS.dcmpS X0.here hx rfl (hb hby d1_12) rfl rfl ?_
    show Steps p.tables e below (s₁.setTop (mkF m 13 #[.val (.double d0), .second] [(.int (cmpValue (FP.dcmp d0 FP.dconst0) .g))])) _
    refine XS.ifYes X0.here hx rfl (pc0 := 13) (pc' := 20) rfl (hb hby d1_13) rfl hc13 (by decide) (by decide) ?_
    show Steps p.tables e below (s₁.setTop (mkF m 20 #[.val (.double d0), .second] [])) _
    refine st1 _ ?_
    show Steps p.tables e below (T1.setTop (mkF m 23 #[.val (.double d0), .second] [w_UNDECIDED])) _
    exact X1.areturnOut hx (w := w_UNDECIDED) r_w_UNDECIDED Bd.returns rfl (hb hby d1_23) hr
  · show Q1u Z d0 w_UNDECIDED h0 n0 _ T1.heap _
    rw [e1]
    exact ⟨rfl, N0, rfl⟩
theorem pn_0 : plainName "com/example/mutaprop/mutaprop/stl/VerdictOfPinLaw" = true := by first | (simp [plainName, overriddenIn]; done) | decide +kernel
theorem ef_0s (m : MethodId) (q0 : Int64) (p1 : Int32) : entryFrame m #[(.long q0), (.int p1)] maxLocals = mkF m 0 #[.val (.long q0), .second, .val (.int p1), .unset, .unset, .unset, .unset, .unset] [] := by first | (simp [entryFrame, mkF, argsToLocals, Value.category, maxLocals]; done) | rfl
def Q0s (Z : State) (q0 : Int64) (p1 : Int32) (w_SATISFIED : Value) (h0 : Heap) (n0 : Nat) (v : Option Value) (h : Heap) (L : List Loc) : Prop := v = some (.int (1 : Int32)) ∧ Fr n0 L
set_option maxRecDepth 65536 in
set_option maxHeartbeats 40000000 in
theorem rm0s (l : Launch) (Z : State) (aw : Array Value) (hw : ∀ d ∈ tables_1, d.before aw Z = true) (ws : List Jvm.Cond) (q0 : Int64) (p1 : Int32) (w_SATISFIED : Value) (h0 : Heap) (n0 : Nat) (Z0 : n0 ≤ h0.size) (hn75 : Jvm.Free.Fl.NoNaN64 (FP.dmul (v0_6 q0 p1) (9094988921128908188 : UInt64))) (hn41 : Jvm.Free.Fl.NoNaN64 (FP.ddiv (v0_6 q0 p1) (4652218415073722368 : UInt64))) (hc80 : ifCond.holds .le (j0_33_l6 q0 p1) = false) (F_SATISFIED_st : Sta Z h0 "com/example/mutaprop/mutaprop/stl/Verdict" "SATISFIED" "Lcom/example/mutaprop/mutaprop/stl/Verdict;" w_SATISFIED) (r_w_SATISFIED : w_SATISFIED.isRef = true) (hc3_111 : ifCond.holds .le (cmpValue (FP.dcmp (j0_33_l4 q0 p1) FP.dconst0) .l) = false) :
    MetFree l x (head1 (Jvm.Cond.code x code maxLocals ret :: ws) room_1) (fun a U => a = #[(.long q0), (.int p1)] ∧ Z.Warmed39 U.vm ∧ U.heap = h0) (fun _ _ _ _ _ => True) (fun _ U o U' => ∃ v L, o = .returned v ∧ Q0s Z q0 p1 w_SATISFIED h0 n0 v U'.heap L ∧ FrameEnd U o U' L 0 0) := by
  refine MetFree.of_bodySF (plainFor_of_name pn_0) hisR ?_
  intro p e s m args below meth c s₁ Bd hml0 hP hK
  obtain ⟨rfl, hZ, hh⟩ := hP
  have hx := Bd.exec
  have hby := Bd.bytes
  have hml : c.maxLocals = 8 := hml0
  have hown : s.vm.findClass "com/example/mutaprop/mutaprop/stl/VerdictOfPinLaw" = some m.cls := findClass_of_methodNamed Bd.named
  have hnm := (name_of_methodNamed Bd.named Bd.method).1
  have X0 : Stand p l e room_1 s m #[(.long q0), (.int p1)] below meth c s₁ [] 0 0 := Stand.of_body Bd
  have e0 : s₁.heap = h0 := by rw [← hh, Bd.state]; rfl
  have N0 := Fr.nil n0
  have pre0 : ∀ t, Steps p.tables e below (s₁.setTop (mkF m 0 #[.val (.long q0), .second, .val (.int p1), .unset, .unset, .unset, .unset, .unset] [])) t → Steps p.tables e below (s₁.setTop (entryFrame m #[(.long q0), (.int p1)] maxLocals)) t := fun t k => castTop (ef_0s m q0 p1) k
  obtain ⟨T1, X1, e1, st1⟩ := getS2 X0 hx hZ hown (host := "") (Or.inl (hw _ (List.mem_of_getElem? (i := 8) rfl))) Via.refl e0 F_SATISFIED_st (g := (mkF m 83 #[.val (.long q0), .second, .val (.int p1), .val (.int (v0_3 q0 p1)), .val (.double (j0_33_l4 q0 p1)), .second, .val (.int (j0_33_l6 q0 p1)), .unset] [])) rfl (hb hby at_83)
  obtain ⟨_, _, ⟨T2, L2, k2, n2⟩, -, X2, ⟨Lc2, hQ2, l2, y2, z2'⟩, st2⟩ := Jvm.LawKit.callS X1 hx (y := (⟨"com/example/mutaprop/mutaprop/stl/Verdict", "of", "(D)Lcom/example/mutaprop/mutaprop/stl/Verdict;"⟩ : MethodName)) hown (mvT hZ (hw _ (List.mem_of_getElem? (i := 3) rfl))) (mvT hZ (hw _ (List.mem_of_getElem? (i := 4) rfl))) (mvT hZ (hw _ (List.mem_of_getElem? (i := 1) rfl))) (mvT hZ (hw _ (List.mem_of_getElem? (i := 5) rfl))) (by decide) (backOf (W := 0) (rm1s l Z aw hw [] (j0_33_l4 q0 p1) w_SATISFIED h0 n0 Z0 hc3_111 F_SATISFIED_st r_w_SATISFIED) hZ (hw _ (List.mem_of_getElem? (i := 5) rfl)) (hw _ (List.mem_of_getElem? (i := 1) rfl)) (by decide) (by decide)) (g := (mkF m 111 #[.val (.long q0), .second, .val (.int p1), .val (.int (v0_3 q0 p1)), .val (.double (j0_33_l4 q0 p1)), .second, .val (.int (j0_33_l6 q0 p1)), .val w_SATISFIED] [(.double (j0_33_l4 q0 p1))])) rfl (by rw [hml]; rfl) (argsL := [(.double (j0_33_l4 q0 p1))]) (rest := []) (lenOf pd_0 rfl) rfl (by show 2 * 0 + _ ≤ _; exact Nat.le_of_eq rfl) (hb hby at_111) (fun _ _ => ⟨rfl, e1, (by decide : 0 + 0 ≤ _), (by decide : 0 + 0 ≤ _)⟩)
  dsimp only [Pt.U, Pt.locs, Pt.cells, Pt.slots] at X2 l2 y2 z2' st2 hQ2
  subst l2 y2 z2'
  obtain ⟨rfl, N2q, hq2⟩ := hQ2
  have f2_0 : Sta Z T2.heap "com/example/mutaprop/mutaprop/stl/Verdict" "SATISFIED" "Lcom/example/mutaprop/mutaprop/stl/Verdict;" w_SATISFIED := by rw [hq2]; exact F_SATISFIED_st
  have z2 : n0 ≤ T2.heap.size := by rw [hq2]; exact Z0
  have N2 := Fr.app N0 N2q
  obtain ⟨fs, hr, hrun, hended, hW, hsame⟩ := X2.leave (v := some (.int (1 : Int32))) (fun h => by rw [Bd.returns] at h; cases h)
  refine ⟨_, _, pre0 _ ?_, hrun, hended, _, _, rfl, ?_, ⟨_, rfl⟩, hW, hsame.mono (by decide) (by decide)⟩
  · show Steps p.tables e below (s₁.setTop (mkF m 0 #[.val (.long q0), .second, .val (.int p1), .unset, .unset, .unset, .unset, .unset] [])) _
    refine XS.iloadN X0.here hx rfl (hb hby at_0) rfl ?_
    show Steps p.tables e below (s₁.setTop (mkF m 1 #[.val (.long q0), .second, .val (.int p1), .unset, .unset, .unset, .unset, .unset] [(.int p1)])) _
    refine XS.iconst X0.here hx rfl (hb hby at_1) ?_
    show Steps p.tables e below (s₁.setTop (mkF m 2 #[.val (.long q0), .second, .val (.int p1), .unset, .unset, .unset, .unset, .unset] [(.int (3 : Int32)), (.int p1)])) _
    refine XS.iand X0.here hx rfl (hb hby at_2) rfl ?_
    show Steps p.tables e below (s₁.setTop (mkF m 3 #[.val (.long q0), .second, .val (.int p1), .unset, .unset, .unset, .unset, .unset] [(.int (p1 &&& (3 : Int32)))])) _
    refine XS.istoreN X0.here hx rfl (hb hby at_3) rfl (l' := #[.val (.long q0), .second, .val (.int p1), .val (.int (v0_3 q0 p1)), .unset, .unset, .unset, .unset]) rfl ?_
    show Steps p.tables e below (s₁.setTop (mkF m 4 #[.val (.long q0), .second, .val (.int p1), .val (.int (v0_3 q0 p1)), .unset, .unset, .unset, .unset] [])) _
    refine XS.lloadN X0.here hx rfl (hb hby at_4) rfl ?_
    show Steps p.tables e below (s₁.setTop (mkF m 5 #[.val (.long q0), .second, .val (.int p1), .val (.int (v0_3 q0 p1)), .unset, .unset, .unset, .unset] [(.long q0)])) _
    refine XS.l2dS X0.here hx rfl (hb hby at_5) rfl rfl ?_
    show Steps p.tables e below (s₁.setTop (mkF m 6 #[.val (.long q0), .second, .val (.int p1), .val (.int (v0_3 q0 p1)), .unset, .unset, .unset, .unset] [(.double (FP.l2d q0))])) _
    refine XS.dstore X0.here hx rfl (hb hby at_6) rfl (l' := #[.val (.long q0), .second, .val (.int p1), .val (.int (v0_3 q0 p1)), .val (.double (v0_6 q0 p1)), .second, .unset, .unset]) rfl ?_
    show Steps p.tables e below (s₁.setTop (mkF m 8 #[.val (.long q0), .second, .val (.int p1), .val (.int (v0_3 q0 p1)), .val (.double (v0_6 q0 p1)), .second, .unset, .unset] [])) _
    refine XS.lloadN X0.here hx rfl (hb hby at_8) rfl ?_
    show Steps p.tables e below (s₁.setTop (mkF m 9 #[.val (.long q0), .second, .val (.int p1), .val (.int (v0_3 q0 p1)), .val (.double (v0_6 q0 p1)), .second, .unset, .unset] [(.long q0)])) _
    refine XS.lconst X0.here hx rfl (hb hby at_9) ?_
    show Steps p.tables e below (s₁.setTop (mkF m 10 #[.val (.long q0), .second, .val (.int p1), .val (.int (v0_3 q0 p1)), .val (.double (v0_6 q0 p1)), .second, .unset, .unset] [(.long (0 : Int64)), (.long q0)])) _
    refine XS.lcmp X0.here hx rfl (hb hby at_10) rfl ?_
    show Steps p.tables e below (s₁.setTop (mkF m 11 #[.val (.long q0), .second, .val (.int p1), .val (.int (v0_3 q0 p1)), .val (.double (v0_6 q0 p1)), .second, .unset, .unset] [(.int (lcmpW q0 (0 : Int64)))])) _
    suffices kt11 : Steps p.tables e below (s₁.setTop (mkF m 29 #[.val (.long q0), .second, .val (.int p1), .val (.int (v0_3 q0 p1)), .val (.double (v0_6 q0 p1)), .second, .unset, .unset] [(.int (j0_11_s0 q0 p1))])) (T2.setFrames fs) by
      by_cases hc11 : ifCond.holds .le (lcmpW q0 (0 : Int64)) = true
      · rw [show (j0_11_s0 q0 p1) = (j0_21_s0 q0 p1) from if_pos hc11] at kt11
        refine XS.ifYes X0.here hx rfl (pc0 := 11) (pc' := 18) rfl (hb hby at_11) rfl hc11 (by decide) (by decide) ?_
        show Steps p.tables e below (s₁.setTop (mkF m 18 #[.val (.long q0), .second, .val (.int p1), .val (.int (v0_3 q0 p1)), .val (.double (v0_6 q0 p1)), .second, .unset, .unset] [])) _
        refine XS.lloadN X0.here hx rfl (hb hby at_18) rfl ?_
        show Steps p.tables e below (s₁.setTop (mkF m 19 #[.val (.long q0), .second, .val (.int p1), .val (.int (v0_3 q0 p1)), .val (.double (v0_6 q0 p1)), .second, .unset, .unset] [(.long q0)])) _
        refine XS.lconst X0.here hx rfl (hb hby at_19) ?_
        show Steps p.tables e below (s₁.setTop (mkF m 20 #[.val (.long q0), .second, .val (.int p1), .val (.int (v0_3 q0 p1)), .val (.double (v0_6 q0 p1)), .second, .unset, .unset] [(.long (0 : Int64)), (.long q0)])) _
        refine XS.lcmp X0.here hx rfl (hb hby at_20) rfl ?_
        show Steps p.tables e below (s₁.setTop (mkF m 21 #[.val (.long q0), .second, .val (.int p1), .val (.int (v0_3 q0 p1)), .val (.double (v0_6 q0 p1)), .second, .unset, .unset] [(.int (lcmpW q0 (0 : Int64)))])) _
        suffices kt21 : Steps p.tables e below (s₁.setTop (mkF m 29 #[.val (.long q0), .second, .val (.int p1), .val (.int (v0_3 q0 p1)), .val (.double (v0_6 q0 p1)), .second, .unset, .unset] [(.int (j0_21_s0 q0 p1))])) (T2.setFrames fs) by
          by_cases hc21 : ifCond.holds .ge (lcmpW q0 (0 : Int64)) = true
          · rw [show (j0_21_s0 q0 p1) = (0 : Int32) from if_pos hc21] at kt21
            refine XS.ifYes X0.here hx rfl (pc0 := 21) (pc' := 28) rfl (hb hby at_21) rfl hc21 (by decide) (by decide) ?_
            show Steps p.tables e below (s₁.setTop (mkF m 28 #[.val (.long q0), .second, .val (.int p1), .val (.int (v0_3 q0 p1)), .val (.double (v0_6 q0 p1)), .second, .unset, .unset] [])) _
            refine XS.iconst X0.here hx rfl (hb hby at_28) ?_
            exact kt21
          · rw [show (j0_21_s0 q0 p1) = (-1 : Int32) from if_neg hc21] at kt21
            refine XS.ifNo X0.here hx rfl (hb hby at_21) rfl (eq_false_of_ne_true hc21) ?_
            show Steps p.tables e below (s₁.setTop (mkF m 24 #[.val (.long q0), .second, .val (.int p1), .val (.int (v0_3 q0 p1)), .val (.double (v0_6 q0 p1)), .second, .unset, .unset] [])) _
            refine XS.iconst X0.here hx rfl (hb hby at_24) ?_
            show Steps p.tables e below (s₁.setTop (mkF m 25 #[.val (.long q0), .second, .val (.int p1), .val (.int (v0_3 q0 p1)), .val (.double (v0_6 q0 p1)), .second, .unset, .unset] [(.int (-1 : Int32))])) _
            refine XS.goto X0.here hx rfl (pc0 := 25) (pc' := 29) rfl (hb hby at_25) (by decide) (by decide) ?_
            exact kt21
        exact kt11
      · rw [show (j0_11_s0 q0 p1) = (1 : Int32) from if_neg hc11] at kt11
        refine XS.ifNo X0.here hx rfl (hb hby at_11) rfl (eq_false_of_ne_true hc11) ?_
        show Steps p.tables e below (s₁.setTop (mkF m 14 #[.val (.long q0), .second, .val (.int p1), .val (.int (v0_3 q0 p1)), .val (.double (v0_6 q0 p1)), .second, .unset, .unset] [])) _
        refine XS.iconst X0.here hx rfl (hb hby at_14) ?_
        show Steps p.tables e below (s₁.setTop (mkF m 15 #[.val (.long q0), .second, .val (.int p1), .val (.int (v0_3 q0 p1)), .val (.double (v0_6 q0 p1)), .second, .unset, .unset] [(.int (1 : Int32))])) _
        refine XS.goto X0.here hx rfl (pc0 := 15) (pc' := 29) rfl (hb hby at_15) (by decide) (by decide) ?_
        exact kt11
    show Steps p.tables e below (s₁.setTop (mkF m 29 #[.val (.long q0), .second, .val (.int p1), .val (.int (v0_3 q0 p1)), .val (.double (v0_6 q0 p1)), .second, .unset, .unset] [(.int (j0_11_s0 q0 p1))])) _
    refine XS.istore X0.here hx rfl (hb hby at_29) rfl (l' := #[.val (.long q0), .second, .val (.int p1), .val (.int (v0_3 q0 p1)), .val (.double (v0_6 q0 p1)), .second, .val (.int (j0_11_s0 q0 p1)), .unset]) rfl ?_
    show Steps p.tables e below (s₁.setTop (mkF m 31 #[.val (.long q0), .second, .val (.int p1), .val (.int (v0_3 q0 p1)), .val (.double (v0_6 q0 p1)), .second, .val (.int (j0_11_s0 q0 p1)), .unset] [])) _
    refine XS.iloadN X0.here hx rfl (hb hby at_31) rfl ?_
    show Steps p.tables e below (s₁.setTop (mkF m 32 #[.val (.long q0), .second, .val (.int p1), .val (.int (v0_3 q0 p1)), .val (.double (v0_6 q0 p1)), .second, .val (.int (j0_11_s0 q0 p1)), .unset] [(.int (v0_3 q0 p1))])) _
    refine XS.iconst X0.here hx rfl (hb hby at_32) ?_
    show Steps p.tables e below (s₁.setTop (mkF m 33 #[.val (.long q0), .second, .val (.int p1), .val (.int (v0_3 q0 p1)), .val (.double (v0_6 q0 p1)), .second, .val (.int (j0_11_s0 q0 p1)), .unset] [(.int (1 : Int32)), (.int (v0_3 q0 p1))])) _
    suffices kt33 : Steps p.tables e below (s₁.setTop (mkF m 78 #[.val (.long q0), .second, .val (.int p1), .val (.int (v0_3 q0 p1)), .val (.double (j0_33_l4 q0 p1)), .second, .val (.int (j0_33_l6 q0 p1)), .unset] [])) (T2.setFrames fs) by
      by_cases hc33 : if_icmp.holds .ne (v0_3 q0 p1) (1 : Int32) = true
      · rw [show (j0_33_l4 q0 p1) = (j0_49_l4 q0 p1) from if_pos hc33] at kt33
        rw [show (j0_33_l6 q0 p1) = (j0_49_l6 q0 p1) from if_pos hc33] at kt33
        refine XS.icmpYes X0.here hx rfl (pc0 := 33) (pc' := 47) rfl (hb hby at_33) rfl hc33 (by decide) (by decide) ?_
        show Steps p.tables e below (s₁.setTop (mkF m 47 #[.val (.long q0), .second, .val (.int p1), .val (.int (v0_3 q0 p1)), .val (.double (v0_6 q0 p1)), .second, .val (.int (j0_11_s0 q0 p1)), .unset] [])) _
        refine XS.iloadN X0.here hx rfl (hb hby at_47) rfl ?_
        show Steps p.tables e below (s₁.setTop (mkF m 48 #[.val (.long q0), .second, .val (.int p1), .val (.int (v0_3 q0 p1)), .val (.double (v0_6 q0 p1)), .second, .val (.int (j0_11_s0 q0 p1)), .unset] [(.int (v0_3 q0 p1))])) _
        refine XS.iconst X0.here hx rfl (hb hby at_48) ?_
        show Steps p.tables e below (s₁.setTop (mkF m 49 #[.val (.long q0), .second, .val (.int p1), .val (.int (v0_3 q0 p1)), .val (.double (v0_6 q0 p1)), .second, .val (.int (j0_11_s0 q0 p1)), .unset] [(.int (2 : Int32)), (.int (v0_3 q0 p1))])) _
        suffices kt49 : Steps p.tables e below (s₁.setTop (mkF m 78 #[.val (.long q0), .second, .val (.int p1), .val (.int (v0_3 q0 p1)), .val (.double (j0_49_l4 q0 p1)), .second, .val (.int (j0_49_l6 q0 p1)), .unset] [])) (T2.setFrames fs) by
          by_cases hc49 : if_icmp.holds .ne (v0_3 q0 p1) (2 : Int32) = true
          · rw [show (j0_49_l4 q0 p1) = (j0_67_l4 q0 p1) from if_pos hc49] at kt49
            rw [show (j0_49_l6 q0 p1) = (j0_11_s0 q0 p1) from if_pos hc49] at kt49
            refine XS.icmpYes X0.here hx rfl (pc0 := 49) (pc' := 65) rfl (hb hby at_49) rfl hc49 (by decide) (by decide) ?_
            show Steps p.tables e below (s₁.setTop (mkF m 65 #[.val (.long q0), .second, .val (.int p1), .val (.int (v0_3 q0 p1)), .val (.double (v0_6 q0 p1)), .second, .val (.int (j0_11_s0 q0 p1)), .unset] [])) _
            refine XS.iloadN X0.here hx rfl (hb hby at_65) rfl ?_
            show Steps p.tables e below (s₁.setTop (mkF m 66 #[.val (.long q0), .second, .val (.int p1), .val (.int (v0_3 q0 p1)), .val (.double (v0_6 q0 p1)), .second, .val (.int (j0_11_s0 q0 p1)), .unset] [(.int (v0_3 q0 p1))])) _
            refine XS.iconst X0.here hx rfl (hb hby at_66) ?_
            show Steps p.tables e below (s₁.setTop (mkF m 67 #[.val (.long q0), .second, .val (.int p1), .val (.int (v0_3 q0 p1)), .val (.double (v0_6 q0 p1)), .second, .val (.int (j0_11_s0 q0 p1)), .unset] [(.int (3 : Int32)), (.int (v0_3 q0 p1))])) _
            suffices kt67 : Steps p.tables e below (s₁.setTop (mkF m 78 #[.val (.long q0), .second, .val (.int p1), .val (.int (v0_3 q0 p1)), .val (.double (j0_67_l4 q0 p1)), .second, .val (.int (j0_11_s0 q0 p1)), .unset] [])) (T2.setFrames fs) by
              by_cases hc67 : if_icmp.holds .ne (v0_3 q0 p1) (3 : Int32) = true
              · rw [show (j0_67_l4 q0 p1) = (v0_6 q0 p1) from if_pos hc67] at kt67
                refine XS.icmpYes X0.here hx rfl (pc0 := 67) (pc' := 78) rfl (hb hby at_67) rfl hc67 (by decide) (by decide) ?_
                exact kt67
              · rw [show (j0_67_l4 q0 p1) = (FP.dmul (v0_6 q0 p1) (9094988921128908188 : UInt64)) from if_neg hc67] at kt67
                refine XS.icmpNo X0.here hx rfl (hb hby at_67) rfl (eq_false_of_ne_true hc67) ?_
                show Steps p.tables e below (s₁.setTop (mkF m 70 #[.val (.long q0), .second, .val (.int p1), .val (.int (v0_3 q0 p1)), .val (.double (v0_6 q0 p1)), .second, .val (.int (j0_11_s0 q0 p1)), .unset] [])) _
                refine XS.dload X0.here hx rfl (hb hby at_70) rfl ?_
                show Steps p.tables e below (s₁.setTop (mkF m 72 #[.val (.long q0), .second, .val (.int p1), .val (.int (v0_3 q0 p1)), .val (.double (v0_6 q0 p1)), .second, .val (.int (j0_11_s0 q0 p1)), .unset] [(.double (v0_6 q0 p1))])) _
                refine X0.ldc2DoubleC hx hown (mvT hZ (hw _ (List.mem_of_getElem? (i := 7) rfl))) (g := (mkF m 72 #[.val (.long q0), .second, .val (.int p1), .val (.int (v0_3 q0 p1)), .val (.double (v0_6 q0 p1)), .second, .val (.int (j0_11_s0 q0 p1)), .unset] [(.double (v0_6 q0 p1))])) rfl (hb hby at_72) _ ?_
                show Steps p.tables e below (s₁.setTop (mkF m 75 #[.val (.long q0), .second, .val (.int p1), .val (.int (v0_3 q0 p1)), .val (.double (v0_6 q0 p1)), .second, .val (.int (j0_11_s0 q0 p1)), .unset] [(.double (9094988921128908188 : UInt64)), (.double (v0_6 q0 p1))])) _
                refine XS.dmulS X0.here hx rfl (hb hby at_75) rfl hn75 rfl ?_
                show Steps p.tables e below (s₁.setTop (mkF m 76 #[.val (.long q0), .second, .val (.int p1), .val (.int (v0_3 q0 p1)), .val (.double (v0_6 q0 p1)), .second, .val (.int (j0_11_s0 q0 p1)), .unset] [(.double (FP.dmul (v0_6 q0 p1) (9094988921128908188 : UInt64)))])) _
                refine XS.dstore X0.here hx rfl (hb hby at_76) rfl (l' := #[.val (.long q0), .second, .val (.int p1), .val (.int (v0_3 q0 p1)), .val (.double (FP.dmul (v0_6 q0 p1) (9094988921128908188 : UInt64))), .second, .val (.int (j0_11_s0 q0 p1)), .unset]) rfl ?_
                exact kt67
            exact kt49
          · rw [show (j0_49_l4 q0 p1) = (FP.dneg (v0_6 q0 p1)) from if_neg hc49] at kt49
            rw [show (j0_49_l6 q0 p1) = (-(j0_11_s0 q0 p1)) from if_neg hc49] at kt49
            refine XS.icmpNo X0.here hx rfl (hb hby at_49) rfl (eq_false_of_ne_true hc49) ?_
            show Steps p.tables e below (s₁.setTop (mkF m 52 #[.val (.long q0), .second, .val (.int p1), .val (.int (v0_3 q0 p1)), .val (.double (v0_6 q0 p1)), .second, .val (.int (j0_11_s0 q0 p1)), .unset] [])) _
            refine XS.dload X0.here hx rfl (hb hby at_52) rfl ?_
            show Steps p.tables e below (s₁.setTop (mkF m 54 #[.val (.long q0), .second, .val (.int p1), .val (.int (v0_3 q0 p1)), .val (.double (v0_6 q0 p1)), .second, .val (.int (j0_11_s0 q0 p1)), .unset] [(.double (v0_6 q0 p1))])) _
            refine XS.dnegS X0.here hx rfl (hb hby at_54) rfl rfl ?_
            show Steps p.tables e below (s₁.setTop (mkF m 55 #[.val (.long q0), .second, .val (.int p1), .val (.int (v0_3 q0 p1)), .val (.double (v0_6 q0 p1)), .second, .val (.int (j0_11_s0 q0 p1)), .unset] [(.double (FP.dneg (v0_6 q0 p1)))])) _
            refine XS.dstore X0.here hx rfl (hb hby at_55) rfl (l' := #[.val (.long q0), .second, .val (.int p1), .val (.int (v0_3 q0 p1)), .val (.double (FP.dneg (v0_6 q0 p1))), .second, .val (.int (j0_11_s0 q0 p1)), .unset]) rfl ?_
            show Steps p.tables e below (s₁.setTop (mkF m 57 #[.val (.long q0), .second, .val (.int p1), .val (.int (v0_3 q0 p1)), .val (.double (FP.dneg (v0_6 q0 p1))), .second, .val (.int (j0_11_s0 q0 p1)), .unset] [])) _
            refine XS.iload X0.here hx rfl (hb hby at_57) rfl ?_
            show Steps p.tables e below (s₁.setTop (mkF m 59 #[.val (.long q0), .second, .val (.int p1), .val (.int (v0_3 q0 p1)), .val (.double (FP.dneg (v0_6 q0 p1))), .second, .val (.int (j0_11_s0 q0 p1)), .unset] [(.int (j0_11_s0 q0 p1))])) _
            refine XS.ineg X0.here hx rfl (hb hby at_59) rfl ?_
            show Steps p.tables e below (s₁.setTop (mkF m 60 #[.val (.long q0), .second, .val (.int p1), .val (.int (v0_3 q0 p1)), .val (.double (FP.dneg (v0_6 q0 p1))), .second, .val (.int (j0_11_s0 q0 p1)), .unset] [(.int (-(j0_11_s0 q0 p1)))])) _
            refine XS.istore X0.here hx rfl (hb hby at_60) rfl (l' := #[.val (.long q0), .second, .val (.int p1), .val (.int (v0_3 q0 p1)), .val (.double (FP.dneg (v0_6 q0 p1))), .second, .val (.int (-(j0_11_s0 q0 p1))), .unset]) rfl ?_
            show Steps p.tables e below (s₁.setTop (mkF m 62 #[.val (.long q0), .second, .val (.int p1), .val (.int (v0_3 q0 p1)), .val (.double (FP.dneg (v0_6 q0 p1))), .second, .val (.int (-(j0_11_s0 q0 p1))), .unset] [])) _
            refine XS.goto X0.here hx rfl (pc0 := 62) (pc' := 78) rfl (hb hby at_62) (by decide) (by decide) ?_
            exact kt49
        exact kt33
      · rw [show (j0_33_l4 q0 p1) = (FP.ddiv (v0_6 q0 p1) (4652218415073722368 : UInt64)) from if_neg hc33] at kt33
        rw [show (j0_33_l6 q0 p1) = (j0_11_s0 q0 p1) from if_neg hc33] at kt33
        refine XS.icmpNo X0.here hx rfl (hb hby at_33) rfl (eq_false_of_ne_true hc33) ?_
        show Steps p.tables e below (s₁.setTop (mkF m 36 #[.val (.long q0), .second, .val (.int p1), .val (.int (v0_3 q0 p1)), .val (.double (v0_6 q0 p1)), .second, .val (.int (j0_11_s0 q0 p1)), .unset] [])) _
        refine XS.dload X0.here hx rfl (hb hby at_36) rfl ?_
        show Steps p.tables e below (s₁.setTop (mkF m 38 #[.val (.long q0), .second, .val (.int p1), .val (.int (v0_3 q0 p1)), .val (.double (v0_6 q0 p1)), .second, .val (.int (j0_11_s0 q0 p1)), .unset] [(.double (v0_6 q0 p1))])) _
        refine X0.ldc2DoubleC hx hown (mvT hZ (hw _ (List.mem_of_getElem? (i := 14) rfl))) (g := (mkF m 38 #[.val (.long q0), .second, .val (.int p1), .val (.int (v0_3 q0 p1)), .val (.double (v0_6 q0 p1)), .second, .val (.int (j0_11_s0 q0 p1)), .unset] [(.double (v0_6 q0 p1))])) rfl (hb hby at_38) _ ?_
        show Steps p.tables e below (s₁.setTop (mkF m 41 #[.val (.long q0), .second, .val (.int p1), .val (.int (v0_3 q0 p1)), .val (.double (v0_6 q0 p1)), .second, .val (.int (j0_11_s0 q0 p1)), .unset] [(.double (4652218415073722368 : UInt64)), (.double (v0_6 q0 p1))])) _
        refine XS.ddivS X0.here hx rfl (hb hby at_41) rfl hn41 rfl ?_
        show Steps p.tables e below (s₁.setTop (mkF m 42 #[.val (.long q0), .second, .val (.int p1), .val (.int (v0_3 q0 p1)), .val (.double (v0_6 q0 p1)), .second, .val (.int (j0_11_s0 q0 p1)), .unset] [(.double (FP.ddiv (v0_6 q0 p1) (4652218415073722368 : UInt64)))])) _
        refine XS.dstore X0.here hx rfl (hb hby at_42) rfl (l' := #[.val (.long q0), .second, .val (.int p1), .val (.int (v0_3 q0 p1)), .val (.double (FP.ddiv (v0_6 q0 p1) (4652218415073722368 : UInt64))), .second, .val (.int (j0_11_s0 q0 p1)), .unset]) rfl ?_
        show Steps p.tables e below (s₁.setTop (mkF m 44 #[.val (.long q0), .second, .val (.int p1), .val (.int (v0_3 q0 p1)), .val (.double (FP.ddiv (v0_6 q0 p1) (4652218415073722368 : UInt64))), .second, .val (.int (j0_11_s0 q0 p1)), .unset] [])) _
        refine XS.goto X0.here hx rfl (pc0 := 44) (pc' := 78) rfl (hb hby at_44) (by decide) (by decide) ?_
        exact kt33
    show Steps p.tables e below (s₁.setTop (mkF m 78 #[.val (.long q0), .second, .val (.int p1), .val (.int (v0_3 q0 p1)), .val (.double (j0_33_l4 q0 p1)), .second, .val (.int (j0_33_l6 q0 p1)), .unset] [])) _
    refine XS.iload X0.here hx rfl (hb hby at_78) rfl ?_
    show Steps p.tables e below (s₁.setTop (mkF m 80 #[.val (.long q0), .second, .val (.int p1), .val (.int (v0_3 q0 p1)), .val (.double (j0_33_l4 q0 p1)), .second, .val (.int (j0_33_l6 q0 p1)), .unset] [(.int (j0_33_l6 q0 p1))])) _
    refine XS.ifNo X0.here hx rfl (hb hby at_80) rfl hc80 ?_
    show Steps p.tables e below (s₁.setTop (mkF m 83 #[.val (.long q0), .second, .val (.int p1), .val (.int (v0_3 q0 p1)), .val (.double (j0_33_l4 q0 p1)), .second, .val (.int (j0_33_l6 q0 p1)), .unset] [])) _
    refine st1 _ ?_
    show Steps p.tables e below (T1.setTop (mkF m 86 #[.val (.long q0), .second, .val (.int p1), .val (.int (v0_3 q0 p1)), .val (.double (j0_33_l4 q0 p1)), .second, .val (.int (j0_33_l6 q0 p1)), .unset] [w_SATISFIED])) _
    refine XS.astore X1.here hx rfl (hb hby at_86) rfl r_w_SATISFIED (l' := #[.val (.long q0), .second, .val (.int p1), .val (.int (v0_3 q0 p1)), .val (.double (j0_33_l4 q0 p1)), .second, .val (.int (j0_33_l6 q0 p1)), .val w_SATISFIED]) ((storeLocals_cat1 (i := 7) rfl (Jvm.OwnFP.cat1R r_w_SATISFIED) (by first | trivial | rfl)).trans rfl) ?_
    show Steps p.tables e below (T1.setTop (mkF m 88 #[.val (.long q0), .second, .val (.int p1), .val (.int (v0_3 q0 p1)), .val (.double (j0_33_l4 q0 p1)), .second, .val (.int (j0_33_l6 q0 p1)), .val w_SATISFIED] [])) _
    refine XS.goto X1.here hx rfl (pc0 := 88) (pc' := 109) rfl (hb hby at_88) (by decide) (by decide) ?_
    show Steps p.tables e below (T1.setTop (mkF m 109 #[.val (.long q0), .second, .val (.int p1), .val (.int (v0_3 q0 p1)), .val (.double (j0_33_l4 q0 p1)), .second, .val (.int (j0_33_l6 q0 p1)), .val w_SATISFIED] [])) _
    refine XS.dload X1.here hx rfl (hb hby at_109) rfl ?_
    show Steps p.tables e below (T1.setTop (mkF m 111 #[.val (.long q0), .second, .val (.int p1), .val (.int (v0_3 q0 p1)), .val (.double (j0_33_l4 q0 p1)), .second, .val (.int (j0_33_l6 q0 p1)), .val w_SATISFIED] [(.double (j0_33_l4 q0 p1))])) _
    refine st2 _ ?_
    show Steps p.tables e below (T2.setTop (mkF m 114 #[.val (.long q0), .second, .val (.int p1), .val (.int (v0_3 q0 p1)), .val (.double (j0_33_l4 q0 p1)), .second, .val (.int (j0_33_l6 q0 p1)), .val w_SATISFIED] [w_SATISFIED])) _
    refine XS.aload X2.here hx rfl (hb hby at_114) rfl r_w_SATISFIED ?_
    show Steps p.tables e below (T2.setTop (mkF m 116 #[.val (.long q0), .second, .val (.int p1), .val (.int (v0_3 q0 p1)), .val (.double (j0_33_l4 q0 p1)), .second, .val (.int (j0_33_l6 q0 p1)), .val w_SATISFIED] [w_SATISFIED, w_SATISFIED])) _
    refine Jvm.RoadKit.acmp (g := (mkF m 116 #[.val (.long q0), .second, .val (.int p1), .val (.int (v0_3 q0 p1)), .val (.double (j0_33_l4 q0 p1)), .second, .val (.int (j0_33_l6 q0 p1)), .val w_SATISFIED] [w_SATISFIED, w_SATISFIED])) X2 hx rfl r_w_SATISFIED r_w_SATISFIED (pc0 := 116) (pc' := 119) (same := true) rfl (hb hby at_116) rfl (decide_eq_true rfl) (by decide) (by decide) ?_
    show Steps p.tables e below (T2.setTop (mkF m 119 #[.val (.long q0), .second, .val (.int p1), .val (.int (v0_3 q0 p1)), .val (.double (j0_33_l4 q0 p1)), .second, .val (.int (j0_33_l6 q0 p1)), .val w_SATISFIED] [])) _
    refine XS.iconst X2.here hx rfl (hb hby at_119) ?_
    show Steps p.tables e below (T2.setTop (mkF m 120 #[.val (.long q0), .second, .val (.int p1), .val (.int (v0_3 q0 p1)), .val (.double (j0_33_l4 q0 p1)), .second, .val (.int (j0_33_l6 q0 p1)), .val w_SATISFIED] [(.int (1 : Int32))])) _
    refine XS.goto X2.here hx rfl (pc0 := 120) (pc' := 124) rfl (hb hby at_120) (by decide) (by decide) ?_
    show Steps p.tables e below (T2.setTop (mkF m 124 #[.val (.long q0), .second, .val (.int p1), .val (.int (v0_3 q0 p1)), .val (.double (j0_33_l4 q0 p1)), .second, .val (.int (j0_33_l6 q0 p1)), .val w_SATISFIED] [(.int (1 : Int32))])) _
    exact retN X2 hx (t := .boolean) Bd.returns (by simp) (hb hby at_124) hr
  · show Q0s Z q0 p1 w_SATISFIED h0 n0 _ T2.heap _
    exact ⟨rfl, N2⟩
theorem ef_0v (m : MethodId) (q0 : Int64) (p1 : Int32) : entryFrame m #[(.long q0), (.int p1)] maxLocals = mkF m 0 #[.val (.long q0), .second, .val (.int p1), .unset, .unset, .unset, .unset, .unset] [] := by first | (simp [entryFrame, mkF, argsToLocals, Value.category, maxLocals]; done) | rfl
def Q0v (Z : State) (q0 : Int64) (p1 : Int32) (w_VIOLATED : Value) (h0 : Heap) (n0 : Nat) (v : Option Value) (h : Heap) (L : List Loc) : Prop := v = some (.int (1 : Int32)) ∧ Fr n0 L
set_option maxRecDepth 65536 in
set_option maxHeartbeats 40000000 in
theorem rm0v (l : Launch) (Z : State) (aw : Array Value) (hw : ∀ d ∈ tables_1, d.before aw Z = true) (ws : List Jvm.Cond) (q0 : Int64) (p1 : Int32) (w_VIOLATED : Value) (h0 : Heap) (n0 : Nat) (Z0 : n0 ≤ h0.size) (hn75 : Jvm.Free.Fl.NoNaN64 (FP.dmul (v0_6 q0 p1) (9094988921128908188 : UInt64))) (hn41 : Jvm.Free.Fl.NoNaN64 (FP.ddiv (v0_6 q0 p1) (4652218415073722368 : UInt64))) (hc80 : ifCond.holds .le (j0_33_l6 q0 p1) = true) (hc93 : ifCond.holds .ge (j0_33_l6 q0 p1) = false) (F_VIOLATED_st : Sta Z h0 "com/example/mutaprop/mutaprop/stl/Verdict" "VIOLATED" "Lcom/example/mutaprop/mutaprop/stl/Verdict;" w_VIOLATED) (r_w_VIOLATED : w_VIOLATED.isRef = true) (hc3_111 : ifCond.holds .le (cmpValue (FP.dcmp (j0_33_l4 q0 p1) FP.dconst0) .l) = true) (hc13_111 : ifCond.holds .ge (cmpValue (FP.dcmp (j0_33_l4 q0 p1) FP.dconst0) .g) = false) :
    MetFree l x (head1 (Jvm.Cond.code x code maxLocals ret :: ws) room_1) (fun a U => a = #[(.long q0), (.int p1)] ∧ Z.Warmed39 U.vm ∧ U.heap = h0) (fun _ _ _ _ _ => True) (fun _ U o U' => ∃ v L, o = .returned v ∧ Q0v Z q0 p1 w_VIOLATED h0 n0 v U'.heap L ∧ FrameEnd U o U' L 0 0) := by
  refine MetFree.of_bodySF (plainFor_of_name pn_0) hisR ?_
  intro p e s m args below meth c s₁ Bd hml0 hP hK
  obtain ⟨rfl, hZ, hh⟩ := hP
  have hx := Bd.exec
  have hby := Bd.bytes
  have hml : c.maxLocals = 8 := hml0
  have hown : s.vm.findClass "com/example/mutaprop/mutaprop/stl/VerdictOfPinLaw" = some m.cls := findClass_of_methodNamed Bd.named
  have hnm := (name_of_methodNamed Bd.named Bd.method).1
  have X0 : Stand p l e room_1 s m #[(.long q0), (.int p1)] below meth c s₁ [] 0 0 := Stand.of_body Bd
  have e0 : s₁.heap = h0 := by rw [← hh, Bd.state]; rfl
  have N0 := Fr.nil n0
  have pre0 : ∀ t, Steps p.tables e below (s₁.setTop (mkF m 0 #[.val (.long q0), .second, .val (.int p1), .unset, .unset, .unset, .unset, .unset] [])) t → Steps p.tables e below (s₁.setTop (entryFrame m #[(.long q0), (.int p1)] maxLocals)) t := fun t k => castTop (ef_0v m q0 p1) k
  obtain ⟨T1, X1, e1, st1⟩ := getS2 X0 hx hZ hown (host := "") (Or.inl (hw _ (List.mem_of_getElem? (i := 0) rfl))) Via.refl e0 F_VIOLATED_st (g := (mkF m 96 #[.val (.long q0), .second, .val (.int p1), .val (.int (v0_3 q0 p1)), .val (.double (j0_33_l4 q0 p1)), .second, .val (.int (j0_33_l6 q0 p1)), .unset] [])) rfl (hb hby at_96)
  obtain ⟨_, _, ⟨T2, L2, k2, n2⟩, -, X2, ⟨Lc2, hQ2, l2, y2, z2'⟩, st2⟩ := Jvm.LawKit.callS X1 hx (y := (⟨"com/example/mutaprop/mutaprop/stl/Verdict", "of", "(D)Lcom/example/mutaprop/mutaprop/stl/Verdict;"⟩ : MethodName)) hown (mvT hZ (hw _ (List.mem_of_getElem? (i := 3) rfl))) (mvT hZ (hw _ (List.mem_of_getElem? (i := 4) rfl))) (mvT hZ (hw _ (List.mem_of_getElem? (i := 1) rfl))) (mvT hZ (hw _ (List.mem_of_getElem? (i := 5) rfl))) (by decide) (backOf (W := 0) (rm1v l Z aw hw [] (j0_33_l4 q0 p1) w_VIOLATED h0 n0 Z0 hc3_111 hc13_111 F_VIOLATED_st r_w_VIOLATED) hZ (hw _ (List.mem_of_getElem? (i := 5) rfl)) (hw _ (List.mem_of_getElem? (i := 1) rfl)) (by decide) (by decide)) (g := (mkF m 111 #[.val (.long q0), .second, .val (.int p1), .val (.int (v0_3 q0 p1)), .val (.double (j0_33_l4 q0 p1)), .second, .val (.int (j0_33_l6 q0 p1)), .val w_VIOLATED] [(.double (j0_33_l4 q0 p1))])) rfl (by rw [hml]; rfl) (argsL := [(.double (j0_33_l4 q0 p1))]) (rest := []) (lenOf pd_0 rfl) rfl (by show 2 * 0 + _ ≤ _; exact Nat.le_of_eq rfl) (hb hby at_111) (fun _ _ => ⟨rfl, e1, (by decide : 0 + 0 ≤ _), (by decide : 0 + 0 ≤ _)⟩)
  dsimp only [Pt.U, Pt.locs, Pt.cells, Pt.slots] at X2 l2 y2 z2' st2 hQ2
  subst l2 y2 z2'
  obtain ⟨rfl, N2q, hq2⟩ := hQ2
  have f2_0 : Sta Z T2.heap "com/example/mutaprop/mutaprop/stl/Verdict" "VIOLATED" "Lcom/example/mutaprop/mutaprop/stl/Verdict;" w_VIOLATED := by rw [hq2]; exact F_VIOLATED_st
  have z2 : n0 ≤ T2.heap.size := by rw [hq2]; exact Z0
  have N2 := Fr.app N0 N2q
  obtain ⟨fs, hr, hrun, hended, hW, hsame⟩ := X2.leave (v := some (.int (1 : Int32))) (fun h => by rw [Bd.returns] at h; cases h)
  refine ⟨_, _, pre0 _ ?_, hrun, hended, _, _, rfl, ?_, ⟨_, rfl⟩, hW, hsame.mono (by decide) (by decide)⟩
  · show Steps p.tables e below (s₁.setTop (mkF m 0 #[.val (.long q0), .second, .val (.int p1), .unset, .unset, .unset, .unset, .unset] [])) _
    refine XS.iloadN X0.here hx rfl (hb hby at_0) rfl ?_
    show Steps p.tables e below (s₁.setTop (mkF m 1 #[.val (.long q0), .second, .val (.int p1), .unset, .unset, .unset, .unset, .unset] [(.int p1)])) _
    refine XS.iconst X0.here hx rfl (hb hby at_1) ?_
    show Steps p.tables e below (s₁.setTop (mkF m 2 #[.val (.long q0), .second, .val (.int p1), .unset, .unset, .unset, .unset, .unset] [(.int (3 : Int32)), (.int p1)])) _
    refine XS.iand X0.here hx rfl (hb hby at_2) rfl ?_
    show Steps p.tables e below (s₁.setTop (mkF m 3 #[.val (.long q0), .second, .val (.int p1), .unset, .unset, .unset, .unset, .unset] [(.int (p1 &&& (3 : Int32)))])) _
    refine XS.istoreN X0.here hx rfl (hb hby at_3) rfl (l' := #[.val (.long q0), .second, .val (.int p1), .val (.int (v0_3 q0 p1)), .unset, .unset, .unset, .unset]) rfl ?_
    show Steps p.tables e below (s₁.setTop (mkF m 4 #[.val (.long q0), .second, .val (.int p1), .val (.int (v0_3 q0 p1)), .unset, .unset, .unset, .unset] [])) _
    refine XS.lloadN X0.here hx rfl (hb hby at_4) rfl ?_
    show Steps p.tables e below (s₁.setTop (mkF m 5 #[.val (.long q0), .second, .val (.int p1), .val (.int (v0_3 q0 p1)), .unset, .unset, .unset, .unset] [(.long q0)])) _
    refine XS.l2dS X0.here hx rfl (hb hby at_5) rfl rfl ?_
    show Steps p.tables e below (s₁.setTop (mkF m 6 #[.val (.long q0), .second, .val (.int p1), .val (.int (v0_3 q0 p1)), .unset, .unset, .unset, .unset] [(.double (FP.l2d q0))])) _
    refine XS.dstore X0.here hx rfl (hb hby at_6) rfl (l' := #[.val (.long q0), .second, .val (.int p1), .val (.int (v0_3 q0 p1)), .val (.double (v0_6 q0 p1)), .second, .unset, .unset]) rfl ?_
    show Steps p.tables e below (s₁.setTop (mkF m 8 #[.val (.long q0), .second, .val (.int p1), .val (.int (v0_3 q0 p1)), .val (.double (v0_6 q0 p1)), .second, .unset, .unset] [])) _
    refine XS.lloadN X0.here hx rfl (hb hby at_8) rfl ?_
    show Steps p.tables e below (s₁.setTop (mkF m 9 #[.val (.long q0), .second, .val (.int p1), .val (.int (v0_3 q0 p1)), .val (.double (v0_6 q0 p1)), .second, .unset, .unset] [(.long q0)])) _
    refine XS.lconst X0.here hx rfl (hb hby at_9) ?_
    show Steps p.tables e below (s₁.setTop (mkF m 10 #[.val (.long q0), .second, .val (.int p1), .val (.int (v0_3 q0 p1)), .val (.double (v0_6 q0 p1)), .second, .unset, .unset] [(.long (0 : Int64)), (.long q0)])) _
    refine XS.lcmp X0.here hx rfl (hb hby at_10) rfl ?_
    show Steps p.tables e below (s₁.setTop (mkF m 11 #[.val (.long q0), .second, .val (.int p1), .val (.int (v0_3 q0 p1)), .val (.double (v0_6 q0 p1)), .second, .unset, .unset] [(.int (lcmpW q0 (0 : Int64)))])) _
    suffices kt11 : Steps p.tables e below (s₁.setTop (mkF m 29 #[.val (.long q0), .second, .val (.int p1), .val (.int (v0_3 q0 p1)), .val (.double (v0_6 q0 p1)), .second, .unset, .unset] [(.int (j0_11_s0 q0 p1))])) (T2.setFrames fs) by
      by_cases hc11 : ifCond.holds .le (lcmpW q0 (0 : Int64)) = true
      · rw [show (j0_11_s0 q0 p1) = (j0_21_s0 q0 p1) from if_pos hc11] at kt11
        refine XS.ifYes X0.here hx rfl (pc0 := 11) (pc' := 18) rfl (hb hby at_11) rfl hc11 (by decide) (by decide) ?_
        show Steps p.tables e below (s₁.setTop (mkF m 18 #[.val (.long q0), .second, .val (.int p1), .val (.int (v0_3 q0 p1)), .val (.double (v0_6 q0 p1)), .second, .unset, .unset] [])) _
        refine XS.lloadN X0.here hx rfl (hb hby at_18) rfl ?_
        show Steps p.tables e below (s₁.setTop (mkF m 19 #[.val (.long q0), .second, .val (.int p1), .val (.int (v0_3 q0 p1)), .val (.double (v0_6 q0 p1)), .second, .unset, .unset] [(.long q0)])) _
        refine XS.lconst X0.here hx rfl (hb hby at_19) ?_
        show Steps p.tables e below (s₁.setTop (mkF m 20 #[.val (.long q0), .second, .val (.int p1), .val (.int (v0_3 q0 p1)), .val (.double (v0_6 q0 p1)), .second, .unset, .unset] [(.long (0 : Int64)), (.long q0)])) _
        refine XS.lcmp X0.here hx rfl (hb hby at_20) rfl ?_
        show Steps p.tables e below (s₁.setTop (mkF m 21 #[.val (.long q0), .second, .val (.int p1), .val (.int (v0_3 q0 p1)), .val (.double (v0_6 q0 p1)), .second, .unset, .unset] [(.int (lcmpW q0 (0 : Int64)))])) _
        suffices kt21 : Steps p.tables e below (s₁.setTop (mkF m 29 #[.val (.long q0), .second, .val (.int p1), .val (.int (v0_3 q0 p1)), .val (.double (v0_6 q0 p1)), .second, .unset, .unset] [(.int (j0_21_s0 q0 p1))])) (T2.setFrames fs) by
          by_cases hc21 : ifCond.holds .ge (lcmpW q0 (0 : Int64)) = true
          · rw [show (j0_21_s0 q0 p1) = (0 : Int32) from if_pos hc21] at kt21
            refine XS.ifYes X0.here hx rfl (pc0 := 21) (pc' := 28) rfl (hb hby at_21) rfl hc21 (by decide) (by decide) ?_
            show Steps p.tables e below (s₁.setTop (mkF m 28 #[.val (.long q0), .second, .val (.int p1), .val (.int (v0_3 q0 p1)), .val (.double (v0_6 q0 p1)), .second, .unset, .unset] [])) _
            refine XS.iconst X0.here hx rfl (hb hby at_28) ?_
            exact kt21
          · rw [show (j0_21_s0 q0 p1) = (-1 : Int32) from if_neg hc21] at kt21
            refine XS.ifNo X0.here hx rfl (hb hby at_21) rfl (eq_false_of_ne_true hc21) ?_
            show Steps p.tables e below (s₁.setTop (mkF m 24 #[.val (.long q0), .second, .val (.int p1), .val (.int (v0_3 q0 p1)), .val (.double (v0_6 q0 p1)), .second, .unset, .unset] [])) _
            refine XS.iconst X0.here hx rfl (hb hby at_24) ?_
            show Steps p.tables e below (s₁.setTop (mkF m 25 #[.val (.long q0), .second, .val (.int p1), .val (.int (v0_3 q0 p1)), .val (.double (v0_6 q0 p1)), .second, .unset, .unset] [(.int (-1 : Int32))])) _
            refine XS.goto X0.here hx rfl (pc0 := 25) (pc' := 29) rfl (hb hby at_25) (by decide) (by decide) ?_
            exact kt21
        exact kt11
      · rw [show (j0_11_s0 q0 p1) = (1 : Int32) from if_neg hc11] at kt11
        refine XS.ifNo X0.here hx rfl (hb hby at_11) rfl (eq_false_of_ne_true hc11) ?_
        show Steps p.tables e below (s₁.setTop (mkF m 14 #[.val (.long q0), .second, .val (.int p1), .val (.int (v0_3 q0 p1)), .val (.double (v0_6 q0 p1)), .second, .unset, .unset] [])) _
        refine XS.iconst X0.here hx rfl (hb hby at_14) ?_
        show Steps p.tables e below (s₁.setTop (mkF m 15 #[.val (.long q0), .second, .val (.int p1), .val (.int (v0_3 q0 p1)), .val (.double (v0_6 q0 p1)), .second, .unset, .unset] [(.int (1 : Int32))])) _
        refine XS.goto X0.here hx rfl (pc0 := 15) (pc' := 29) rfl (hb hby at_15) (by decide) (by decide) ?_
        exact kt11
    show Steps p.tables e below (s₁.setTop (mkF m 29 #[.val (.long q0), .second, .val (.int p1), .val (.int (v0_3 q0 p1)), .val (.double (v0_6 q0 p1)), .second, .unset, .unset] [(.int (j0_11_s0 q0 p1))])) _
    refine XS.istore X0.here hx rfl (hb hby at_29) rfl (l' := #[.val (.long q0), .second, .val (.int p1), .val (.int (v0_3 q0 p1)), .val (.double (v0_6 q0 p1)), .second, .val (.int (j0_11_s0 q0 p1)), .unset]) rfl ?_
    show Steps p.tables e below (s₁.setTop (mkF m 31 #[.val (.long q0), .second, .val (.int p1), .val (.int (v0_3 q0 p1)), .val (.double (v0_6 q0 p1)), .second, .val (.int (j0_11_s0 q0 p1)), .unset] [])) _
    refine XS.iloadN X0.here hx rfl (hb hby at_31) rfl ?_
    show Steps p.tables e below (s₁.setTop (mkF m 32 #[.val (.long q0), .second, .val (.int p1), .val (.int (v0_3 q0 p1)), .val (.double (v0_6 q0 p1)), .second, .val (.int (j0_11_s0 q0 p1)), .unset] [(.int (v0_3 q0 p1))])) _
    refine XS.iconst X0.here hx rfl (hb hby at_32) ?_
    show Steps p.tables e below (s₁.setTop (mkF m 33 #[.val (.long q0), .second, .val (.int p1), .val (.int (v0_3 q0 p1)), .val (.double (v0_6 q0 p1)), .second, .val (.int (j0_11_s0 q0 p1)), .unset] [(.int (1 : Int32)), (.int (v0_3 q0 p1))])) _
    suffices kt33 : Steps p.tables e below (s₁.setTop (mkF m 78 #[.val (.long q0), .second, .val (.int p1), .val (.int (v0_3 q0 p1)), .val (.double (j0_33_l4 q0 p1)), .second, .val (.int (j0_33_l6 q0 p1)), .unset] [])) (T2.setFrames fs) by
      by_cases hc33 : if_icmp.holds .ne (v0_3 q0 p1) (1 : Int32) = true
      · rw [show (j0_33_l4 q0 p1) = (j0_49_l4 q0 p1) from if_pos hc33] at kt33
        rw [show (j0_33_l6 q0 p1) = (j0_49_l6 q0 p1) from if_pos hc33] at kt33
        refine XS.icmpYes X0.here hx rfl (pc0 := 33) (pc' := 47) rfl (hb hby at_33) rfl hc33 (by decide) (by decide) ?_
        show Steps p.tables e below (s₁.setTop (mkF m 47 #[.val (.long q0), .second, .val (.int p1), .val (.int (v0_3 q0 p1)), .val (.double (v0_6 q0 p1)), .second, .val (.int (j0_11_s0 q0 p1)), .unset] [])) _
        refine XS.iloadN X0.here hx rfl (hb hby at_47) rfl ?_
        show Steps p.tables e below (s₁.setTop (mkF m 48 #[.val (.long q0), .second, .val (.int p1), .val (.int (v0_3 q0 p1)), .val (.double (v0_6 q0 p1)), .second, .val (.int (j0_11_s0 q0 p1)), .unset] [(.int (v0_3 q0 p1))])) _
        refine XS.iconst X0.here hx rfl (hb hby at_48) ?_
        show Steps p.tables e below (s₁.setTop (mkF m 49 #[.val (.long q0), .second, .val (.int p1), .val (.int (v0_3 q0 p1)), .val (.double (v0_6 q0 p1)), .second, .val (.int (j0_11_s0 q0 p1)), .unset] [(.int (2 : Int32)), (.int (v0_3 q0 p1))])) _
        suffices kt49 : Steps p.tables e below (s₁.setTop (mkF m 78 #[.val (.long q0), .second, .val (.int p1), .val (.int (v0_3 q0 p1)), .val (.double (j0_49_l4 q0 p1)), .second, .val (.int (j0_49_l6 q0 p1)), .unset] [])) (T2.setFrames fs) by
          by_cases hc49 : if_icmp.holds .ne (v0_3 q0 p1) (2 : Int32) = true
          · rw [show (j0_49_l4 q0 p1) = (j0_67_l4 q0 p1) from if_pos hc49] at kt49
            rw [show (j0_49_l6 q0 p1) = (j0_11_s0 q0 p1) from if_pos hc49] at kt49
            refine XS.icmpYes X0.here hx rfl (pc0 := 49) (pc' := 65) rfl (hb hby at_49) rfl hc49 (by decide) (by decide) ?_
            show Steps p.tables e below (s₁.setTop (mkF m 65 #[.val (.long q0), .second, .val (.int p1), .val (.int (v0_3 q0 p1)), .val (.double (v0_6 q0 p1)), .second, .val (.int (j0_11_s0 q0 p1)), .unset] [])) _
            refine XS.iloadN X0.here hx rfl (hb hby at_65) rfl ?_
            show Steps p.tables e below (s₁.setTop (mkF m 66 #[.val (.long q0), .second, .val (.int p1), .val (.int (v0_3 q0 p1)), .val (.double (v0_6 q0 p1)), .second, .val (.int (j0_11_s0 q0 p1)), .unset] [(.int (v0_3 q0 p1))])) _
            refine XS.iconst X0.here hx rfl (hb hby at_66) ?_
            show Steps p.tables e below (s₁.setTop (mkF m 67 #[.val (.long q0), .second, .val (.int p1), .val (.int (v0_3 q0 p1)), .val (.double (v0_6 q0 p1)), .second, .val (.int (j0_11_s0 q0 p1)), .unset] [(.int (3 : Int32)), (.int (v0_3 q0 p1))])) _
            suffices kt67 : Steps p.tables e below (s₁.setTop (mkF m 78 #[.val (.long q0), .second, .val (.int p1), .val (.int (v0_3 q0 p1)), .val (.double (j0_67_l4 q0 p1)), .second, .val (.int (j0_11_s0 q0 p1)), .unset] [])) (T2.setFrames fs) by
              by_cases hc67 : if_icmp.holds .ne (v0_3 q0 p1) (3 : Int32) = true
              · rw [show (j0_67_l4 q0 p1) = (v0_6 q0 p1) from if_pos hc67] at kt67
                refine XS.icmpYes X0.here hx rfl (pc0 := 67) (pc' := 78) rfl (hb hby at_67) rfl hc67 (by decide) (by decide) ?_
                exact kt67
              · rw [show (j0_67_l4 q0 p1) = (FP.dmul (v0_6 q0 p1) (9094988921128908188 : UInt64)) from if_neg hc67] at kt67
                refine XS.icmpNo X0.here hx rfl (hb hby at_67) rfl (eq_false_of_ne_true hc67) ?_
                show Steps p.tables e below (s₁.setTop (mkF m 70 #[.val (.long q0), .second, .val (.int p1), .val (.int (v0_3 q0 p1)), .val (.double (v0_6 q0 p1)), .second, .val (.int (j0_11_s0 q0 p1)), .unset] [])) _
                refine XS.dload X0.here hx rfl (hb hby at_70) rfl ?_
                show Steps p.tables e below (s₁.setTop (mkF m 72 #[.val (.long q0), .second, .val (.int p1), .val (.int (v0_3 q0 p1)), .val (.double (v0_6 q0 p1)), .second, .val (.int (j0_11_s0 q0 p1)), .unset] [(.double (v0_6 q0 p1))])) _
                refine X0.ldc2DoubleC hx hown (mvT hZ (hw _ (List.mem_of_getElem? (i := 7) rfl))) (g := (mkF m 72 #[.val (.long q0), .second, .val (.int p1), .val (.int (v0_3 q0 p1)), .val (.double (v0_6 q0 p1)), .second, .val (.int (j0_11_s0 q0 p1)), .unset] [(.double (v0_6 q0 p1))])) rfl (hb hby at_72) _ ?_
                show Steps p.tables e below (s₁.setTop (mkF m 75 #[.val (.long q0), .second, .val (.int p1), .val (.int (v0_3 q0 p1)), .val (.double (v0_6 q0 p1)), .second, .val (.int (j0_11_s0 q0 p1)), .unset] [(.double (9094988921128908188 : UInt64)), (.double (v0_6 q0 p1))])) _
                refine XS.dmulS X0.here hx rfl (hb hby at_75) rfl hn75 rfl ?_
                show Steps p.tables e below (s₁.setTop (mkF m 76 #[.val (.long q0), .second, .val (.int p1), .val (.int (v0_3 q0 p1)), .val (.double (v0_6 q0 p1)), .second, .val (.int (j0_11_s0 q0 p1)), .unset] [(.double (FP.dmul (v0_6 q0 p1) (9094988921128908188 : UInt64)))])) _
                refine XS.dstore X0.here hx rfl (hb hby at_76) rfl (l' := #[.val (.long q0), .second, .val (.int p1), .val (.int (v0_3 q0 p1)), .val (.double (FP.dmul (v0_6 q0 p1) (9094988921128908188 : UInt64))), .second, .val (.int (j0_11_s0 q0 p1)), .unset]) rfl ?_
                exact kt67
            exact kt49
          · rw [show (j0_49_l4 q0 p1) = (FP.dneg (v0_6 q0 p1)) from if_neg hc49] at kt49
            rw [show (j0_49_l6 q0 p1) = (-(j0_11_s0 q0 p1)) from if_neg hc49] at kt49
            refine XS.icmpNo X0.here hx rfl (hb hby at_49) rfl (eq_false_of_ne_true hc49) ?_
            show Steps p.tables e below (s₁.setTop (mkF m 52 #[.val (.long q0), .second, .val (.int p1), .val (.int (v0_3 q0 p1)), .val (.double (v0_6 q0 p1)), .second, .val (.int (j0_11_s0 q0 p1)), .unset] [])) _
            refine XS.dload X0.here hx rfl (hb hby at_52) rfl ?_
            show Steps p.tables e below (s₁.setTop (mkF m 54 #[.val (.long q0), .second, .val (.int p1), .val (.int (v0_3 q0 p1)), .val (.double (v0_6 q0 p1)), .second, .val (.int (j0_11_s0 q0 p1)), .unset] [(.double (v0_6 q0 p1))])) _
            refine XS.dnegS X0.here hx rfl (hb hby at_54) rfl rfl ?_
            show Steps p.tables e below (s₁.setTop (mkF m 55 #[.val (.long q0), .second, .val (.int p1), .val (.int (v0_3 q0 p1)), .val (.double (v0_6 q0 p1)), .second, .val (.int (j0_11_s0 q0 p1)), .unset] [(.double (FP.dneg (v0_6 q0 p1)))])) _
            refine XS.dstore X0.here hx rfl (hb hby at_55) rfl (l' := #[.val (.long q0), .second, .val (.int p1), .val (.int (v0_3 q0 p1)), .val (.double (FP.dneg (v0_6 q0 p1))), .second, .val (.int (j0_11_s0 q0 p1)), .unset]) rfl ?_
            show Steps p.tables e below (s₁.setTop (mkF m 57 #[.val (.long q0), .second, .val (.int p1), .val (.int (v0_3 q0 p1)), .val (.double (FP.dneg (v0_6 q0 p1))), .second, .val (.int (j0_11_s0 q0 p1)), .unset] [])) _
            refine XS.iload X0.here hx rfl (hb hby at_57) rfl ?_
            show Steps p.tables e below (s₁.setTop (mkF m 59 #[.val (.long q0), .second, .val (.int p1), .val (.int (v0_3 q0 p1)), .val (.double (FP.dneg (v0_6 q0 p1))), .second, .val (.int (j0_11_s0 q0 p1)), .unset] [(.int (j0_11_s0 q0 p1))])) _
            refine XS.ineg X0.here hx rfl (hb hby at_59) rfl ?_
            show Steps p.tables e below (s₁.setTop (mkF m 60 #[.val (.long q0), .second, .val (.int p1), .val (.int (v0_3 q0 p1)), .val (.double (FP.dneg (v0_6 q0 p1))), .second, .val (.int (j0_11_s0 q0 p1)), .unset] [(.int (-(j0_11_s0 q0 p1)))])) _
            refine XS.istore X0.here hx rfl (hb hby at_60) rfl (l' := #[.val (.long q0), .second, .val (.int p1), .val (.int (v0_3 q0 p1)), .val (.double (FP.dneg (v0_6 q0 p1))), .second, .val (.int (-(j0_11_s0 q0 p1))), .unset]) rfl ?_
            show Steps p.tables e below (s₁.setTop (mkF m 62 #[.val (.long q0), .second, .val (.int p1), .val (.int (v0_3 q0 p1)), .val (.double (FP.dneg (v0_6 q0 p1))), .second, .val (.int (-(j0_11_s0 q0 p1))), .unset] [])) _
            refine XS.goto X0.here hx rfl (pc0 := 62) (pc' := 78) rfl (hb hby at_62) (by decide) (by decide) ?_
            exact kt49
        exact kt33
      · rw [show (j0_33_l4 q0 p1) = (FP.ddiv (v0_6 q0 p1) (4652218415073722368 : UInt64)) from if_neg hc33] at kt33
        rw [show (j0_33_l6 q0 p1) = (j0_11_s0 q0 p1) from if_neg hc33] at kt33
        refine XS.icmpNo X0.here hx rfl (hb hby at_33) rfl (eq_false_of_ne_true hc33) ?_
        show Steps p.tables e below (s₁.setTop (mkF m 36 #[.val (.long q0), .second, .val (.int p1), .val (.int (v0_3 q0 p1)), .val (.double (v0_6 q0 p1)), .second, .val (.int (j0_11_s0 q0 p1)), .unset] [])) _
        refine XS.dload X0.here hx rfl (hb hby at_36) rfl ?_
        show Steps p.tables e below (s₁.setTop (mkF m 38 #[.val (.long q0), .second, .val (.int p1), .val (.int (v0_3 q0 p1)), .val (.double (v0_6 q0 p1)), .second, .val (.int (j0_11_s0 q0 p1)), .unset] [(.double (v0_6 q0 p1))])) _
        refine X0.ldc2DoubleC hx hown (mvT hZ (hw _ (List.mem_of_getElem? (i := 14) rfl))) (g := (mkF m 38 #[.val (.long q0), .second, .val (.int p1), .val (.int (v0_3 q0 p1)), .val (.double (v0_6 q0 p1)), .second, .val (.int (j0_11_s0 q0 p1)), .unset] [(.double (v0_6 q0 p1))])) rfl (hb hby at_38) _ ?_
        show Steps p.tables e below (s₁.setTop (mkF m 41 #[.val (.long q0), .second, .val (.int p1), .val (.int (v0_3 q0 p1)), .val (.double (v0_6 q0 p1)), .second, .val (.int (j0_11_s0 q0 p1)), .unset] [(.double (4652218415073722368 : UInt64)), (.double (v0_6 q0 p1))])) _
        refine XS.ddivS X0.here hx rfl (hb hby at_41) rfl hn41 rfl ?_
        show Steps p.tables e below (s₁.setTop (mkF m 42 #[.val (.long q0), .second, .val (.int p1), .val (.int (v0_3 q0 p1)), .val (.double (v0_6 q0 p1)), .second, .val (.int (j0_11_s0 q0 p1)), .unset] [(.double (FP.ddiv (v0_6 q0 p1) (4652218415073722368 : UInt64)))])) _
        refine XS.dstore X0.here hx rfl (hb hby at_42) rfl (l' := #[.val (.long q0), .second, .val (.int p1), .val (.int (v0_3 q0 p1)), .val (.double (FP.ddiv (v0_6 q0 p1) (4652218415073722368 : UInt64))), .second, .val (.int (j0_11_s0 q0 p1)), .unset]) rfl ?_
        show Steps p.tables e below (s₁.setTop (mkF m 44 #[.val (.long q0), .second, .val (.int p1), .val (.int (v0_3 q0 p1)), .val (.double (FP.ddiv (v0_6 q0 p1) (4652218415073722368 : UInt64))), .second, .val (.int (j0_11_s0 q0 p1)), .unset] [])) _
        refine XS.goto X0.here hx rfl (pc0 := 44) (pc' := 78) rfl (hb hby at_44) (by decide) (by decide) ?_
        exact kt33
    show Steps p.tables e below (s₁.setTop (mkF m 78 #[.val (.long q0), .second, .val (.int p1), .val (.int (v0_3 q0 p1)), .val (.double (j0_33_l4 q0 p1)), .second, .val (.int (j0_33_l6 q0 p1)), .unset] [])) _
    refine XS.iload X0.here hx rfl (hb hby at_78) rfl ?_
    show Steps p.tables e below (s₁.setTop (mkF m 80 #[.val (.long q0), .second, .val (.int p1), .val (.int (v0_3 q0 p1)), .val (.double (j0_33_l4 q0 p1)), .second, .val (.int (j0_33_l6 q0 p1)), .unset] [(.int (j0_33_l6 q0 p1))])) _
    refine XS.ifYes X0.here hx rfl (pc0 := 80) (pc' := 91) rfl (hb hby at_80) rfl hc80 (by decide) (by decide) ?_
    show Steps p.tables e below (s₁.setTop (mkF m 91 #[.val (.long q0), .second, .val (.int p1), .val (.int (v0_3 q0 p1)), .val (.double (j0_33_l4 q0 p1)), .second, .val (.int (j0_33_l6 q0 p1)), .unset] [])) _
    refine XS.iload X0.here hx rfl (hb hby at_91) rfl ?_
    show Steps p.tables e below (s₁.setTop (mkF m 93 #[.val (.long q0), .second, .val (.int p1), .val (.int (v0_3 q0 p1)), .val (.double (j0_33_l4 q0 p1)), .second, .val (.int (j0_33_l6 q0 p1)), .unset] [(.int (j0_33_l6 q0 p1))])) _
    refine XS.ifNo X0.here hx rfl (hb hby at_93) rfl hc93 ?_
    show Steps p.tables e below (s₁.setTop (mkF m 96 #[.val (.long q0), .second, .val (.int p1), .val (.int (v0_3 q0 p1)), .val (.double (j0_33_l4 q0 p1)), .second, .val (.int (j0_33_l6 q0 p1)), .unset] [])) _
    refine st1 _ ?_
    show Steps p.tables e below (T1.setTop (mkF m 99 #[.val (.long q0), .second, .val (.int p1), .val (.int (v0_3 q0 p1)), .val (.double (j0_33_l4 q0 p1)), .second, .val (.int (j0_33_l6 q0 p1)), .unset] [w_VIOLATED])) _
    refine XS.astore X1.here hx rfl (hb hby at_99) rfl r_w_VIOLATED (l' := #[.val (.long q0), .second, .val (.int p1), .val (.int (v0_3 q0 p1)), .val (.double (j0_33_l4 q0 p1)), .second, .val (.int (j0_33_l6 q0 p1)), .val w_VIOLATED]) ((storeLocals_cat1 (i := 7) rfl (Jvm.OwnFP.cat1R r_w_VIOLATED) (by first | trivial | rfl)).trans rfl) ?_
    show Steps p.tables e below (T1.setTop (mkF m 101 #[.val (.long q0), .second, .val (.int p1), .val (.int (v0_3 q0 p1)), .val (.double (j0_33_l4 q0 p1)), .second, .val (.int (j0_33_l6 q0 p1)), .val w_VIOLATED] [])) _
    refine XS.goto X1.here hx rfl (pc0 := 101) (pc' := 109) rfl (hb hby at_101) (by decide) (by decide) ?_
    show Steps p.tables e below (T1.setTop (mkF m 109 #[.val (.long q0), .second, .val (.int p1), .val (.int (v0_3 q0 p1)), .val (.double (j0_33_l4 q0 p1)), .second, .val (.int (j0_33_l6 q0 p1)), .val w_VIOLATED] [])) _
    refine XS.dload X1.here hx rfl (hb hby at_109) rfl ?_
    show Steps p.tables e below (T1.setTop (mkF m 111 #[.val (.long q0), .second, .val (.int p1), .val (.int (v0_3 q0 p1)), .val (.double (j0_33_l4 q0 p1)), .second, .val (.int (j0_33_l6 q0 p1)), .val w_VIOLATED] [(.double (j0_33_l4 q0 p1))])) _
    refine st2 _ ?_
    show Steps p.tables e below (T2.setTop (mkF m 114 #[.val (.long q0), .second, .val (.int p1), .val (.int (v0_3 q0 p1)), .val (.double (j0_33_l4 q0 p1)), .second, .val (.int (j0_33_l6 q0 p1)), .val w_VIOLATED] [w_VIOLATED])) _
    refine XS.aload X2.here hx rfl (hb hby at_114) rfl r_w_VIOLATED ?_
    show Steps p.tables e below (T2.setTop (mkF m 116 #[.val (.long q0), .second, .val (.int p1), .val (.int (v0_3 q0 p1)), .val (.double (j0_33_l4 q0 p1)), .second, .val (.int (j0_33_l6 q0 p1)), .val w_VIOLATED] [w_VIOLATED, w_VIOLATED])) _
    refine Jvm.RoadKit.acmp (g := (mkF m 116 #[.val (.long q0), .second, .val (.int p1), .val (.int (v0_3 q0 p1)), .val (.double (j0_33_l4 q0 p1)), .second, .val (.int (j0_33_l6 q0 p1)), .val w_VIOLATED] [w_VIOLATED, w_VIOLATED])) X2 hx rfl r_w_VIOLATED r_w_VIOLATED (pc0 := 116) (pc' := 119) (same := true) rfl (hb hby at_116) rfl (decide_eq_true rfl) (by decide) (by decide) ?_
    show Steps p.tables e below (T2.setTop (mkF m 119 #[.val (.long q0), .second, .val (.int p1), .val (.int (v0_3 q0 p1)), .val (.double (j0_33_l4 q0 p1)), .second, .val (.int (j0_33_l6 q0 p1)), .val w_VIOLATED] [])) _
    refine XS.iconst X2.here hx rfl (hb hby at_119) ?_
    show Steps p.tables e below (T2.setTop (mkF m 120 #[.val (.long q0), .second, .val (.int p1), .val (.int (v0_3 q0 p1)), .val (.double (j0_33_l4 q0 p1)), .second, .val (.int (j0_33_l6 q0 p1)), .val w_VIOLATED] [(.int (1 : Int32))])) _
    refine XS.goto X2.here hx rfl (pc0 := 120) (pc' := 124) rfl (hb hby at_120) (by decide) (by decide) ?_
    show Steps p.tables e below (T2.setTop (mkF m 124 #[.val (.long q0), .second, .val (.int p1), .val (.int (v0_3 q0 p1)), .val (.double (j0_33_l4 q0 p1)), .second, .val (.int (j0_33_l6 q0 p1)), .val w_VIOLATED] [(.int (1 : Int32))])) _
    exact retN X2 hx (t := .boolean) Bd.returns (by simp) (hb hby at_124) hr
  · show Q0v Z q0 p1 w_VIOLATED h0 n0 _ T2.heap _
    exact ⟨rfl, N2⟩
theorem ef_0u (m : MethodId) (q0 : Int64) (p1 : Int32) : entryFrame m #[(.long q0), (.int p1)] maxLocals = mkF m 0 #[.val (.long q0), .second, .val (.int p1), .unset, .unset, .unset, .unset, .unset] [] := by first | (simp [entryFrame, mkF, argsToLocals, Value.category, maxLocals]; done) | rfl
def Q0u (Z : State) (q0 : Int64) (p1 : Int32) (w_UNDECIDED : Value) (h0 : Heap) (n0 : Nat) (v : Option Value) (h : Heap) (L : List Loc) : Prop := v = some (.int (1 : Int32)) ∧ Fr n0 L
set_option maxRecDepth 65536 in
set_option maxHeartbeats 40000000 in
theorem rm0u (l : Launch) (Z : State) (aw : Array Value) (hw : ∀ d ∈ tables_1, d.before aw Z = true) (ws : List Jvm.Cond) (q0 : Int64) (p1 : Int32) (w_UNDECIDED : Value) (h0 : Heap) (n0 : Nat) (Z0 : n0 ≤ h0.size) (hn75 : Jvm.Free.Fl.NoNaN64 (FP.dmul (v0_6 q0 p1) (9094988921128908188 : UInt64))) (hn41 : Jvm.Free.Fl.NoNaN64 (FP.ddiv (v0_6 q0 p1) (4652218415073722368 : UInt64))) (hc80 : ifCond.holds .le (j0_33_l6 q0 p1) = true) (hc93 : ifCond.holds .ge (j0_33_l6 q0 p1) = true) (F_UNDECIDED_st : Sta Z h0 "com/example/mutaprop/mutaprop/stl/Verdict" "UNDECIDED" "Lcom/example/mutaprop/mutaprop/stl/Verdict;" w_UNDECIDED) (r_w_UNDECIDED : w_UNDECIDED.isRef = true) (hc3_111 : ifCond.holds .le (cmpValue (FP.dcmp (j0_33_l4 q0 p1) FP.dconst0) .l) = true) (hc13_111 : ifCond.holds .ge (cmpValue (FP.dcmp (j0_33_l4 q0 p1) FP.dconst0) .g) = true) :
    MetFree l x (head1 (Jvm.Cond.code x code maxLocals ret :: ws) room_1) (fun a U => a = #[(.long q0), (.int p1)] ∧ Z.Warmed39 U.vm ∧ U.heap = h0) (fun _ _ _ _ _ => True) (fun _ U o U' => ∃ v L, o = .returned v ∧ Q0u Z q0 p1 w_UNDECIDED h0 n0 v U'.heap L ∧ FrameEnd U o U' L 0 0) := by
  refine MetFree.of_bodySF (plainFor_of_name pn_0) hisR ?_
  intro p e s m args below meth c s₁ Bd hml0 hP hK
  obtain ⟨rfl, hZ, hh⟩ := hP
  have hx := Bd.exec
  have hby := Bd.bytes
  have hml : c.maxLocals = 8 := hml0
  have hown : s.vm.findClass "com/example/mutaprop/mutaprop/stl/VerdictOfPinLaw" = some m.cls := findClass_of_methodNamed Bd.named
  have hnm := (name_of_methodNamed Bd.named Bd.method).1
  have X0 : Stand p l e room_1 s m #[(.long q0), (.int p1)] below meth c s₁ [] 0 0 := Stand.of_body Bd
  have e0 : s₁.heap = h0 := by rw [← hh, Bd.state]; rfl
  have N0 := Fr.nil n0
  have pre0 : ∀ t, Steps p.tables e below (s₁.setTop (mkF m 0 #[.val (.long q0), .second, .val (.int p1), .unset, .unset, .unset, .unset, .unset] [])) t → Steps p.tables e below (s₁.setTop (entryFrame m #[(.long q0), (.int p1)] maxLocals)) t := fun t k => castTop (ef_0u m q0 p1) k
  obtain ⟨T1, X1, e1, st1⟩ := getS2 X0 hx hZ hown (host := "") (Or.inl (hw _ (List.mem_of_getElem? (i := 11) rfl))) Via.refl e0 F_UNDECIDED_st (g := (mkF m 104 #[.val (.long q0), .second, .val (.int p1), .val (.int (v0_3 q0 p1)), .val (.double (j0_33_l4 q0 p1)), .second, .val (.int (j0_33_l6 q0 p1)), .unset] [])) rfl (hb hby at_104)
  obtain ⟨_, _, ⟨T2, L2, k2, n2⟩, -, X2, ⟨Lc2, hQ2, l2, y2, z2'⟩, st2⟩ := Jvm.LawKit.callS X1 hx (y := (⟨"com/example/mutaprop/mutaprop/stl/Verdict", "of", "(D)Lcom/example/mutaprop/mutaprop/stl/Verdict;"⟩ : MethodName)) hown (mvT hZ (hw _ (List.mem_of_getElem? (i := 3) rfl))) (mvT hZ (hw _ (List.mem_of_getElem? (i := 4) rfl))) (mvT hZ (hw _ (List.mem_of_getElem? (i := 1) rfl))) (mvT hZ (hw _ (List.mem_of_getElem? (i := 5) rfl))) (by decide) (backOf (W := 0) (rm1u l Z aw hw [] (j0_33_l4 q0 p1) w_UNDECIDED h0 n0 Z0 hc3_111 hc13_111 F_UNDECIDED_st r_w_UNDECIDED) hZ (hw _ (List.mem_of_getElem? (i := 5) rfl)) (hw _ (List.mem_of_getElem? (i := 1) rfl)) (by decide) (by decide)) (g := (mkF m 111 #[.val (.long q0), .second, .val (.int p1), .val (.int (v0_3 q0 p1)), .val (.double (j0_33_l4 q0 p1)), .second, .val (.int (j0_33_l6 q0 p1)), .val w_UNDECIDED] [(.double (j0_33_l4 q0 p1))])) rfl (by rw [hml]; rfl) (argsL := [(.double (j0_33_l4 q0 p1))]) (rest := []) (lenOf pd_0 rfl) rfl (by show 2 * 0 + _ ≤ _; exact Nat.le_of_eq rfl) (hb hby at_111) (fun _ _ => ⟨rfl, e1, (by decide : 0 + 0 ≤ _), (by decide : 0 + 0 ≤ _)⟩)
  dsimp only [Pt.U, Pt.locs, Pt.cells, Pt.slots] at X2 l2 y2 z2' st2 hQ2
  subst l2 y2 z2'
  obtain ⟨rfl, N2q, hq2⟩ := hQ2
  have f2_0 : Sta Z T2.heap "com/example/mutaprop/mutaprop/stl/Verdict" "UNDECIDED" "Lcom/example/mutaprop/mutaprop/stl/Verdict;" w_UNDECIDED := by rw [hq2]; exact F_UNDECIDED_st
  have z2 : n0 ≤ T2.heap.size := by rw [hq2]; exact Z0
  have N2 := Fr.app N0 N2q
  obtain ⟨fs, hr, hrun, hended, hW, hsame⟩ := X2.leave (v := some (.int (1 : Int32))) (fun h => by rw [Bd.returns] at h; cases h)
  refine ⟨_, _, pre0 _ ?_, hrun, hended, _, _, rfl, ?_, ⟨_, rfl⟩, hW, hsame.mono (by decide) (by decide)⟩
  · show Steps p.tables e below (s₁.setTop (mkF m 0 #[.val (.long q0), .second, .val (.int p1), .unset, .unset, .unset, .unset, .unset] [])) _
    refine XS.iloadN X0.here hx rfl (hb hby at_0) rfl ?_
    show Steps p.tables e below (s₁.setTop (mkF m 1 #[.val (.long q0), .second, .val (.int p1), .unset, .unset, .unset, .unset, .unset] [(.int p1)])) _
    refine XS.iconst X0.here hx rfl (hb hby at_1) ?_
    show Steps p.tables e below (s₁.setTop (mkF m 2 #[.val (.long q0), .second, .val (.int p1), .unset, .unset, .unset, .unset, .unset] [(.int (3 : Int32)), (.int p1)])) _
    refine XS.iand X0.here hx rfl (hb hby at_2) rfl ?_
    show Steps p.tables e below (s₁.setTop (mkF m 3 #[.val (.long q0), .second, .val (.int p1), .unset, .unset, .unset, .unset, .unset] [(.int (p1 &&& (3 : Int32)))])) _
    refine XS.istoreN X0.here hx rfl (hb hby at_3) rfl (l' := #[.val (.long q0), .second, .val (.int p1), .val (.int (v0_3 q0 p1)), .unset, .unset, .unset, .unset]) rfl ?_
    show Steps p.tables e below (s₁.setTop (mkF m 4 #[.val (.long q0), .second, .val (.int p1), .val (.int (v0_3 q0 p1)), .unset, .unset, .unset, .unset] [])) _
    refine XS.lloadN X0.here hx rfl (hb hby at_4) rfl ?_
    show Steps p.tables e below (s₁.setTop (mkF m 5 #[.val (.long q0), .second, .val (.int p1), .val (.int (v0_3 q0 p1)), .unset, .unset, .unset, .unset] [(.long q0)])) _
    refine XS.l2dS X0.here hx rfl (hb hby at_5) rfl rfl ?_
    show Steps p.tables e below (s₁.setTop (mkF m 6 #[.val (.long q0), .second, .val (.int p1), .val (.int (v0_3 q0 p1)), .unset, .unset, .unset, .unset] [(.double (FP.l2d q0))])) _
    refine XS.dstore X0.here hx rfl (hb hby at_6) rfl (l' := #[.val (.long q0), .second, .val (.int p1), .val (.int (v0_3 q0 p1)), .val (.double (v0_6 q0 p1)), .second, .unset, .unset]) rfl ?_
    show Steps p.tables e below (s₁.setTop (mkF m 8 #[.val (.long q0), .second, .val (.int p1), .val (.int (v0_3 q0 p1)), .val (.double (v0_6 q0 p1)), .second, .unset, .unset] [])) _
    refine XS.lloadN X0.here hx rfl (hb hby at_8) rfl ?_
    show Steps p.tables e below (s₁.setTop (mkF m 9 #[.val (.long q0), .second, .val (.int p1), .val (.int (v0_3 q0 p1)), .val (.double (v0_6 q0 p1)), .second, .unset, .unset] [(.long q0)])) _
    refine XS.lconst X0.here hx rfl (hb hby at_9) ?_
    show Steps p.tables e below (s₁.setTop (mkF m 10 #[.val (.long q0), .second, .val (.int p1), .val (.int (v0_3 q0 p1)), .val (.double (v0_6 q0 p1)), .second, .unset, .unset] [(.long (0 : Int64)), (.long q0)])) _
    refine XS.lcmp X0.here hx rfl (hb hby at_10) rfl ?_
    show Steps p.tables e below (s₁.setTop (mkF m 11 #[.val (.long q0), .second, .val (.int p1), .val (.int (v0_3 q0 p1)), .val (.double (v0_6 q0 p1)), .second, .unset, .unset] [(.int (lcmpW q0 (0 : Int64)))])) _
    suffices kt11 : Steps p.tables e below (s₁.setTop (mkF m 29 #[.val (.long q0), .second, .val (.int p1), .val (.int (v0_3 q0 p1)), .val (.double (v0_6 q0 p1)), .second, .unset, .unset] [(.int (j0_11_s0 q0 p1))])) (T2.setFrames fs) by
      by_cases hc11 : ifCond.holds .le (lcmpW q0 (0 : Int64)) = true
      · rw [show (j0_11_s0 q0 p1) = (j0_21_s0 q0 p1) from if_pos hc11] at kt11
        refine XS.ifYes X0.here hx rfl (pc0 := 11) (pc' := 18) rfl (hb hby at_11) rfl hc11 (by decide) (by decide) ?_
        show Steps p.tables e below (s₁.setTop (mkF m 18 #[.val (.long q0), .second, .val (.int p1), .val (.int (v0_3 q0 p1)), .val (.double (v0_6 q0 p1)), .second, .unset, .unset] [])) _
        refine XS.lloadN X0.here hx rfl (hb hby at_18) rfl ?_
        show Steps p.tables e below (s₁.setTop (mkF m 19 #[.val (.long q0), .second, .val (.int p1), .val (.int (v0_3 q0 p1)), .val (.double (v0_6 q0 p1)), .second, .unset, .unset] [(.long q0)])) _
        refine XS.lconst X0.here hx rfl (hb hby at_19) ?_
        show Steps p.tables e below (s₁.setTop (mkF m 20 #[.val (.long q0), .second, .val (.int p1), .val (.int (v0_3 q0 p1)), .val (.double (v0_6 q0 p1)), .second, .unset, .unset] [(.long (0 : Int64)), (.long q0)])) _
        refine XS.lcmp X0.here hx rfl (hb hby at_20) rfl ?_
        show Steps p.tables e below (s₁.setTop (mkF m 21 #[.val (.long q0), .second, .val (.int p1), .val (.int (v0_3 q0 p1)), .val (.double (v0_6 q0 p1)), .second, .unset, .unset] [(.int (lcmpW q0 (0 : Int64)))])) _
        suffices kt21 : Steps p.tables e below (s₁.setTop (mkF m 29 #[.val (.long q0), .second, .val (.int p1), .val (.int (v0_3 q0 p1)), .val (.double (v0_6 q0 p1)), .second, .unset, .unset] [(.int (j0_21_s0 q0 p1))])) (T2.setFrames fs) by
          by_cases hc21 : ifCond.holds .ge (lcmpW q0 (0 : Int64)) = true
          · rw [show (j0_21_s0 q0 p1) = (0 : Int32) from if_pos hc21] at kt21
            refine XS.ifYes X0.here hx rfl (pc0 := 21) (pc' := 28) rfl (hb hby at_21) rfl hc21 (by decide) (by decide) ?_
            show Steps p.tables e below (s₁.setTop (mkF m 28 #[.val (.long q0), .second, .val (.int p1), .val (.int (v0_3 q0 p1)), .val (.double (v0_6 q0 p1)), .second, .unset, .unset] [])) _
            refine XS.iconst X0.here hx rfl (hb hby at_28) ?_
            exact kt21
          · rw [show (j0_21_s0 q0 p1) = (-1 : Int32) from if_neg hc21] at kt21
            refine XS.ifNo X0.here hx rfl (hb hby at_21) rfl (eq_false_of_ne_true hc21) ?_
            show Steps p.tables e below (s₁.setTop (mkF m 24 #[.val (.long q0), .second, .val (.int p1), .val (.int (v0_3 q0 p1)), .val (.double (v0_6 q0 p1)), .second, .unset, .unset] [])) _
            refine XS.iconst X0.here hx rfl (hb hby at_24) ?_
            show Steps p.tables e below (s₁.setTop (mkF m 25 #[.val (.long q0), .second, .val (.int p1), .val (.int (v0_3 q0 p1)), .val (.double (v0_6 q0 p1)), .second, .unset, .unset] [(.int (-1 : Int32))])) _
            refine XS.goto X0.here hx rfl (pc0 := 25) (pc' := 29) rfl (hb hby at_25) (by decide) (by decide) ?_
            exact kt21
        exact kt11
      · rw [show (j0_11_s0 q0 p1) = (1 : Int32) from if_neg hc11] at kt11
        refine XS.ifNo X0.here hx rfl (hb hby at_11) rfl (eq_false_of_ne_true hc11) ?_
        show Steps p.tables e below (s₁.setTop (mkF m 14 #[.val (.long q0), .second, .val (.int p1), .val (.int (v0_3 q0 p1)), .val (.double (v0_6 q0 p1)), .second, .unset, .unset] [])) _
        refine XS.iconst X0.here hx rfl (hb hby at_14) ?_
        show Steps p.tables e below (s₁.setTop (mkF m 15 #[.val (.long q0), .second, .val (.int p1), .val (.int (v0_3 q0 p1)), .val (.double (v0_6 q0 p1)), .second, .unset, .unset] [(.int (1 : Int32))])) _
        refine XS.goto X0.here hx rfl (pc0 := 15) (pc' := 29) rfl (hb hby at_15) (by decide) (by decide) ?_
        exact kt11
    show Steps p.tables e below (s₁.setTop (mkF m 29 #[.val (.long q0), .second, .val (.int p1), .val (.int (v0_3 q0 p1)), .val (.double (v0_6 q0 p1)), .second, .unset, .unset] [(.int (j0_11_s0 q0 p1))])) _
    refine XS.istore X0.here hx rfl (hb hby at_29) rfl (l' := #[.val (.long q0), .second, .val (.int p1), .val (.int (v0_3 q0 p1)), .val (.double (v0_6 q0 p1)), .second, .val (.int (j0_11_s0 q0 p1)), .unset]) rfl ?_
    show Steps p.tables e below (s₁.setTop (mkF m 31 #[.val (.long q0), .second, .val (.int p1), .val (.int (v0_3 q0 p1)), .val (.double (v0_6 q0 p1)), .second, .val (.int (j0_11_s0 q0 p1)), .unset] [])) _
    refine XS.iloadN X0.here hx rfl (hb hby at_31) rfl ?_
    show Steps p.tables e below (s₁.setTop (mkF m 32 #[.val (.long q0), .second, .val (.int p1), .val (.int (v0_3 q0 p1)), .val (.double (v0_6 q0 p1)), .second, .val (.int (j0_11_s0 q0 p1)), .unset] [(.int (v0_3 q0 p1))])) _
    refine XS.iconst X0.here hx rfl (hb hby at_32) ?_
    show Steps p.tables e below (s₁.setTop (mkF m 33 #[.val (.long q0), .second, .val (.int p1), .val (.int (v0_3 q0 p1)), .val (.double (v0_6 q0 p1)), .second, .val (.int (j0_11_s0 q0 p1)), .unset] [(.int (1 : Int32)), (.int (v0_3 q0 p1))])) _
    suffices kt33 : Steps p.tables e below (s₁.setTop (mkF m 78 #[.val (.long q0), .second, .val (.int p1), .val (.int (v0_3 q0 p1)), .val (.double (j0_33_l4 q0 p1)), .second, .val (.int (j0_33_l6 q0 p1)), .unset] [])) (T2.setFrames fs) by
      by_cases hc33 : if_icmp.holds .ne (v0_3 q0 p1) (1 : Int32) = true
      · rw [show (j0_33_l4 q0 p1) = (j0_49_l4 q0 p1) from if_pos hc33] at kt33
        rw [show (j0_33_l6 q0 p1) = (j0_49_l6 q0 p1) from if_pos hc33] at kt33
        refine XS.icmpYes X0.here hx rfl (pc0 := 33) (pc' := 47) rfl (hb hby at_33) rfl hc33 (by decide) (by decide) ?_
        show Steps p.tables e below (s₁.setTop (mkF m 47 #[.val (.long q0), .second, .val (.int p1), .val (.int (v0_3 q0 p1)), .val (.double (v0_6 q0 p1)), .second, .val (.int (j0_11_s0 q0 p1)), .unset] [])) _
        refine XS.iloadN X0.here hx rfl (hb hby at_47) rfl ?_
        show Steps p.tables e below (s₁.setTop (mkF m 48 #[.val (.long q0), .second, .val (.int p1), .val (.int (v0_3 q0 p1)), .val (.double (v0_6 q0 p1)), .second, .val (.int (j0_11_s0 q0 p1)), .unset] [(.int (v0_3 q0 p1))])) _
        refine XS.iconst X0.here hx rfl (hb hby at_48) ?_
        show Steps p.tables e below (s₁.setTop (mkF m 49 #[.val (.long q0), .second, .val (.int p1), .val (.int (v0_3 q0 p1)), .val (.double (v0_6 q0 p1)), .second, .val (.int (j0_11_s0 q0 p1)), .unset] [(.int (2 : Int32)), (.int (v0_3 q0 p1))])) _
        suffices kt49 : Steps p.tables e below (s₁.setTop (mkF m 78 #[.val (.long q0), .second, .val (.int p1), .val (.int (v0_3 q0 p1)), .val (.double (j0_49_l4 q0 p1)), .second, .val (.int (j0_49_l6 q0 p1)), .unset] [])) (T2.setFrames fs) by
          by_cases hc49 : if_icmp.holds .ne (v0_3 q0 p1) (2 : Int32) = true
          · rw [show (j0_49_l4 q0 p1) = (j0_67_l4 q0 p1) from if_pos hc49] at kt49
            rw [show (j0_49_l6 q0 p1) = (j0_11_s0 q0 p1) from if_pos hc49] at kt49
            refine XS.icmpYes X0.here hx rfl (pc0 := 49) (pc' := 65) rfl (hb hby at_49) rfl hc49 (by decide) (by decide) ?_
            show Steps p.tables e below (s₁.setTop (mkF m 65 #[.val (.long q0), .second, .val (.int p1), .val (.int (v0_3 q0 p1)), .val (.double (v0_6 q0 p1)), .second, .val (.int (j0_11_s0 q0 p1)), .unset] [])) _
            refine XS.iloadN X0.here hx rfl (hb hby at_65) rfl ?_
            show Steps p.tables e below (s₁.setTop (mkF m 66 #[.val (.long q0), .second, .val (.int p1), .val (.int (v0_3 q0 p1)), .val (.double (v0_6 q0 p1)), .second, .val (.int (j0_11_s0 q0 p1)), .unset] [(.int (v0_3 q0 p1))])) _
            refine XS.iconst X0.here hx rfl (hb hby at_66) ?_
            show Steps p.tables e below (s₁.setTop (mkF m 67 #[.val (.long q0), .second, .val (.int p1), .val (.int (v0_3 q0 p1)), .val (.double (v0_6 q0 p1)), .second, .val (.int (j0_11_s0 q0 p1)), .unset] [(.int (3 : Int32)), (.int (v0_3 q0 p1))])) _
            suffices kt67 : Steps p.tables e below (s₁.setTop (mkF m 78 #[.val (.long q0), .second, .val (.int p1), .val (.int (v0_3 q0 p1)), .val (.double (j0_67_l4 q0 p1)), .second, .val (.int (j0_11_s0 q0 p1)), .unset] [])) (T2.setFrames fs) by
              by_cases hc67 : if_icmp.holds .ne (v0_3 q0 p1) (3 : Int32) = true
              · rw [show (j0_67_l4 q0 p1) = (v0_6 q0 p1) from if_pos hc67] at kt67
                refine XS.icmpYes X0.here hx rfl (pc0 := 67) (pc' := 78) rfl (hb hby at_67) rfl hc67 (by decide) (by decide) ?_
                exact kt67
              · rw [show (j0_67_l4 q0 p1) = (FP.dmul (v0_6 q0 p1) (9094988921128908188 : UInt64)) from if_neg hc67] at kt67
                refine XS.icmpNo X0.here hx rfl (hb hby at_67) rfl (eq_false_of_ne_true hc67) ?_
                show Steps p.tables e below (s₁.setTop (mkF m 70 #[.val (.long q0), .second, .val (.int p1), .val (.int (v0_3 q0 p1)), .val (.double (v0_6 q0 p1)), .second, .val (.int (j0_11_s0 q0 p1)), .unset] [])) _
                refine XS.dload X0.here hx rfl (hb hby at_70) rfl ?_
                show Steps p.tables e below (s₁.setTop (mkF m 72 #[.val (.long q0), .second, .val (.int p1), .val (.int (v0_3 q0 p1)), .val (.double (v0_6 q0 p1)), .second, .val (.int (j0_11_s0 q0 p1)), .unset] [(.double (v0_6 q0 p1))])) _
                refine X0.ldc2DoubleC hx hown (mvT hZ (hw _ (List.mem_of_getElem? (i := 7) rfl))) (g := (mkF m 72 #[.val (.long q0), .second, .val (.int p1), .val (.int (v0_3 q0 p1)), .val (.double (v0_6 q0 p1)), .second, .val (.int (j0_11_s0 q0 p1)), .unset] [(.double (v0_6 q0 p1))])) rfl (hb hby at_72) _ ?_
                show Steps p.tables e below (s₁.setTop (mkF m 75 #[.val (.long q0), .second, .val (.int p1), .val (.int (v0_3 q0 p1)), .val (.double (v0_6 q0 p1)), .second, .val (.int (j0_11_s0 q0 p1)), .unset] [(.double (9094988921128908188 : UInt64)), (.double (v0_6 q0 p1))])) _
                refine XS.dmulS X0.here hx rfl (hb hby at_75) rfl hn75 rfl ?_
                show Steps p.tables e below (s₁.setTop (mkF m 76 #[.val (.long q0), .second, .val (.int p1), .val (.int (v0_3 q0 p1)), .val (.double (v0_6 q0 p1)), .second, .val (.int (j0_11_s0 q0 p1)), .unset] [(.double (FP.dmul (v0_6 q0 p1) (9094988921128908188 : UInt64)))])) _
                refine XS.dstore X0.here hx rfl (hb hby at_76) rfl (l' := #[.val (.long q0), .second, .val (.int p1), .val (.int (v0_3 q0 p1)), .val (.double (FP.dmul (v0_6 q0 p1) (9094988921128908188 : UInt64))), .second, .val (.int (j0_11_s0 q0 p1)), .unset]) rfl ?_
                exact kt67
            exact kt49
          · rw [show (j0_49_l4 q0 p1) = (FP.dneg (v0_6 q0 p1)) from if_neg hc49] at kt49
            rw [show (j0_49_l6 q0 p1) = (-(j0_11_s0 q0 p1)) from if_neg hc49] at kt49
            refine XS.icmpNo X0.here hx rfl (hb hby at_49) rfl (eq_false_of_ne_true hc49) ?_
            show Steps p.tables e below (s₁.setTop (mkF m 52 #[.val (.long q0), .second, .val (.int p1), .val (.int (v0_3 q0 p1)), .val (.double (v0_6 q0 p1)), .second, .val (.int (j0_11_s0 q0 p1)), .unset] [])) _
            refine XS.dload X0.here hx rfl (hb hby at_52) rfl ?_
            show Steps p.tables e below (s₁.setTop (mkF m 54 #[.val (.long q0), .second, .val (.int p1), .val (.int (v0_3 q0 p1)), .val (.double (v0_6 q0 p1)), .second, .val (.int (j0_11_s0 q0 p1)), .unset] [(.double (v0_6 q0 p1))])) _
            refine XS.dnegS X0.here hx rfl (hb hby at_54) rfl rfl ?_
            show Steps p.tables e below (s₁.setTop (mkF m 55 #[.val (.long q0), .second, .val (.int p1), .val (.int (v0_3 q0 p1)), .val (.double (v0_6 q0 p1)), .second, .val (.int (j0_11_s0 q0 p1)), .unset] [(.double (FP.dneg (v0_6 q0 p1)))])) _
            refine XS.dstore X0.here hx rfl (hb hby at_55) rfl (l' := #[.val (.long q0), .second, .val (.int p1), .val (.int (v0_3 q0 p1)), .val (.double (FP.dneg (v0_6 q0 p1))), .second, .val (.int (j0_11_s0 q0 p1)), .unset]) rfl ?_
            show Steps p.tables e below (s₁.setTop (mkF m 57 #[.val (.long q0), .second, .val (.int p1), .val (.int (v0_3 q0 p1)), .val (.double (FP.dneg (v0_6 q0 p1))), .second, .val (.int (j0_11_s0 q0 p1)), .unset] [])) _
            refine XS.iload X0.here hx rfl (hb hby at_57) rfl ?_
            show Steps p.tables e below (s₁.setTop (mkF m 59 #[.val (.long q0), .second, .val (.int p1), .val (.int (v0_3 q0 p1)), .val (.double (FP.dneg (v0_6 q0 p1))), .second, .val (.int (j0_11_s0 q0 p1)), .unset] [(.int (j0_11_s0 q0 p1))])) _
            refine XS.ineg X0.here hx rfl (hb hby at_59) rfl ?_
            show Steps p.tables e below (s₁.setTop (mkF m 60 #[.val (.long q0), .second, .val (.int p1), .val (.int (v0_3 q0 p1)), .val (.double (FP.dneg (v0_6 q0 p1))), .second, .val (.int (j0_11_s0 q0 p1)), .unset] [(.int (-(j0_11_s0 q0 p1)))])) _
            refine XS.istore X0.here hx rfl (hb hby at_60) rfl (l' := #[.val (.long q0), .second, .val (.int p1), .val (.int (v0_3 q0 p1)), .val (.double (FP.dneg (v0_6 q0 p1))), .second, .val (.int (-(j0_11_s0 q0 p1))), .unset]) rfl ?_
            show Steps p.tables e below (s₁.setTop (mkF m 62 #[.val (.long q0), .second, .val (.int p1), .val (.int (v0_3 q0 p1)), .val (.double (FP.dneg (v0_6 q0 p1))), .second, .val (.int (-(j0_11_s0 q0 p1))), .unset] [])) _
            refine XS.goto X0.here hx rfl (pc0 := 62) (pc' := 78) rfl (hb hby at_62) (by decide) (by decide) ?_
            exact kt49
        exact kt33
      · rw [show (j0_33_l4 q0 p1) = (FP.ddiv (v0_6 q0 p1) (4652218415073722368 : UInt64)) from if_neg hc33] at kt33
        rw [show (j0_33_l6 q0 p1) = (j0_11_s0 q0 p1) from if_neg hc33] at kt33
        refine XS.icmpNo X0.here hx rfl (hb hby at_33) rfl (eq_false_of_ne_true hc33) ?_
        show Steps p.tables e below (s₁.setTop (mkF m 36 #[.val (.long q0), .second, .val (.int p1), .val (.int (v0_3 q0 p1)), .val (.double (v0_6 q0 p1)), .second, .val (.int (j0_11_s0 q0 p1)), .unset] [])) _
        refine XS.dload X0.here hx rfl (hb hby at_36) rfl ?_
        show Steps p.tables e below (s₁.setTop (mkF m 38 #[.val (.long q0), .second, .val (.int p1), .val (.int (v0_3 q0 p1)), .val (.double (v0_6 q0 p1)), .second, .val (.int (j0_11_s0 q0 p1)), .unset] [(.double (v0_6 q0 p1))])) _
        refine X0.ldc2DoubleC hx hown (mvT hZ (hw _ (List.mem_of_getElem? (i := 14) rfl))) (g := (mkF m 38 #[.val (.long q0), .second, .val (.int p1), .val (.int (v0_3 q0 p1)), .val (.double (v0_6 q0 p1)), .second, .val (.int (j0_11_s0 q0 p1)), .unset] [(.double (v0_6 q0 p1))])) rfl (hb hby at_38) _ ?_
        show Steps p.tables e below (s₁.setTop (mkF m 41 #[.val (.long q0), .second, .val (.int p1), .val (.int (v0_3 q0 p1)), .val (.double (v0_6 q0 p1)), .second, .val (.int (j0_11_s0 q0 p1)), .unset] [(.double (4652218415073722368 : UInt64)), (.double (v0_6 q0 p1))])) _
        refine XS.ddivS X0.here hx rfl (hb hby at_41) rfl hn41 rfl ?_
        show Steps p.tables e below (s₁.setTop (mkF m 42 #[.val (.long q0), .second, .val (.int p1), .val (.int (v0_3 q0 p1)), .val (.double (v0_6 q0 p1)), .second, .val (.int (j0_11_s0 q0 p1)), .unset] [(.double (FP.ddiv (v0_6 q0 p1) (4652218415073722368 : UInt64)))])) _
        refine XS.dstore X0.here hx rfl (hb hby at_42) rfl (l' := #[.val (.long q0), .second, .val (.int p1), .val (.int (v0_3 q0 p1)), .val (.double (FP.ddiv (v0_6 q0 p1) (4652218415073722368 : UInt64))), .second, .val (.int (j0_11_s0 q0 p1)), .unset]) rfl ?_
        show Steps p.tables e below (s₁.setTop (mkF m 44 #[.val (.long q0), .second, .val (.int p1), .val (.int (v0_3 q0 p1)), .val (.double (FP.ddiv (v0_6 q0 p1) (4652218415073722368 : UInt64))), .second, .val (.int (j0_11_s0 q0 p1)), .unset] [])) _
        refine XS.goto X0.here hx rfl (pc0 := 44) (pc' := 78) rfl (hb hby at_44) (by decide) (by decide) ?_
        exact kt33
    show Steps p.tables e below (s₁.setTop (mkF m 78 #[.val (.long q0), .second, .val (.int p1), .val (.int (v0_3 q0 p1)), .val (.double (j0_33_l4 q0 p1)), .second, .val (.int (j0_33_l6 q0 p1)), .unset] [])) _
    refine XS.iload X0.here hx rfl (hb hby at_78) rfl ?_
    show Steps p.tables e below (s₁.setTop (mkF m 80 #[.val (.long q0), .second, .val (.int p1), .val (.int (v0_3 q0 p1)), .val (.double (j0_33_l4 q0 p1)), .second, .val (.int (j0_33_l6 q0 p1)), .unset] [(.int (j0_33_l6 q0 p1))])) _
    refine XS.ifYes X0.here hx rfl (pc0 := 80) (pc' := 91) rfl (hb hby at_80) rfl hc80 (by decide) (by decide) ?_
    show Steps p.tables e below (s₁.setTop (mkF m 91 #[.val (.long q0), .second, .val (.int p1), .val (.int (v0_3 q0 p1)), .val (.double (j0_33_l4 q0 p1)), .second, .val (.int (j0_33_l6 q0 p1)), .unset] [])) _
    refine XS.iload X0.here hx rfl (hb hby at_91) rfl ?_
    show Steps p.tables e below (s₁.setTop (mkF m 93 #[.val (.long q0), .second, .val (.int p1), .val (.int (v0_3 q0 p1)), .val (.double (j0_33_l4 q0 p1)), .second, .val (.int (j0_33_l6 q0 p1)), .unset] [(.int (j0_33_l6 q0 p1))])) _
    refine XS.ifYes X0.here hx rfl (pc0 := 93) (pc' := 104) rfl (hb hby at_93) rfl hc93 (by decide) (by decide) ?_
    show Steps p.tables e below (s₁.setTop (mkF m 104 #[.val (.long q0), .second, .val (.int p1), .val (.int (v0_3 q0 p1)), .val (.double (j0_33_l4 q0 p1)), .second, .val (.int (j0_33_l6 q0 p1)), .unset] [])) _
    refine st1 _ ?_
    show Steps p.tables e below (T1.setTop (mkF m 107 #[.val (.long q0), .second, .val (.int p1), .val (.int (v0_3 q0 p1)), .val (.double (j0_33_l4 q0 p1)), .second, .val (.int (j0_33_l6 q0 p1)), .unset] [w_UNDECIDED])) _
    refine XS.astore X1.here hx rfl (hb hby at_107) rfl r_w_UNDECIDED (l' := #[.val (.long q0), .second, .val (.int p1), .val (.int (v0_3 q0 p1)), .val (.double (j0_33_l4 q0 p1)), .second, .val (.int (j0_33_l6 q0 p1)), .val w_UNDECIDED]) ((storeLocals_cat1 (i := 7) rfl (Jvm.OwnFP.cat1R r_w_UNDECIDED) (by first | trivial | rfl)).trans rfl) ?_
    show Steps p.tables e below (T1.setTop (mkF m 109 #[.val (.long q0), .second, .val (.int p1), .val (.int (v0_3 q0 p1)), .val (.double (j0_33_l4 q0 p1)), .second, .val (.int (j0_33_l6 q0 p1)), .val w_UNDECIDED] [])) _
    refine XS.dload X1.here hx rfl (hb hby at_109) rfl ?_
    show Steps p.tables e below (T1.setTop (mkF m 111 #[.val (.long q0), .second, .val (.int p1), .val (.int (v0_3 q0 p1)), .val (.double (j0_33_l4 q0 p1)), .second, .val (.int (j0_33_l6 q0 p1)), .val w_UNDECIDED] [(.double (j0_33_l4 q0 p1))])) _
    refine st2 _ ?_
    show Steps p.tables e below (T2.setTop (mkF m 114 #[.val (.long q0), .second, .val (.int p1), .val (.int (v0_3 q0 p1)), .val (.double (j0_33_l4 q0 p1)), .second, .val (.int (j0_33_l6 q0 p1)), .val w_UNDECIDED] [w_UNDECIDED])) _
    refine XS.aload X2.here hx rfl (hb hby at_114) rfl r_w_UNDECIDED ?_
    show Steps p.tables e below (T2.setTop (mkF m 116 #[.val (.long q0), .second, .val (.int p1), .val (.int (v0_3 q0 p1)), .val (.double (j0_33_l4 q0 p1)), .second, .val (.int (j0_33_l6 q0 p1)), .val w_UNDECIDED] [w_UNDECIDED, w_UNDECIDED])) _
    refine Jvm.RoadKit.acmp (g := (mkF m 116 #[.val (.long q0), .second, .val (.int p1), .val (.int (v0_3 q0 p1)), .val (.double (j0_33_l4 q0 p1)), .second, .val (.int (j0_33_l6 q0 p1)), .val w_UNDECIDED] [w_UNDECIDED, w_UNDECIDED])) X2 hx rfl r_w_UNDECIDED r_w_UNDECIDED (pc0 := 116) (pc' := 119) (same := true) rfl (hb hby at_116) rfl (decide_eq_true rfl) (by decide) (by decide) ?_
    show Steps p.tables e below (T2.setTop (mkF m 119 #[.val (.long q0), .second, .val (.int p1), .val (.int (v0_3 q0 p1)), .val (.double (j0_33_l4 q0 p1)), .second, .val (.int (j0_33_l6 q0 p1)), .val w_UNDECIDED] [])) _
    refine XS.iconst X2.here hx rfl (hb hby at_119) ?_
    show Steps p.tables e below (T2.setTop (mkF m 120 #[.val (.long q0), .second, .val (.int p1), .val (.int (v0_3 q0 p1)), .val (.double (j0_33_l4 q0 p1)), .second, .val (.int (j0_33_l6 q0 p1)), .val w_UNDECIDED] [(.int (1 : Int32))])) _
    refine XS.goto X2.here hx rfl (pc0 := 120) (pc' := 124) rfl (hb hby at_120) (by decide) (by decide) ?_
    show Steps p.tables e below (T2.setTop (mkF m 124 #[.val (.long q0), .second, .val (.int p1), .val (.int (v0_3 q0 p1)), .val (.double (j0_33_l4 q0 p1)), .second, .val (.int (j0_33_l6 q0 p1)), .val w_UNDECIDED] [(.int (1 : Int32))])) _
    exact retN X2 hx (t := .boolean) Bd.returns (by simp) (hb hby at_124) hr
  · show Q0u Z q0 p1 w_UNDECIDED h0 n0 _ T2.heap _
    exact ⟨rfl, N2⟩
theorem rm0 (l : Launch) (Z : State) (aw : Array Value) (hw : ∀ d ∈ tables_1, d.before aw Z = true) (ws : List Jvm.Cond) (q0 : Int64) (p1 : Int32) (wS wV wU : Value) (h0 : Heap) (n0 : Nat) (Z0 : n0 ≤ h0.size) (S1 : Sta Z h0 "com/example/mutaprop/mutaprop/stl/Verdict" "SATISFIED" "Lcom/example/mutaprop/mutaprop/stl/Verdict;" wS) (S2 : Sta Z h0 "com/example/mutaprop/mutaprop/stl/Verdict" "VIOLATED" "Lcom/example/mutaprop/mutaprop/stl/Verdict;" wV) (S3 : Sta Z h0 "com/example/mutaprop/mutaprop/stl/Verdict" "UNDECIDED" "Lcom/example/mutaprop/mutaprop/stl/Verdict;" wU) (r1 : wS.isRef = true) (r2 : wV.isRef = true) (r3 : wU.isRef = true) :
    MetFree l x (head1 (Jvm.Cond.code x code maxLocals ret :: ws) room_1) (fun a U => a = #[(.long q0), (.int p1)] ∧ Z.Warmed39 U.vm ∧ U.heap = h0) (fun _ _ _ _ _ => True) (fun _ U o U' => ∃ v L, o = .returned v ∧ Q0s Z q0 p1 wS h0 n0 v U'.heap L ∧ FrameEnd U o U' L 0 0) := by
  by_cases h1 : ifCond.holds .le (j0_33_l6 q0 p1) = true
  · by_cases h2 : ifCond.holds .ge (j0_33_l6 q0 p1) = true
    · exact rm0u l Z aw hw ws q0 p1 wU h0 n0 Z0 (own_n75 q0 p1) (own_n41 q0 p1) h1 h2 S3 r3 (own_u1 q0 p1 h1 h2) (own_u2 q0 p1 h1 h2)
    · exact rm0v l Z aw hw ws q0 p1 wV h0 n0 Z0 (own_n75 q0 p1) (own_n41 q0 p1) h1 (eq_false_of_ne_true h2) S2 r2 (own_v1 q0 p1 (eq_false_of_ne_true h2)) (own_v2 q0 p1 (eq_false_of_ne_true h2))
  · exact rm0s l Z aw hw ws q0 p1 wS h0 n0 Z0 (own_n75 q0 p1) (own_n41 q0 p1) (eq_false_of_ne_true h1) S1 r1 (own_s1 q0 p1 (eq_false_of_ne_true h1))
set_option maxRecDepth 65536 in
set_option maxHeartbeats 40000000 in
theorem comes_1 {Post : Tables → Env → Array Value → State → Outcome → State → Prop} (hpost : ∀ tb e args s v u, (limb_1_1.after args s (.returned v) u = true ∧ limb_1_2.after args s (.returned v) u = true ∧ True) → FrameEnd s (.returned v) u (Jvm.fieldLocs frame_1_writes args s ++ Jvm.arrayLocs frame_1_arrays args s ++ Jvm.staticLocs frame_1_statics s) 0 0 → Post tb e args s (.returned v) u) :
    ArmFor flags0 classFile x code maxLocals ret World_1 tables_1 room_1 Calls_1 rest_1 Pre_1 Post := by
  intro l hfl _ _ p e ha hc hk s m args below hf hA hF happ hP
  obtain ⟨hcalls, hrest, hpre⟩ := hP
  obtain ⟨-, -, -, hnamed, -, -, -, hat⟩ := (Spec.applies_iff hf).mp happ
  obtain ⟨hg, hn⟩ := and_e (Cond.before_iff.mp (show (Jvm.Cond.and given_1 narrow_1).before args s = true from hpre))
  obtain ⟨k0, r0⟩ := and_e hg
  obtain ⟨a0, r1⟩ := and_e r0
  have a1 := r1
  obtain ⟨w0, w1, rfl⟩ : ∃ w0 w1 : Value, args = #[w0, w1] := by
    have hs : args.size = 2 := by simpa [Cond.value, given_1] using k0
    obtain ⟨L⟩ := args
    match L, hs with
    | [w0, w1], _ => exact ⟨w0, w1, rfl⟩
  have hw := fun d (hd : d ∈ tables_1) => atoms_spec (ws := Jvm.Cond.code x code maxLocals ret :: tables_1) hat d (List.mem_cons_of_mem _ hd)
  obtain ⟨i0, ei0⟩ := isL_v a0
  obtain rfl : w0 = (.long i0) := Option.some.inj ei0
  obtain ⟨i1, ei1⟩ := is_v a1
  obtain rfl : w1 = (.int i1) := Option.some.inj ei1
  have hfit : Fit s := fun {y c} hc i hi => by
    obtain ⟨ha, rfl⟩ := Array.getElem?_eq_some_iff.mp hc
    have q := List.all_eq_true.mp ((Array.all_eq_true_iff_forall_mem.mp hF) _ (Array.getElem_mem ha)) i (List.mem_range.mpr hi)
    simpa [Array.getElem?_eq_getElem hi] using q
  have hv : ∀ n, (Jvm.Cond.laysStatic "com/example/mutaprop/mutaprop/stl/Verdict" n "Lcom/example/mutaprop/mutaprop/stl/Verdict;").before #[.long i0, .int i1] s = true → ∃ v : Value, Sta s s.heap "com/example/mutaprop/mutaprop/stl/Verdict" n "Lcom/example/mutaprop/mutaprop/stl/Verdict;" v ∧ v.isRef = true := fun n w => by
    obtain ⟨v, e1, e2⟩ := static_fit hfit w (ty := .object "com/example/mutaprop/mutaprop/stl/Verdict") (by decide +kernel)
    exact ⟨v, Sta.start e1 (Or.inr ⟨hw _ (List.mem_of_getElem? (i := 1) rfl), w⟩), fit_R e2 rfl⟩
  obtain ⟨wS, S1, r1⟩ := hv _ (hw _ (List.mem_of_getElem? (i := 9) rfl))
  obtain ⟨wV, S2, r2⟩ := hv _ (hw _ (List.mem_of_getElem? (i := 2) rfl))
  obtain ⟨wU, S3, r3⟩ := hv _ (hw _ (List.mem_of_getElem? (i := 12) rfl))
  obtain ⟨n, o, h1, h2, h3, _, L, rfl, ⟨rfl, N⟩, hq⟩ := rm0 l s _ hw tables_1 i0 i1 wS wV wU s.heap s.heap.size (Nat.le_refl _) S1 S2 S3 r1 r2 r3 p e ha hc hk s m _ below hf ((Spec.applies_iff_loose hf).mp happ).1 ⟨rfl, State.Warmed39.refl s, rfl⟩ trivial
  refine ⟨n, _, h1, h2, h3, hpost _ _ _ _ _ _ ⟨Cond.after_iff.mpr rfl, Cond.after_iff.mpr (eq_i res_at (Term.int_eval (1)) rfl), trivial⟩ ⟨hq.1, hq.2.1, (hq.2.2.sift fun y hy => Or.inr (N y hy)).mono (by decide) (by decide)⟩⟩
theorem main_1_1 : Claimed_1_1 := comes_1 fun _ _ _ _ _ _ h hF => ⟨h.1, hF⟩
theorem main_1_2 : Claimed_1_2 := comes_1 fun _ _ _ _ _ _ h hF => ⟨h.2.1, hF⟩
end Jvm.Pilot.@@N@@
namespace Jvm.Pilot.@@N@@
open Jvm Jvm.ClassFile Sem Op Lib Jvm.Free Jvm.Stand Jvm.Pilot.@@N@@.Jvm.D
/-! MADE BY PROGRAM (witnessworld.py) out of the Statement's table words and the real class files: 12 classes; the members and pool entries that the words name. The judged class is class 1, her method 1. -/
namespace start1
open Jvm.ClassFile
def u (s : String) : CpInfo := .utf8 (stringToUtf16 s)
/-- a pool by its gaps: so many unusable entries, then the entry; so many at the end -/
def gap : Nat → List CpInfo → List CpInfo
  | 0, r => r
  | n + 1, r => .unusable :: gap n r
def poolList (es : List (Nat × CpInfo)) (last : Nat) : List CpInfo := es.foldr (fun e r => gap e.1 (e.2 :: r)) (gap last [])
def pool (es : List (Nat × CpInfo)) (last : Nat) : Array CpInfo := ⟨poolList es last⟩
def fileOf (pool : Array CpInfo) (this : Nat) (attrs : Array Attribute := #[]) (ms : Array MethodInfo := #[]) (fl : Nat := 33) (sup : Nat := 0) (ifs : Array Nat := #[]) (fds : Array FieldInfo := #[]) : ClassFile where
  minorVersion := 0
  majorVersion := 65
  constantPool := pool
  accessFlags := fl
  thisClass := this
  superClass := sup
  interfaces := ifs
  fields := fds
  methods := ms
  attributes := attrs
def plain (name : String) (sup : Option ClassId) : Class where
  name := name
  kind := .ordinary
  loader := none
  accessFlags := 33
  super := sup
  interfaces := #[]
  cf := none
  fields := #[]
  methods := #[]
  instanceTypes := #[]
  staticTypes := #[]
  resolved := #[]
  callSites := []
  init := .initialized
  statics := none
  mirror := none

def pool0 : Array CpInfo := pool [(5, u "<init>"), (0, u "()V"), (1, .class_ 10), (1, u "java/lang/Object")] 113

def k0m0 : Method := { name := "<init>", desc := "()V", sig := { parameters := [], returnType := none }, accessFlags := 1, code := none }
/-- java/lang/Object -/
def k0 : Class := { plain "java/lang/Object" none with
  accessFlags := 33
  interfaces := #[]
  cf := some (fileOf pool0 8 #[] #[{ accessFlags := 1, nameIndex := 5, descriptorIndex := 6, attributes := #[] }] 33 0 #[] #[])
  fields := #[]
  methods := #[k0m0]
  instanceTypes := #[]
  staticTypes := #[]
  resolved := Array.replicate 124 none
  statics := none }

def pool1 : Array CpInfo := pool [(2, .class_ 4), (1, u "java/lang/Object"), (0, u "<init>"), (0, u "()V"), (0, .double 4652218415073722368), (1, .double 9094988921128908188), (1, .fieldref 12 13), (0, .class_ 14), (0, .nameAndType 15 16), (0, u "com/example/mutaprop/mutaprop/stl/Verdict"), (0, u "SATISFIED"), (0, u "Lcom/example/mutaprop/mutaprop/stl/Verdict;"), (0, .fieldref 12 18), (0, .nameAndType 19 16), (0, u "VIOLATED"), (0, .fieldref 12 21), (0, .nameAndType 22 16), (0, u "UNDECIDED"), (0, .methodref 12 24), (0, .nameAndType 25 26), (0, u "of"), (0, u "(D)Lcom/example/mutaprop/mutaprop/stl/Verdict;"), (0, .class_ 28), (0, u "com/example/mutaprop/mutaprop/stl/VerdictOfPinLaw"), (2, u "law"), (0, u "(JI)Z")] 3

def k1m0 : Method := { name := "<init>", desc := "()V", sig := { parameters := [], returnType := none }, accessFlags := 1, code := none }
def k1c1 : Code := { maxStack := 4, maxLocals := 8, code := code, exceptionTable := #[], attributes := #[] }
def k1m1 : Method := { name := "law", desc := "(JI)Z", sig := { parameters := [.long, .int], returnType := some .boolean }, accessFlags := 9, code := some k1c1 }
/-- com/example/mutaprop/mutaprop/stl/VerdictOfPinLaw -/
def k1 : Class := { plain "com/example/mutaprop/mutaprop/stl/VerdictOfPinLaw" (some 0) with
  accessFlags := 49
  interfaces := #[]
  cf := some (fileOf pool1 27 #[] #[{ accessFlags := 1, nameIndex := 5, descriptorIndex := 6, attributes := #[] }, { accessFlags := 9, nameIndex := 31, descriptorIndex := 32, attributes := #[] }] 49 2 #[] #[])
  fields := #[]
  methods := #[k1m0, k1m1]
  instanceTypes := #[]
  staticTypes := #[]
  resolved := Array.replicate 36 none
  statics := none }

def pool2 : Array CpInfo := pool [(1, .class_ 2), (0, u "java/lang/constant/Constable"), (0, .class_ 4), (0, u "java/lang/Object")] 6

/-- java/lang/constant/Constable -/
def k2 : Class := { plain "java/lang/constant/Constable" (some 0) with
  accessFlags := 1537
  interfaces := #[]
  cf := some (fileOf pool2 1 #[] #[] 1537 3 #[] #[])
  fields := #[]
  methods := #[]
  instanceTypes := #[]
  staticTypes := #[]
  resolved := Array.replicate 11 none
  statics := none }

def pool3 : Array CpInfo := pool [(1, .class_ 2), (0, u "java/lang/Comparable"), (0, .class_ 4), (0, u "java/lang/Object")] 7

/-- java/lang/Comparable -/
def k3 : Class := { plain "java/lang/Comparable" (some 0) with
  accessFlags := 1537
  interfaces := #[]
  cf := some (fileOf pool3 1 #[] #[] 1537 3 #[] #[])
  fields := #[]
  methods := #[]
  instanceTypes := #[]
  staticTypes := #[]
  resolved := Array.replicate 12 none
  statics := none }

def pool4 : Array CpInfo := pool [(1, .class_ 2), (0, u "java/io/Serializable"), (0, .class_ 4), (0, u "java/lang/Object")] 2

/-- java/io/Serializable -/
def k4 : Class := { plain "java/io/Serializable" (some 0) with
  accessFlags := 1537
  interfaces := #[]
  cf := some (fileOf pool4 1 #[] #[] 1537 3 #[] #[])
  fields := #[]
  methods := #[]
  instanceTypes := #[]
  staticTypes := #[]
  resolved := Array.replicate 7 none
  statics := none }

def pool5 : Array CpInfo := pool [(2, .class_ 4), (1, u "java/lang/Enum"), (0, u "name"), (0, u "Ljava/lang/String;"), (2, u "ordinal"), (0, u "I"), (1, .class_ 14), (1, u "java/lang/Object"), (4, u "hash"), (86, .class_ 108), (1, u "java/lang/Enum$EnumDesc"), (2, .class_ 112), (0, u "java/lang/constant/Constable"), (0, .class_ 114), (0, u "java/lang/Comparable"), (0, .class_ 116), (0, u "java/io/Serializable")] 87

/-- java/lang/Enum -/
def k5 : Class := { plain "java/lang/Enum" (some 0) with
  accessFlags := 1057
  interfaces := #[2, 3, 4]
  cf := some (fileOf pool5 2 #[.nestMembers #[106]] #[] 1057 12 #[111, 113, 115] #[{ accessFlags := 18, nameIndex := 5, descriptorIndex := 6, attributes := #[] }, { accessFlags := 18, nameIndex := 9, descriptorIndex := 10, attributes := #[] }, { accessFlags := 2, nameIndex := 19, descriptorIndex := 10, attributes := #[] }])
  fields := #[{ name := "name", type := (.object "java/lang/String"), accessFlags := 18, slot := 0, constantValue := 0 }, { name := "ordinal", type := .int, accessFlags := 18, slot := 1, constantValue := 0 }, { name := "hash", type := .int, accessFlags := 2, slot := 2, constantValue := 0 }]
  methods := #[]
  instanceTypes := #[(.object "java/lang/String"), .int, .int]
  staticTypes := #[]
  resolved := Array.replicate 204 none
  statics := none }

def pool6 : Array CpInfo := pool [(1, .class_ 2), (0, u "com/example/mutaprop/mutaprop/stl/Verdict"), (0, .fieldref 1 4), (0, .nameAndType 5 6), (0, u "SATISFIED"), (0, u "Lcom/example/mutaprop/mutaprop/stl/Verdict;"), (0, .fieldref 1 8), (0, .nameAndType 9 6), (0, u "VIOLATED"), (0, .fieldref 1 11), (0, .nameAndType 12 6), (0, u "UNDECIDED"), (2, u "$VALUES"), (0, u "[Lcom/example/mutaprop/mutaprop/stl/Verdict;"), (6, .class_ 25), (1, u "java/lang/Enum"), (37, u "of"), (0, u "(D)Lcom/example/mutaprop/mutaprop/stl/Verdict;")] 6

def k6c0 : Code := { maxStack := 4, maxLocals := 2, code := prog_41_method_4_code, exceptionTable := #[], attributes := #[] }
def k6m0 : Method := { name := "of", desc := "(D)Lcom/example/mutaprop/mutaprop/stl/Verdict;", sig := { parameters := [.double], returnType := some (.object "com/example/mutaprop/mutaprop/stl/Verdict") }, accessFlags := 9, code := some k6c0 }
/-- com/example/mutaprop/mutaprop/stl/Verdict -/
def k6 : Class := { plain "com/example/mutaprop/mutaprop/stl/Verdict" (some 5) with
  accessFlags := 16433
  interfaces := #[]
  cf := some (fileOf pool6 1 #[] #[{ accessFlags := 9, nameIndex := 63, descriptorIndex := 64, attributes := #[] }] 16433 23 #[] #[{ accessFlags := 16409, nameIndex := 5, descriptorIndex := 6, attributes := #[] }, { accessFlags := 16409, nameIndex := 9, descriptorIndex := 6, attributes := #[] }, { accessFlags := 16409, nameIndex := 12, descriptorIndex := 6, attributes := #[] }, { accessFlags := 4122, nameIndex := 15, descriptorIndex := 16, attributes := #[] }])
  fields := #[{ name := "SATISFIED", type := (.object "com/example/mutaprop/mutaprop/stl/Verdict"), accessFlags := 16409, slot := 0, constantValue := 0 }, { name := "VIOLATED", type := (.object "com/example/mutaprop/mutaprop/stl/Verdict"), accessFlags := 16409, slot := 1, constantValue := 0 }, { name := "UNDECIDED", type := (.object "com/example/mutaprop/mutaprop/stl/Verdict"), accessFlags := 16409, slot := 2, constantValue := 0 }, { name := "$VALUES", type := (.array (.object "com/example/mutaprop/mutaprop/stl/Verdict")), accessFlags := 4122, slot := 3, constantValue := 0 }]
  methods := #[k6m0]
  instanceTypes := #[(.object "java/lang/String"), .int, .int]
  staticTypes := #[(.object "com/example/mutaprop/mutaprop/stl/Verdict"), (.object "com/example/mutaprop/mutaprop/stl/Verdict"), (.object "com/example/mutaprop/mutaprop/stl/Verdict"), (.array (.object "com/example/mutaprop/mutaprop/stl/Verdict"))]
  resolved := Array.replicate 71 none
  statics := some 0 }

def pool7 : Array CpInfo := pool [(1, u "java/lang/Cloneable"), (0, .class_ 1), (0, u "java/lang/Object"), (0, .class_ 3)] 3

/-- java/lang/Cloneable -/
def k7 : Class := { plain "java/lang/Cloneable" (some 0) with
  accessFlags := 1537
  interfaces := #[]
  cf := some (fileOf pool7 2 #[] #[] 1537 4 #[] #[])
  fields := #[]
  methods := #[]
  instanceTypes := #[]
  staticTypes := #[]
  resolved := Array.replicate 8 none
  statics := none }

/-- the primitive byte -/
def k8 : Class := { plain "byte" none with kind := .primitive 'B', accessFlags := 0x411 }
/-- [B -/
def k9 : Class := { plain "[B" (some 0) with kind := .array 8 .byte, interfaces := #[7, 4], accessFlags := 1041 }

/-- the primitive int -/
def k10 : Class := { plain "int" none with kind := .primitive 'I', accessFlags := 0x411 }
/-- [I -/
def k11 : Class := { plain "[I" (some 0) with kind := .array 10 .int, interfaces := #[7, 4], accessFlags := 1041 }

def heap : Heap := #[{ cls := 6, slots := #[.ref 1, .ref 2, .ref 3, .null], vm := .statics 6 },
  { cls := 6, slots := #[.null, .int 0, .int 0], vm := .none },
  { cls := 6, slots := #[.null, .int 1, .int 0], vm := .none },
  { cls := 6, slots := #[.null, .int 2, .int 0], vm := .none }]
def classes : Array Class := #[k0, k1, k2, k3, k4, k5, k6, k7, k8, k9, k10, k11]
def interned : List (Array UInt16 × Addr) := []
def slotsUsed : Nat := 13
def theMethod : MethodId := ⟨1, 1⟩
def args0 : Array Value := #[.long 5, .int 3]
def aboutOver (below : List Frame) : State where
  vm := { classes := classes, interned := interned.toArray }
  heap := heap
  slotsUsed := slotsUsed
  threads := #[{ frames := .invoking theMethod args0 :: below }]
def below0 : List Frame := [.native { method := ⟨0, 0⟩, args := #[] }]
def about1 : State := aboutOver below0
def p0 : Program := .bare "" "" ""
def e0 : Env := launch0.env 0 0 0
theorem w_frames : about1.frames = Frame.invoking theMethod args0 :: below0 := rfl
set_option maxRecDepth 65536 in
theorem w_args : argsFit about1.vm theMethod args0 = true := by decide +kernel
set_option maxRecDepth 65536 in
theorem w_heap : heapFits about1 = true := by decide +kernel
set_option maxRecDepth 65536 in
theorem w_runnable : about1.curStatus? = some .runnable := by decide +kernel
set_option maxRecDepth 65536 in
theorem w_alone : about1.alone = true := by decide +kernel
set_option maxRecDepth 65536 in
theorem w_named : about1.methodNamed? x = some theMethod := by decide +kernel
set_option maxRecDepth 65536 in
theorem w_hears : about1.hears theMethod below0 = true := by decide +kernel
set_option maxRecDepth 65536 in
theorem w_ripe : about1.ripe theMethod args0 below0 = true := by decide +kernel
theorem w_running : about1.status = .running := rfl
set_option maxRecDepth 65536 in
theorem w_room : about1.hasRoom e0.platform room_1 = true :=
  launch0.hasRoom_least _ room_1 (by decide +kernel) (by decide +kernel) (by decide +kernel) (by decide +kernel) (by decide +kernel) (by decide +kernel)
theorem allAtoms_all (ts : List Jvm.Cond) (a : Array Jvm.Value) (st : Jvm.State) : (allAtoms ts).before a st = ts.all (fun c => c.before a st) := by
  induction ts with
  | nil => rfl
  | cons c t ih =>
    show (Jvm.Cond.and c (allAtoms t)).before a st = _
    rw [Jvm.Cond.before_and, ih, List.all_cons]
def words1 : List Jvm.Cond := Jvm.Cond.code x code maxLocals ret :: tables_1
/-- a 'code' word, met by the world's own term for the bytes: nothing is compared byte by byte -/
theorem code_word {y : MethodName} {bytes : ByteArray} {mx : Nat} {rt : Option FieldType} {a : Array Value} {s : State} {m : MethodId} {meth : Method} {c : Code} (h1 : s.methodNamed? y = some m) (h2 : s.vm.method? m = some meth) (h3 : meth.code = some c) (h4 : c.code = bytes)
    (h5 : (c.maxLocals == mx && c.exceptionTable.isEmpty && decide (c.maxStack ≤ mostOperands) && decide (meth.sig.returnType = rt) && !meth.locks && decide (parseMethodDescriptor y.desc = some meth.sig)) = true) : (Jvm.Cond.code y bytes mx rt).before a s = true := by
  simp only [Bool.and_eq_true, beq_iff_eq, Bool.not_eq_true', decide_eq_true_eq] at h5
  obtain ⟨⟨⟨⟨⟨g1, g2⟩, g3⟩, g4⟩, g5⟩, g6⟩ := h5
  simp [Cond.before, Cond.holds, Cond.value, h1, h2, h3, h4, g1, g2, g3, g4, g5, g6]
def isCode : Jvm.Cond → Bool
  | .code _ _ _ _ => true
  | _ => false
theorem all_split {L : List Jvm.Cond} {P : Jvm.Cond → Bool} (h1 : L.all (fun c => isCode c || P c) = true) (h2 : ∀ c ∈ L.filter isCode, P c = true) : L.all P = true := by
  refine List.all_eq_true.mpr fun c hc => ?_
  have h := List.all_eq_true.mp h1 c hc
  rcases Bool.eq_false_or_eq_true (isCode c) with hi | hi
  · exact h2 c (List.mem_filter.mpr ⟨hc, hi⟩)
  · simpa [hi] using h
set_option maxRecDepth 65536 in
theorem w_c0 : (Jvm.Cond.code x code maxLocals ret).before args0 about1 = true := code_word (m := ⟨1, 1⟩) (meth := k1m1) (c := k1c1) (by decide +kernel) rfl rfl rfl (by decide +kernel)
set_option maxRecDepth 65536 in
theorem w_c1 : (Jvm.Cond.code ({ cls := "com/example/mutaprop/mutaprop/stl/Verdict", name := "of", desc := "(D)Lcom/example/mutaprop/mutaprop/stl/Verdict;" } : Jvm.MethodName) prog_41_method_4_code (2 : Nat) (Option.some (Jvm.ClassFile.FieldType.object "com/example/mutaprop/mutaprop/stl/Verdict"))).before args0 about1 = true := code_word (m := ⟨6, 0⟩) (meth := k6m0) (c := k6c0) (by decide +kernel) rfl rfl rfl (by decide +kernel)
def codes1 : List Jvm.Cond := [Jvm.Cond.code x code maxLocals ret, Jvm.Cond.code ({ cls := "com/example/mutaprop/mutaprop/stl/Verdict", name := "of", desc := "(D)Lcom/example/mutaprop/mutaprop/stl/Verdict;" } : Jvm.MethodName) prog_41_method_4_code (2 : Nat) (Option.some (Jvm.ClassFile.FieldType.object "com/example/mutaprop/mutaprop/stl/Verdict"))]
set_option maxRecDepth 65536 in
theorem codes_eq : words1.filter isCode = codes1 := rfl
theorem w_codes : ∀ c ∈ words1.filter isCode, c.before args0 about1 = true := by
  rw [codes_eq]
  intro c hc
  simp only [codes1, List.mem_cons, List.not_mem_nil, or_false] at hc
  rcases hc with rfl | rfl
  · exact w_c0
  · exact w_c1
set_option maxRecDepth 65536 in
theorem w_t1 : words1.all (fun c => isCode c || c.before args0 about1) = true := by decide +kernel
theorem w_tables : (allAtoms (Jvm.Cond.code x code maxLocals ret :: tables_1)).before args0 about1 = true := by
  rw [allAtoms_all]
  show words1.all (fun c => c.before args0 about1) = true
  refine all_split ?_ w_codes
  rw [w_t1]
set_option maxRecDepth 65536 in
theorem w_case : (Jvm.Cond.and given_1 narrow_1).before args0 about1 = true := by decide +kernel
theorem w_applies : (headSpec (Jvm.Cond.code x code maxLocals ret :: tables_1) room_1).applies x e0.platform about1 = true :=
  (Spec.applies_iff w_frames).mpr ⟨w_running, w_runnable, w_alone, w_named, w_hears, w_ripe, w_room, w_tables⟩
theorem atStart : AtStart classFile x code maxLocals ret World_1 tables_1 room_1 Calls_1 rest_1 Pre_1 launch0 p0 e0 about1 theMethod args0 below0 :=
  ⟨lists_1, trivial, launch0.admits_env _ _ _, launch0.least_env, fairChoices_fair.cas, fairChoices_fair.clock, w_frames, w_args, w_heap, w_applies, trivial, trivial, w_case⟩
end start1
theorem witness_1 : WitnessClaimed_1 := ⟨start1.p0, start1.e0, start1.about1, start1.theMethod, start1.args0, start1.below0, start1.atStart⟩
end Jvm.Pilot.@@N@@
